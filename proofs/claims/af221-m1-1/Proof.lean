import JvmDerived
import JvmDerived.Pilot.@@N@@Statement
import JvmDerived.Pilot.@@N@@Code
set_option linter.unusedVariables false
set_option linter.unusedSimpArgs false
namespace Jvm.RoadKit
open Sem ClassFile Op Lib Jvm.Stand Jvm.Free Jvm.LawKit
section New
variable {p : Program} {l : Launch} {e : Env} {R : Room} {s : State} {m : MethodId} {args : Array Value} {below : List Frame} {meth : Method} {c : Code} {T : State} {locs : List Loc} {cells slots : Nat}
theorem retI (X : Stand p l e R s m args below meth c T locs cells slots) (hx : p.tables.exec = Jvm.exec) {pc : Nat} {Ls : Array Slot} {z : Int32} {rest : List Value} (hret : meth.sig.returnType = some .int) (hd : decode c.code pc = .ok (.ireturn, 1)) {fs : List Frame}
    (hl : ∀ (f : JFrame) (acts : List Action), f.method = m → f.locked = none → f.entered = [] → (doReturn e (T.setTop f) acts (some (.int z))).1 = T.setFrames fs) : Steps p.tables e below (T.setTop (mkF m pc Ls (.int z :: rest))) (T.setFrames fs) := by
  have hm' : T.vm.method? m = some meth := X.method'
  have hn : narrow .int (.int z) = .int z := rfl
  show Steps p.tables e below (T.setTop { method := m, pc := pc, locals := Ls, stack := _ :: rest, locked := none }) _
  jvm_step X.here [X.here.top, hx, hd, hm', hret, hn]
  first | (intro acts; rw [hl _ acts rfl rfl rfl]) | rw [hl _ _ rfl rfl rfl]
  exact Steps.refl _
end New
end Jvm.RoadKit
namespace Jvm.Pilot.@@N@@
open Jvm Jvm.ClassFile Sem Op Lib Jvm.Free Jvm.Stand Jvm.LawKit Jvm.RoadKit Bundle Jvm.Pilot.@@N@@.Jvm.D
/-- the run from U comes to an end of which P holds -/
def Go (p : Program) (e : Env) (below : List Frame) (P : Outcome → State → Prop) (U : State) : Prop := ∃ s₂ o, Steps p.tables e below U s₂ ∧ s₂.status = .running ∧ Ended s₂ below o ∧ P o s₂
theorem Go.mk {p : Program} {e : Env} {below : List Frame} {P : Outcome → State → Prop} {U : State} (s₂ : State) (o : Outcome) (h1 : Steps p.tables e below U s₂) (h2 : s₂.status = .running) (h3 : Ended s₂ below o) (h4 : P o s₂) : Go p e below P U := ⟨s₂, o, h1, h2, h3, h4⟩
theorem Go.of {p : Program} {e : Env} {below : List Frame} {P : Outcome → State → Prop} {U V : State} (st : ∀ t, Steps p.tables e below V t → Steps p.tables e below U t) (h : Go p e below P V) : Go p e below P U := by
  obtain ⟨s₂, o, h1, h⟩ := h
  exact ⟨s₂, o, st _ h1, h⟩
theorem Go.tr {p : Program} {e : Env} {below : List Frame} {P : Outcome → State → Prop} {U V : State} (st : Steps p.tables e below U V) (h : Go p e below P V) : Go p e below P U := by
  obtain ⟨s₂, o, h1, h⟩ := h
  exact ⟨s₂, o, st.trans h1, h⟩
theorem own_sta {args : Array Value} {s : State} {C n d K : String} (h : (Jvm.Cond.exactly (Term.static C n d) K).value args s none s [] = some true) : ∃ a, (Term.static C n d).eval args s none [] s = some (.ref a) ∧ Exa s s.heap a K := by
  obtain ⟨a, ev⟩ := exa_v h
  exact ⟨a, ev, Exa.start ev h⟩
theorem own_fldI {args : Array Value} {s : State} {t : Term} {a : Addr} {C n d : String} {k : Int32} (ev : t.eval args s none [] s = some (.ref a)) (h : (Jvm.Cond.eq (.field t C n d) (.int k)).value args s none s [] = some true) : Fld s s.heap a C n d (.int k) := by
  obtain ⟨x, y, h1, h2, k1, -⟩ := cmp_v (Or.inl h)
  cases h2
  obtain ⟨z, rfl⟩ : ∃ z, x = .int z := by cases x <;> simp [Kin, Value.isRef] at k1 ⊢
  have e : z = k := gotT (Cond.eq_ints h1 rfl) h
  subst e
  rw [fld_at ev] at h1
  exact Fld.start h1
theorem own_fldR {args : Array Value} {s : State} {t t2 : Term} {a b : Addr} {C n d : String} (ev : t.eval args s none [] s = some (.ref a)) (ev2 : t2.eval args s none [] s = some (.ref b)) (h : (Jvm.Cond.eq (.field t C n d) t2).value args s none s [] = some true) : Fld s s.heap a C n d (.ref b) := by
  obtain ⟨x, y, h1, h2, k1, k2⟩ := cmp_v (Or.inl h)
  cases ev2.symm.trans h2
  have e : x = .ref b := by
    have q := gotT (eq_R h1 h2 (by cases x <;> simp [Kin, Value.isRef] at k1 ⊢) rfl) h
    exact q
  subst e
  rw [fld_at ev] at h1
  exact Fld.start h1
theorem own_Sta_keep {Z : State} {h h' : Heap} {C n d : String} {v : Value} {ws : List Addr} (F : Sta Z h C n d v) (K : Keep h h' ws) (q : ∀ x ∈ ws, ∀ cell : Cell, h[x]? = some cell → cell.vm.isStatics = false) : Sta Z h' C n d v := by
  obtain ⟨cf, i, k, f, st, cell, h1, h2, h3, h4, h5, h6, h7⟩ := F
  exact ⟨cf, i, k, f, st, cell, h1, h2, h3, h4, K.2.1 _ _ h5 (fun z => by have := q st z cell h5; rw [h6] at this; cases this), h6, h7⟩
theorem own_Ins_keep {Z : State} {h h' : Heap} {C : String} {a : Addr} {b : Bool} {ws : List Addr} (F : Ins Z h a C b) (K : Keep h h' ws) : Ins Z h' a C b := by
  obtain ⟨cell, cT, h1, h2, h3⟩ := F
  obtain ⟨c', q1, q2, q3, -⟩ := K.2.2 _ _ h1
  exact ⟨c', cT, q1, h2, by rw [q2, q3]; exact h3⟩
theorem own_p0 {h : Heap} : ∀ x ∈ ([] : List Addr), ∀ cell : Cell, h[x]? = some cell → cell.vm.isStatics = false := fun _ q => nomatch q
theorem own_pS {h : Heap} {y : Addr} {L : List Addr} (q : ∀ cell : Cell, h[y]? = some cell → cell.vm.isStatics = false) (r : ∀ x ∈ L, ∀ cell : Cell, h[x]? = some cell → cell.vm.isStatics = false) : ∀ x ∈ y :: L, ∀ cell : Cell, h[x]? = some cell → cell.vm.isStatics = false := fun x z => (List.mem_cons.mp z).elim (fun u => u ▸ q) (r x)
theorem own_plainE {Z : State} {h : Heap} {a : Addr} {C : String} (F : Exa Z h a C) : ∀ cell : Cell, h[a]? = some cell → cell.vm.isStatics = false := fun cell hc => by
  obtain ⟨c', k, h1, -, -, h4, -⟩ := F
  cases hc.symm.trans h1
  exact h4
theorem own_plainF {Z : State} {h : Heap} {a : Addr} {C n d : String} {v : Value} (F : Fld Z h a C n d v) : ∀ cell : Cell, h[a]? = some cell → cell.vm.isStatics = false := old_plain F
theorem own_plainV {Z : State} {h : Heap} {a : Addr} {k : ClassId} {ty : FieldType} {z : Int32} {vs : List Value} {dv : Value} (F : Arv Z h a k ty z vs dv) : ∀ cell : Cell, h[a]? = some cell → cell.vm.isStatics = false := fun cell hc => by
  obtain ⟨c', A, -⟩ := F
  cases hc.symm.trans A.1
  exact A.plain
theorem own_selpriv {args : Array Value} {s : State} {C : String} {y : MethodName} (h : (Jvm.Cond.selects C y y).before args s = true) (hp : s.PrivateAt y) (hi : (Jvm.Cond.instanceMethod y).before args s = true) (hy : y.cls ≠ "java/lang/invoke/MethodHandle" ∧ y.cls ≠ "java/lang/invoke/VarHandle") : (Jvm.Cond.selects y.cls y y).before args s = true := by
  obtain ⟨c, r, m, -, -, q3, -, k, q4, q5⟩ := Cond.selects_spec h
  exact selects_self_of_private (findClass_of_methodNamed q3) q4 q5 hp hi hy
theorem own_same {args : Array Value} {s : State} {C : String} {x y z : MethodName} (h : (Jvm.Cond.selects C x z).before args s = true) (hc : z.cls = y.cls) (hi : (Jvm.Cond.instanceMethod y).before args s = true) (hy : y.cls ≠ "java/lang/invoke/MethodHandle" ∧ y.cls ≠ "java/lang/invoke/VarHandle") : (Jvm.Cond.sameMethod y.cls y.cls y.name y.desc).before args s = true := by
  obtain ⟨c, r, m, -, -, q3, -, k, q4, q5⟩ := Cond.selects_spec h
  obtain ⟨mk, methM, hnamed, -, -, -⟩ := Cond.instanceMethod_spec hi
  have hfound : s.methodFound? y.cls y.name y.desc = some mk := State.methodFound?_of_named hnamed hy
  have e1 := findClass_of_methodNamed hnamed
  have e2 := findClass_of_methodNamed q3
  rw [hc] at e2
  have e3 : m.cls = mk.cls := Option.some.inj (e2.symm.trans e1)
  rw [e3] at q4
  have hn' : s.methodNamed? ⟨y.cls, y.name, y.desc⟩ = some mk := hnamed
  simp [Cond.before, Cond.holds, Cond.value, e1, hfound, hn', q4, q5]
theorem own_nf {args : Array Value} {s : State} {C : String} {x y z : MethodName} (h : (Jvm.Cond.selects C x z).before args s = true) (hc : z.cls = y.cls) : NotFace s y := fun r0 h0 => by
  obtain ⟨c, r, m, -, -, q3, -, k, q4, q5⟩ := Cond.selects_spec h
  have e1 := findClass_of_methodNamed h0
  have e2 := findClass_of_methodNamed q3
  rw [hc] at e2
  have e3 : m.cls = r0.cls := Option.some.inj (e2.symm.trans e1)
  rw [e3] at q4
  exact ⟨k, q4, q5⟩
theorem d1_0 : decode method_2_code 0 = .ok (.iload_n 0, 1) := by decide +kernel
theorem d1_1 : decode method_2_code 1 = .ok (.ifCond .ne 7, 3) := by decide +kernel
theorem d1_4 : decode method_2_code 4 = .ok (.getstatic 7, 3) := by decide +kernel
theorem d1_7 : decode method_2_code 7 = .ok (.areturn, 1) := by decide +kernel
theorem pn_com_example_vestry_vestry_ocf_CompensationTypeExercisablePinLaw : plainName "com/example/vestry/vestry/ocf/CompensationTypeExercisablePinLaw" = true := by first | (simp [plainName, overriddenIn]; done) | decide +kernel
theorem ef_1 (m : MethodId) (x0 : Int32) : entryFrame m #[(.int x0)] 1 = mkF m 0 #[.val (.int x0)] [] := by first | (simp [entryFrame, mkF, argsToLocals, Value.category]; done) | rfl
def Q1_0 (Z : State) (p0 : Int32) (w_OPTION_NSO : Addr) (h0 : Heap) (n0 : Nat) (v : Option Value) (h : Heap) (L : List Loc) : Prop := v = some (.ref w_OPTION_NSO) ∧ Fr n0 L ∧ h = h0
set_option maxRecDepth 65536 in
set_option maxHeartbeats 40000000 in
theorem rm1_0 (l : Launch) (Z : State) (a0 : Array Value) (hw : ∀ d ∈ tables_1, d.before a0 Z = true) (ws : List Jvm.Cond) (p0 : Int32) (w_OPTION_NSO : Addr) (h0 : Heap) (n0 : Nat) (Z0 : n0 ≤ h0.size) (hc1 : p0 = (0 : Int32)) (S_OPTION_NSO : Sta Z h0 "com/example/vestry/vestry/ocf/OcfPackage$CompensationType" "OPTION_NSO" "Lcom/example/vestry/vestry/ocf/OcfPackage$CompensationType;" (.ref w_OPTION_NSO)) :
    MetFree l (⟨"com/example/vestry/vestry/ocf/CompensationTypeExercisablePinLaw", "pick", "(I)Lcom/example/vestry/vestry/ocf/OcfPackage$CompensationType;"⟩ : MethodName) (head1 (Jvm.Cond.code (⟨"com/example/vestry/vestry/ocf/CompensationTypeExercisablePinLaw", "pick", "(I)Lcom/example/vestry/vestry/ocf/OcfPackage$CompensationType;"⟩ : MethodName) method_2_code 1 (some (.object "com/example/vestry/vestry/ocf/OcfPackage$CompensationType")) :: ws) ({ frames := 0, cells := 0, slots := 0, locals := 0 } : Room)) (fun a U => a = #[(.int p0)] ∧ Z.Warmed39 U.vm ∧ U.heap = h0) (fun _ _ _ _ _ => True) (fun _ U o U' => ∃ v L, o = .returned v ∧ Q1_0 Z p0 w_OPTION_NSO h0 n0 v U'.heap L ∧ FrameEnd U o U' L ({ frames := 0, cells := 0, slots := 0, locals := 0 } : Room).cells ({ frames := 0, cells := 0, slots := 0, locals := 0 } : Room).slots) := by
  refine MetFree.of_bodySF (plainFor_of_name pn_com_example_vestry_vestry_ocf_CompensationTypeExercisablePinLaw) hisR ?_
  intro p e s m args below meth c s₁ Bd hml0 hP hK
  obtain ⟨rfl, hZ, hh⟩ := hP
  have hx := Bd.exec
  have hby := Bd.bytes
  have hml : c.maxLocals = 1 := hml0
  have hown : s.vm.findClass "com/example/vestry/vestry/ocf/CompensationTypeExercisablePinLaw" = some m.cls := findClass_of_methodNamed Bd.named
  have hnm := (name_of_methodNamed Bd.named Bd.method).1
  have X0 : Stand p l e ({ frames := 0, cells := 0, slots := 0, locals := 0 } : Room) s m #[(.int p0)] below meth c s₁ [] 0 0 := Stand.of_body Bd
  have e0 : s₁.heap = h0 := by rw [← hh, Bd.state]; rfl
  have N0 := Fr.nil n0
  show Go p e below (fun o U' => ∃ v L, o = .returned v ∧ Q1_0 Z p0 w_OPTION_NSO h0 n0 v U'.heap L ∧ FrameEnd s o U' L ({ frames := 0, cells := 0, slots := 0, locals := 0 } : Room).cells ({ frames := 0, cells := 0, slots := 0, locals := 0 } : Room).slots) (s₁.setTop (entryFrame m #[(.int p0)] 1))
  refine Go.of (fun _ k => castTop (ef_1 m p0) k) ?_
  show Go p e below _ (s₁.setTop (mkF m 0 #[.val (.int p0)] []))
  refine Go.of (fun _ k => XS.iloadN X0.here hx rfl (hb hby d1_0) rfl  k) ?_
  show Go p e below _ (s₁.setTop (mkF m 1 #[.val (.int p0)] [(.int p0)]))
  refine Go.of (fun _ k => XS.ifNo X0.here hx rfl (hb hby d1_1) rfl ((if0 _ _).trans (teq hc1).2) k) ?_
  show Go p e below _ (s₁.setTop (mkF m 4 #[.val (.int p0)] []))
  obtain ⟨T1, X1, e1, st1⟩ := getS2 X0 hx hZ hown (host := "") (Or.inl (hw _ (List.mem_of_getElem? (i := 5) rfl))) Via.refl e0 S_OPTION_NSO (g := (mkF m 4 #[.val (.int p0)] [])) rfl (hb hby d1_4)
  refine Go.of st1 ?_
  show Go p e below _ (T1.setTop (mkF m 7 #[.val (.int p0)] [(.ref w_OPTION_NSO)]))
  obtain ⟨fs, hr, hrun, hended, hW, hsame⟩ := X1.leave (v := some (.ref w_OPTION_NSO)) (fun h => by rw [Bd.returns] at h; cases h)
  refine Go.mk _ _ ?_ hrun hended ⟨_, _, rfl, ?_, ⟨_, rfl⟩, hW, hsame.mono (by decide) (by decide)⟩
  · exact retOut X1 hx Bd.returns rfl (Or.inr (Or.inr (Or.inr (Or.inr ⟨rfl, rfl, rfl⟩)))) (hb hby d1_7) hr
  · show Q1_0 Z p0 w_OPTION_NSO h0 n0 _ T1.heap _
    rw [e1]
    exact ⟨rfl, N0, rfl⟩
theorem d1_8 : decode method_2_code 8 = .ok (.iload_n 0, 1) := by decide +kernel
theorem d1_9 : decode method_2_code 9 = .ok (.iconst 1, 1) := by decide +kernel
theorem d1_10 : decode method_2_code 10 = .ok (.if_icmp .ne 7, 3) := by decide +kernel
theorem d1_13 : decode method_2_code 13 = .ok (.getstatic 13, 3) := by decide +kernel
theorem d1_16 : decode method_2_code 16 = .ok (.areturn, 1) := by decide +kernel
def Q1_1 (Z : State) (p0 : Int32) (w_OPTION_ISO : Addr) (h0 : Heap) (n0 : Nat) (v : Option Value) (h : Heap) (L : List Loc) : Prop := v = some (.ref w_OPTION_ISO) ∧ Fr n0 L ∧ h = h0
set_option maxRecDepth 65536 in
set_option maxHeartbeats 40000000 in
theorem rm1_1 (l : Launch) (Z : State) (a0 : Array Value) (hw : ∀ d ∈ tables_1, d.before a0 Z = true) (ws : List Jvm.Cond) (p0 : Int32) (w_OPTION_ISO : Addr) (h0 : Heap) (n0 : Nat) (Z0 : n0 ≤ h0.size) (hc1 : ¬ (p0 = (0 : Int32))) (hc10 : p0 = (1 : Int32)) (S_OPTION_ISO : Sta Z h0 "com/example/vestry/vestry/ocf/OcfPackage$CompensationType" "OPTION_ISO" "Lcom/example/vestry/vestry/ocf/OcfPackage$CompensationType;" (.ref w_OPTION_ISO)) :
    MetFree l (⟨"com/example/vestry/vestry/ocf/CompensationTypeExercisablePinLaw", "pick", "(I)Lcom/example/vestry/vestry/ocf/OcfPackage$CompensationType;"⟩ : MethodName) (head1 (Jvm.Cond.code (⟨"com/example/vestry/vestry/ocf/CompensationTypeExercisablePinLaw", "pick", "(I)Lcom/example/vestry/vestry/ocf/OcfPackage$CompensationType;"⟩ : MethodName) method_2_code 1 (some (.object "com/example/vestry/vestry/ocf/OcfPackage$CompensationType")) :: ws) ({ frames := 0, cells := 0, slots := 0, locals := 0 } : Room)) (fun a U => a = #[(.int p0)] ∧ Z.Warmed39 U.vm ∧ U.heap = h0) (fun _ _ _ _ _ => True) (fun _ U o U' => ∃ v L, o = .returned v ∧ Q1_1 Z p0 w_OPTION_ISO h0 n0 v U'.heap L ∧ FrameEnd U o U' L ({ frames := 0, cells := 0, slots := 0, locals := 0 } : Room).cells ({ frames := 0, cells := 0, slots := 0, locals := 0 } : Room).slots) := by
  refine MetFree.of_bodySF (plainFor_of_name pn_com_example_vestry_vestry_ocf_CompensationTypeExercisablePinLaw) hisR ?_
  intro p e s m args below meth c s₁ Bd hml0 hP hK
  obtain ⟨rfl, hZ, hh⟩ := hP
  have hx := Bd.exec
  have hby := Bd.bytes
  have hml : c.maxLocals = 1 := hml0
  have hown : s.vm.findClass "com/example/vestry/vestry/ocf/CompensationTypeExercisablePinLaw" = some m.cls := findClass_of_methodNamed Bd.named
  have hnm := (name_of_methodNamed Bd.named Bd.method).1
  have X0 : Stand p l e ({ frames := 0, cells := 0, slots := 0, locals := 0 } : Room) s m #[(.int p0)] below meth c s₁ [] 0 0 := Stand.of_body Bd
  have e0 : s₁.heap = h0 := by rw [← hh, Bd.state]; rfl
  have N0 := Fr.nil n0
  show Go p e below (fun o U' => ∃ v L, o = .returned v ∧ Q1_1 Z p0 w_OPTION_ISO h0 n0 v U'.heap L ∧ FrameEnd s o U' L ({ frames := 0, cells := 0, slots := 0, locals := 0 } : Room).cells ({ frames := 0, cells := 0, slots := 0, locals := 0 } : Room).slots) (s₁.setTop (entryFrame m #[(.int p0)] 1))
  refine Go.of (fun _ k => castTop (ef_1 m p0) k) ?_
  show Go p e below _ (s₁.setTop (mkF m 0 #[.val (.int p0)] []))
  refine Go.of (fun _ k => XS.iloadN X0.here hx rfl (hb hby d1_0) rfl  k) ?_
  show Go p e below _ (s₁.setTop (mkF m 1 #[.val (.int p0)] [(.int p0)]))
  refine Go.of (fun _ k => XS.ifYes X0.here hx rfl (pc0 := 1) (pc' := 8) rfl (hb hby d1_1) rfl ((if0 _ _).trans (feq hc1).2) (by decide) (by decide) k) ?_
  show Go p e below _ (s₁.setTop (mkF m 8 #[.val (.int p0)] []))
  refine Go.of (fun _ k => XS.iloadN X0.here hx rfl (hb hby d1_8) rfl  k) ?_
  show Go p e below _ (s₁.setTop (mkF m 9 #[.val (.int p0)] [(.int p0)]))
  refine Go.of (fun _ k => XS.iconst X0.here hx rfl (hb hby d1_9) k) ?_
  show Go p e below _ (s₁.setTop (mkF m 10 #[.val (.int p0)] [(.int (1 : Int32)), (.int p0)]))
  refine Go.of (fun _ k => XS.icmpNo X0.here hx rfl (hb hby d1_10) rfl (teq hc10).2 k) ?_
  show Go p e below _ (s₁.setTop (mkF m 13 #[.val (.int p0)] []))
  obtain ⟨T1, X1, e1, st1⟩ := getS2 X0 hx hZ hown (host := "") (Or.inl (hw _ (List.mem_of_getElem? (i := 26) rfl))) Via.refl e0 S_OPTION_ISO (g := (mkF m 13 #[.val (.int p0)] [])) rfl (hb hby d1_13)
  refine Go.of st1 ?_
  show Go p e below _ (T1.setTop (mkF m 16 #[.val (.int p0)] [(.ref w_OPTION_ISO)]))
  obtain ⟨fs, hr, hrun, hended, hW, hsame⟩ := X1.leave (v := some (.ref w_OPTION_ISO)) (fun h => by rw [Bd.returns] at h; cases h)
  refine Go.mk _ _ ?_ hrun hended ⟨_, _, rfl, ?_, ⟨_, rfl⟩, hW, hsame.mono (by decide) (by decide)⟩
  · exact retOut X1 hx Bd.returns rfl (Or.inr (Or.inr (Or.inr (Or.inr ⟨rfl, rfl, rfl⟩)))) (hb hby d1_16) hr
  · show Q1_1 Z p0 w_OPTION_ISO h0 n0 _ T1.heap _
    rw [e1]
    exact ⟨rfl, N0, rfl⟩
theorem d1_17 : decode method_2_code 17 = .ok (.iload_n 0, 1) := by decide +kernel
theorem d1_18 : decode method_2_code 18 = .ok (.iconst 2, 1) := by decide +kernel
theorem d1_19 : decode method_2_code 19 = .ok (.if_icmp .ne 7, 3) := by decide +kernel
theorem d1_22 : decode method_2_code 22 = .ok (.getstatic 16, 3) := by decide +kernel
theorem d1_25 : decode method_2_code 25 = .ok (.areturn, 1) := by decide +kernel
def Q1_2 (Z : State) (p0 : Int32) (w_OPTION : Addr) (h0 : Heap) (n0 : Nat) (v : Option Value) (h : Heap) (L : List Loc) : Prop := v = some (.ref w_OPTION) ∧ Fr n0 L ∧ h = h0
set_option maxRecDepth 65536 in
set_option maxHeartbeats 40000000 in
theorem rm1_2 (l : Launch) (Z : State) (a0 : Array Value) (hw : ∀ d ∈ tables_1, d.before a0 Z = true) (ws : List Jvm.Cond) (p0 : Int32) (w_OPTION : Addr) (h0 : Heap) (n0 : Nat) (Z0 : n0 ≤ h0.size) (hc1 : ¬ (p0 = (0 : Int32))) (hc10 : ¬ (p0 = (1 : Int32))) (hc19 : p0 = (2 : Int32)) (S_OPTION : Sta Z h0 "com/example/vestry/vestry/ocf/OcfPackage$CompensationType" "OPTION" "Lcom/example/vestry/vestry/ocf/OcfPackage$CompensationType;" (.ref w_OPTION)) :
    MetFree l (⟨"com/example/vestry/vestry/ocf/CompensationTypeExercisablePinLaw", "pick", "(I)Lcom/example/vestry/vestry/ocf/OcfPackage$CompensationType;"⟩ : MethodName) (head1 (Jvm.Cond.code (⟨"com/example/vestry/vestry/ocf/CompensationTypeExercisablePinLaw", "pick", "(I)Lcom/example/vestry/vestry/ocf/OcfPackage$CompensationType;"⟩ : MethodName) method_2_code 1 (some (.object "com/example/vestry/vestry/ocf/OcfPackage$CompensationType")) :: ws) ({ frames := 0, cells := 0, slots := 0, locals := 0 } : Room)) (fun a U => a = #[(.int p0)] ∧ Z.Warmed39 U.vm ∧ U.heap = h0) (fun _ _ _ _ _ => True) (fun _ U o U' => ∃ v L, o = .returned v ∧ Q1_2 Z p0 w_OPTION h0 n0 v U'.heap L ∧ FrameEnd U o U' L ({ frames := 0, cells := 0, slots := 0, locals := 0 } : Room).cells ({ frames := 0, cells := 0, slots := 0, locals := 0 } : Room).slots) := by
  refine MetFree.of_bodySF (plainFor_of_name pn_com_example_vestry_vestry_ocf_CompensationTypeExercisablePinLaw) hisR ?_
  intro p e s m args below meth c s₁ Bd hml0 hP hK
  obtain ⟨rfl, hZ, hh⟩ := hP
  have hx := Bd.exec
  have hby := Bd.bytes
  have hml : c.maxLocals = 1 := hml0
  have hown : s.vm.findClass "com/example/vestry/vestry/ocf/CompensationTypeExercisablePinLaw" = some m.cls := findClass_of_methodNamed Bd.named
  have hnm := (name_of_methodNamed Bd.named Bd.method).1
  have X0 : Stand p l e ({ frames := 0, cells := 0, slots := 0, locals := 0 } : Room) s m #[(.int p0)] below meth c s₁ [] 0 0 := Stand.of_body Bd
  have e0 : s₁.heap = h0 := by rw [← hh, Bd.state]; rfl
  have N0 := Fr.nil n0
  show Go p e below (fun o U' => ∃ v L, o = .returned v ∧ Q1_2 Z p0 w_OPTION h0 n0 v U'.heap L ∧ FrameEnd s o U' L ({ frames := 0, cells := 0, slots := 0, locals := 0 } : Room).cells ({ frames := 0, cells := 0, slots := 0, locals := 0 } : Room).slots) (s₁.setTop (entryFrame m #[(.int p0)] 1))
  refine Go.of (fun _ k => castTop (ef_1 m p0) k) ?_
  show Go p e below _ (s₁.setTop (mkF m 0 #[.val (.int p0)] []))
  refine Go.of (fun _ k => XS.iloadN X0.here hx rfl (hb hby d1_0) rfl  k) ?_
  show Go p e below _ (s₁.setTop (mkF m 1 #[.val (.int p0)] [(.int p0)]))
  refine Go.of (fun _ k => XS.ifYes X0.here hx rfl (pc0 := 1) (pc' := 8) rfl (hb hby d1_1) rfl ((if0 _ _).trans (feq hc1).2) (by decide) (by decide) k) ?_
  show Go p e below _ (s₁.setTop (mkF m 8 #[.val (.int p0)] []))
  refine Go.of (fun _ k => XS.iloadN X0.here hx rfl (hb hby d1_8) rfl  k) ?_
  show Go p e below _ (s₁.setTop (mkF m 9 #[.val (.int p0)] [(.int p0)]))
  refine Go.of (fun _ k => XS.iconst X0.here hx rfl (hb hby d1_9) k) ?_
  show Go p e below _ (s₁.setTop (mkF m 10 #[.val (.int p0)] [(.int (1 : Int32)), (.int p0)]))
  refine Go.of (fun _ k => XS.icmpYes X0.here hx rfl (pc0 := 10) (pc' := 17) rfl (hb hby d1_10) rfl (feq hc10).2 (by decide) (by decide) k) ?_
  show Go p e below _ (s₁.setTop (mkF m 17 #[.val (.int p0)] []))
  refine Go.of (fun _ k => XS.iloadN X0.here hx rfl (hb hby d1_17) rfl  k) ?_
  show Go p e below _ (s₁.setTop (mkF m 18 #[.val (.int p0)] [(.int p0)]))
  refine Go.of (fun _ k => XS.iconst X0.here hx rfl (hb hby d1_18) k) ?_
  show Go p e below _ (s₁.setTop (mkF m 19 #[.val (.int p0)] [(.int (2 : Int32)), (.int p0)]))
  refine Go.of (fun _ k => XS.icmpNo X0.here hx rfl (hb hby d1_19) rfl (teq hc19).2 k) ?_
  show Go p e below _ (s₁.setTop (mkF m 22 #[.val (.int p0)] []))
  obtain ⟨T1, X1, e1, st1⟩ := getS2 X0 hx hZ hown (host := "") (Or.inl (hw _ (List.mem_of_getElem? (i := 24) rfl))) Via.refl e0 S_OPTION (g := (mkF m 22 #[.val (.int p0)] [])) rfl (hb hby d1_22)
  refine Go.of st1 ?_
  show Go p e below _ (T1.setTop (mkF m 25 #[.val (.int p0)] [(.ref w_OPTION)]))
  obtain ⟨fs, hr, hrun, hended, hW, hsame⟩ := X1.leave (v := some (.ref w_OPTION)) (fun h => by rw [Bd.returns] at h; cases h)
  refine Go.mk _ _ ?_ hrun hended ⟨_, _, rfl, ?_, ⟨_, rfl⟩, hW, hsame.mono (by decide) (by decide)⟩
  · exact retOut X1 hx Bd.returns rfl (Or.inr (Or.inr (Or.inr (Or.inr ⟨rfl, rfl, rfl⟩)))) (hb hby d1_25) hr
  · show Q1_2 Z p0 w_OPTION h0 n0 _ T1.heap _
    rw [e1]
    exact ⟨rfl, N0, rfl⟩
theorem d1_26 : decode method_2_code 26 = .ok (.iload_n 0, 1) := by decide +kernel
theorem d1_27 : decode method_2_code 27 = .ok (.iconst 3, 1) := by decide +kernel
theorem d1_28 : decode method_2_code 28 = .ok (.if_icmp .ne 7, 3) := by decide +kernel
theorem d1_31 : decode method_2_code 31 = .ok (.getstatic 19, 3) := by decide +kernel
theorem d1_34 : decode method_2_code 34 = .ok (.areturn, 1) := by decide +kernel
def Q1_3 (Z : State) (p0 : Int32) (w_RSU : Addr) (h0 : Heap) (n0 : Nat) (v : Option Value) (h : Heap) (L : List Loc) : Prop := v = some (.ref w_RSU) ∧ Fr n0 L ∧ h = h0
set_option maxRecDepth 65536 in
set_option maxHeartbeats 40000000 in
theorem rm1_3 (l : Launch) (Z : State) (a0 : Array Value) (hw : ∀ d ∈ tables_1, d.before a0 Z = true) (ws : List Jvm.Cond) (p0 : Int32) (w_RSU : Addr) (h0 : Heap) (n0 : Nat) (Z0 : n0 ≤ h0.size) (hc1 : ¬ (p0 = (0 : Int32))) (hc10 : ¬ (p0 = (1 : Int32))) (hc19 : ¬ (p0 = (2 : Int32))) (hc28 : p0 = (3 : Int32)) (S_RSU : Sta Z h0 "com/example/vestry/vestry/ocf/OcfPackage$CompensationType" "RSU" "Lcom/example/vestry/vestry/ocf/OcfPackage$CompensationType;" (.ref w_RSU)) :
    MetFree l (⟨"com/example/vestry/vestry/ocf/CompensationTypeExercisablePinLaw", "pick", "(I)Lcom/example/vestry/vestry/ocf/OcfPackage$CompensationType;"⟩ : MethodName) (head1 (Jvm.Cond.code (⟨"com/example/vestry/vestry/ocf/CompensationTypeExercisablePinLaw", "pick", "(I)Lcom/example/vestry/vestry/ocf/OcfPackage$CompensationType;"⟩ : MethodName) method_2_code 1 (some (.object "com/example/vestry/vestry/ocf/OcfPackage$CompensationType")) :: ws) ({ frames := 0, cells := 0, slots := 0, locals := 0 } : Room)) (fun a U => a = #[(.int p0)] ∧ Z.Warmed39 U.vm ∧ U.heap = h0) (fun _ _ _ _ _ => True) (fun _ U o U' => ∃ v L, o = .returned v ∧ Q1_3 Z p0 w_RSU h0 n0 v U'.heap L ∧ FrameEnd U o U' L ({ frames := 0, cells := 0, slots := 0, locals := 0 } : Room).cells ({ frames := 0, cells := 0, slots := 0, locals := 0 } : Room).slots) := by
  refine MetFree.of_bodySF (plainFor_of_name pn_com_example_vestry_vestry_ocf_CompensationTypeExercisablePinLaw) hisR ?_
  intro p e s m args below meth c s₁ Bd hml0 hP hK
  obtain ⟨rfl, hZ, hh⟩ := hP
  have hx := Bd.exec
  have hby := Bd.bytes
  have hml : c.maxLocals = 1 := hml0
  have hown : s.vm.findClass "com/example/vestry/vestry/ocf/CompensationTypeExercisablePinLaw" = some m.cls := findClass_of_methodNamed Bd.named
  have hnm := (name_of_methodNamed Bd.named Bd.method).1
  have X0 : Stand p l e ({ frames := 0, cells := 0, slots := 0, locals := 0 } : Room) s m #[(.int p0)] below meth c s₁ [] 0 0 := Stand.of_body Bd
  have e0 : s₁.heap = h0 := by rw [← hh, Bd.state]; rfl
  have N0 := Fr.nil n0
  show Go p e below (fun o U' => ∃ v L, o = .returned v ∧ Q1_3 Z p0 w_RSU h0 n0 v U'.heap L ∧ FrameEnd s o U' L ({ frames := 0, cells := 0, slots := 0, locals := 0 } : Room).cells ({ frames := 0, cells := 0, slots := 0, locals := 0 } : Room).slots) (s₁.setTop (entryFrame m #[(.int p0)] 1))
  refine Go.of (fun _ k => castTop (ef_1 m p0) k) ?_
  show Go p e below _ (s₁.setTop (mkF m 0 #[.val (.int p0)] []))
  refine Go.of (fun _ k => XS.iloadN X0.here hx rfl (hb hby d1_0) rfl  k) ?_
  show Go p e below _ (s₁.setTop (mkF m 1 #[.val (.int p0)] [(.int p0)]))
  refine Go.of (fun _ k => XS.ifYes X0.here hx rfl (pc0 := 1) (pc' := 8) rfl (hb hby d1_1) rfl ((if0 _ _).trans (feq hc1).2) (by decide) (by decide) k) ?_
  show Go p e below _ (s₁.setTop (mkF m 8 #[.val (.int p0)] []))
  refine Go.of (fun _ k => XS.iloadN X0.here hx rfl (hb hby d1_8) rfl  k) ?_
  show Go p e below _ (s₁.setTop (mkF m 9 #[.val (.int p0)] [(.int p0)]))
  refine Go.of (fun _ k => XS.iconst X0.here hx rfl (hb hby d1_9) k) ?_
  show Go p e below _ (s₁.setTop (mkF m 10 #[.val (.int p0)] [(.int (1 : Int32)), (.int p0)]))
  refine Go.of (fun _ k => XS.icmpYes X0.here hx rfl (pc0 := 10) (pc' := 17) rfl (hb hby d1_10) rfl (feq hc10).2 (by decide) (by decide) k) ?_
  show Go p e below _ (s₁.setTop (mkF m 17 #[.val (.int p0)] []))
  refine Go.of (fun _ k => XS.iloadN X0.here hx rfl (hb hby d1_17) rfl  k) ?_
  show Go p e below _ (s₁.setTop (mkF m 18 #[.val (.int p0)] [(.int p0)]))
  refine Go.of (fun _ k => XS.iconst X0.here hx rfl (hb hby d1_18) k) ?_
  show Go p e below _ (s₁.setTop (mkF m 19 #[.val (.int p0)] [(.int (2 : Int32)), (.int p0)]))
  refine Go.of (fun _ k => XS.icmpYes X0.here hx rfl (pc0 := 19) (pc' := 26) rfl (hb hby d1_19) rfl (feq hc19).2 (by decide) (by decide) k) ?_
  show Go p e below _ (s₁.setTop (mkF m 26 #[.val (.int p0)] []))
  refine Go.of (fun _ k => XS.iloadN X0.here hx rfl (hb hby d1_26) rfl  k) ?_
  show Go p e below _ (s₁.setTop (mkF m 27 #[.val (.int p0)] [(.int p0)]))
  refine Go.of (fun _ k => XS.iconst X0.here hx rfl (hb hby d1_27) k) ?_
  show Go p e below _ (s₁.setTop (mkF m 28 #[.val (.int p0)] [(.int (3 : Int32)), (.int p0)]))
  refine Go.of (fun _ k => XS.icmpNo X0.here hx rfl (hb hby d1_28) rfl (teq hc28).2 k) ?_
  show Go p e below _ (s₁.setTop (mkF m 31 #[.val (.int p0)] []))
  obtain ⟨T1, X1, e1, st1⟩ := getS2 X0 hx hZ hown (host := "") (Or.inl (hw _ (List.mem_of_getElem? (i := 22) rfl))) Via.refl e0 S_RSU (g := (mkF m 31 #[.val (.int p0)] [])) rfl (hb hby d1_31)
  refine Go.of st1 ?_
  show Go p e below _ (T1.setTop (mkF m 34 #[.val (.int p0)] [(.ref w_RSU)]))
  obtain ⟨fs, hr, hrun, hended, hW, hsame⟩ := X1.leave (v := some (.ref w_RSU)) (fun h => by rw [Bd.returns] at h; cases h)
  refine Go.mk _ _ ?_ hrun hended ⟨_, _, rfl, ?_, ⟨_, rfl⟩, hW, hsame.mono (by decide) (by decide)⟩
  · exact retOut X1 hx Bd.returns rfl (Or.inr (Or.inr (Or.inr (Or.inr ⟨rfl, rfl, rfl⟩)))) (hb hby d1_34) hr
  · show Q1_3 Z p0 w_RSU h0 n0 _ T1.heap _
    rw [e1]
    exact ⟨rfl, N0, rfl⟩
theorem d1_35 : decode method_2_code 35 = .ok (.iload_n 0, 1) := by decide +kernel
theorem d1_36 : decode method_2_code 36 = .ok (.iconst 4, 1) := by decide +kernel
theorem d1_37 : decode method_2_code 37 = .ok (.if_icmp .ne 7, 3) := by decide +kernel
theorem d1_40 : decode method_2_code 40 = .ok (.getstatic 22, 3) := by decide +kernel
theorem d1_43 : decode method_2_code 43 = .ok (.areturn, 1) := by decide +kernel
def Q1_4 (Z : State) (p0 : Int32) (w_CSAR : Addr) (h0 : Heap) (n0 : Nat) (v : Option Value) (h : Heap) (L : List Loc) : Prop := v = some (.ref w_CSAR) ∧ Fr n0 L ∧ h = h0
set_option maxRecDepth 65536 in
set_option maxHeartbeats 40000000 in
theorem rm1_4 (l : Launch) (Z : State) (a0 : Array Value) (hw : ∀ d ∈ tables_1, d.before a0 Z = true) (ws : List Jvm.Cond) (p0 : Int32) (w_CSAR : Addr) (h0 : Heap) (n0 : Nat) (Z0 : n0 ≤ h0.size) (hc1 : ¬ (p0 = (0 : Int32))) (hc10 : ¬ (p0 = (1 : Int32))) (hc19 : ¬ (p0 = (2 : Int32))) (hc28 : ¬ (p0 = (3 : Int32))) (hc37 : p0 = (4 : Int32)) (S_CSAR : Sta Z h0 "com/example/vestry/vestry/ocf/OcfPackage$CompensationType" "CSAR" "Lcom/example/vestry/vestry/ocf/OcfPackage$CompensationType;" (.ref w_CSAR)) :
    MetFree l (⟨"com/example/vestry/vestry/ocf/CompensationTypeExercisablePinLaw", "pick", "(I)Lcom/example/vestry/vestry/ocf/OcfPackage$CompensationType;"⟩ : MethodName) (head1 (Jvm.Cond.code (⟨"com/example/vestry/vestry/ocf/CompensationTypeExercisablePinLaw", "pick", "(I)Lcom/example/vestry/vestry/ocf/OcfPackage$CompensationType;"⟩ : MethodName) method_2_code 1 (some (.object "com/example/vestry/vestry/ocf/OcfPackage$CompensationType")) :: ws) ({ frames := 0, cells := 0, slots := 0, locals := 0 } : Room)) (fun a U => a = #[(.int p0)] ∧ Z.Warmed39 U.vm ∧ U.heap = h0) (fun _ _ _ _ _ => True) (fun _ U o U' => ∃ v L, o = .returned v ∧ Q1_4 Z p0 w_CSAR h0 n0 v U'.heap L ∧ FrameEnd U o U' L ({ frames := 0, cells := 0, slots := 0, locals := 0 } : Room).cells ({ frames := 0, cells := 0, slots := 0, locals := 0 } : Room).slots) := by
  refine MetFree.of_bodySF (plainFor_of_name pn_com_example_vestry_vestry_ocf_CompensationTypeExercisablePinLaw) hisR ?_
  intro p e s m args below meth c s₁ Bd hml0 hP hK
  obtain ⟨rfl, hZ, hh⟩ := hP
  have hx := Bd.exec
  have hby := Bd.bytes
  have hml : c.maxLocals = 1 := hml0
  have hown : s.vm.findClass "com/example/vestry/vestry/ocf/CompensationTypeExercisablePinLaw" = some m.cls := findClass_of_methodNamed Bd.named
  have hnm := (name_of_methodNamed Bd.named Bd.method).1
  have X0 : Stand p l e ({ frames := 0, cells := 0, slots := 0, locals := 0 } : Room) s m #[(.int p0)] below meth c s₁ [] 0 0 := Stand.of_body Bd
  have e0 : s₁.heap = h0 := by rw [← hh, Bd.state]; rfl
  have N0 := Fr.nil n0
  show Go p e below (fun o U' => ∃ v L, o = .returned v ∧ Q1_4 Z p0 w_CSAR h0 n0 v U'.heap L ∧ FrameEnd s o U' L ({ frames := 0, cells := 0, slots := 0, locals := 0 } : Room).cells ({ frames := 0, cells := 0, slots := 0, locals := 0 } : Room).slots) (s₁.setTop (entryFrame m #[(.int p0)] 1))
  refine Go.of (fun _ k => castTop (ef_1 m p0) k) ?_
  show Go p e below _ (s₁.setTop (mkF m 0 #[.val (.int p0)] []))
  refine Go.of (fun _ k => XS.iloadN X0.here hx rfl (hb hby d1_0) rfl  k) ?_
  show Go p e below _ (s₁.setTop (mkF m 1 #[.val (.int p0)] [(.int p0)]))
  refine Go.of (fun _ k => XS.ifYes X0.here hx rfl (pc0 := 1) (pc' := 8) rfl (hb hby d1_1) rfl ((if0 _ _).trans (feq hc1).2) (by decide) (by decide) k) ?_
  show Go p e below _ (s₁.setTop (mkF m 8 #[.val (.int p0)] []))
  refine Go.of (fun _ k => XS.iloadN X0.here hx rfl (hb hby d1_8) rfl  k) ?_
  show Go p e below _ (s₁.setTop (mkF m 9 #[.val (.int p0)] [(.int p0)]))
  refine Go.of (fun _ k => XS.iconst X0.here hx rfl (hb hby d1_9) k) ?_
  show Go p e below _ (s₁.setTop (mkF m 10 #[.val (.int p0)] [(.int (1 : Int32)), (.int p0)]))
  refine Go.of (fun _ k => XS.icmpYes X0.here hx rfl (pc0 := 10) (pc' := 17) rfl (hb hby d1_10) rfl (feq hc10).2 (by decide) (by decide) k) ?_
  show Go p e below _ (s₁.setTop (mkF m 17 #[.val (.int p0)] []))
  refine Go.of (fun _ k => XS.iloadN X0.here hx rfl (hb hby d1_17) rfl  k) ?_
  show Go p e below _ (s₁.setTop (mkF m 18 #[.val (.int p0)] [(.int p0)]))
  refine Go.of (fun _ k => XS.iconst X0.here hx rfl (hb hby d1_18) k) ?_
  show Go p e below _ (s₁.setTop (mkF m 19 #[.val (.int p0)] [(.int (2 : Int32)), (.int p0)]))
  refine Go.of (fun _ k => XS.icmpYes X0.here hx rfl (pc0 := 19) (pc' := 26) rfl (hb hby d1_19) rfl (feq hc19).2 (by decide) (by decide) k) ?_
  show Go p e below _ (s₁.setTop (mkF m 26 #[.val (.int p0)] []))
  refine Go.of (fun _ k => XS.iloadN X0.here hx rfl (hb hby d1_26) rfl  k) ?_
  show Go p e below _ (s₁.setTop (mkF m 27 #[.val (.int p0)] [(.int p0)]))
  refine Go.of (fun _ k => XS.iconst X0.here hx rfl (hb hby d1_27) k) ?_
  show Go p e below _ (s₁.setTop (mkF m 28 #[.val (.int p0)] [(.int (3 : Int32)), (.int p0)]))
  refine Go.of (fun _ k => XS.icmpYes X0.here hx rfl (pc0 := 28) (pc' := 35) rfl (hb hby d1_28) rfl (feq hc28).2 (by decide) (by decide) k) ?_
  show Go p e below _ (s₁.setTop (mkF m 35 #[.val (.int p0)] []))
  refine Go.of (fun _ k => XS.iloadN X0.here hx rfl (hb hby d1_35) rfl  k) ?_
  show Go p e below _ (s₁.setTop (mkF m 36 #[.val (.int p0)] [(.int p0)]))
  refine Go.of (fun _ k => XS.iconst X0.here hx rfl (hb hby d1_36) k) ?_
  show Go p e below _ (s₁.setTop (mkF m 37 #[.val (.int p0)] [(.int (4 : Int32)), (.int p0)]))
  refine Go.of (fun _ k => XS.icmpNo X0.here hx rfl (hb hby d1_37) rfl (teq hc37).2 k) ?_
  show Go p e below _ (s₁.setTop (mkF m 40 #[.val (.int p0)] []))
  obtain ⟨T1, X1, e1, st1⟩ := getS2 X0 hx hZ hown (host := "") (Or.inl (hw _ (List.mem_of_getElem? (i := 31) rfl))) Via.refl e0 S_CSAR (g := (mkF m 40 #[.val (.int p0)] [])) rfl (hb hby d1_40)
  refine Go.of st1 ?_
  show Go p e below _ (T1.setTop (mkF m 43 #[.val (.int p0)] [(.ref w_CSAR)]))
  obtain ⟨fs, hr, hrun, hended, hW, hsame⟩ := X1.leave (v := some (.ref w_CSAR)) (fun h => by rw [Bd.returns] at h; cases h)
  refine Go.mk _ _ ?_ hrun hended ⟨_, _, rfl, ?_, ⟨_, rfl⟩, hW, hsame.mono (by decide) (by decide)⟩
  · exact retOut X1 hx Bd.returns rfl (Or.inr (Or.inr (Or.inr (Or.inr ⟨rfl, rfl, rfl⟩)))) (hb hby d1_43) hr
  · show Q1_4 Z p0 w_CSAR h0 n0 _ T1.heap _
    rw [e1]
    exact ⟨rfl, N0, rfl⟩
theorem d1_44 : decode method_2_code 44 = .ok (.getstatic 25, 3) := by decide +kernel
theorem d1_47 : decode method_2_code 47 = .ok (.areturn, 1) := by decide +kernel
def Q1_5 (Z : State) (p0 : Int32) (w_SSAR : Addr) (h0 : Heap) (n0 : Nat) (v : Option Value) (h : Heap) (L : List Loc) : Prop := v = some (.ref w_SSAR) ∧ Fr n0 L ∧ h = h0
set_option maxRecDepth 65536 in
set_option maxHeartbeats 40000000 in
theorem rm1_5 (l : Launch) (Z : State) (a0 : Array Value) (hw : ∀ d ∈ tables_1, d.before a0 Z = true) (ws : List Jvm.Cond) (p0 : Int32) (w_SSAR : Addr) (h0 : Heap) (n0 : Nat) (Z0 : n0 ≤ h0.size) (hc1 : ¬ (p0 = (0 : Int32))) (hc10 : ¬ (p0 = (1 : Int32))) (hc19 : ¬ (p0 = (2 : Int32))) (hc28 : ¬ (p0 = (3 : Int32))) (hc37 : ¬ (p0 = (4 : Int32))) (S_SSAR : Sta Z h0 "com/example/vestry/vestry/ocf/OcfPackage$CompensationType" "SSAR" "Lcom/example/vestry/vestry/ocf/OcfPackage$CompensationType;" (.ref w_SSAR)) :
    MetFree l (⟨"com/example/vestry/vestry/ocf/CompensationTypeExercisablePinLaw", "pick", "(I)Lcom/example/vestry/vestry/ocf/OcfPackage$CompensationType;"⟩ : MethodName) (head1 (Jvm.Cond.code (⟨"com/example/vestry/vestry/ocf/CompensationTypeExercisablePinLaw", "pick", "(I)Lcom/example/vestry/vestry/ocf/OcfPackage$CompensationType;"⟩ : MethodName) method_2_code 1 (some (.object "com/example/vestry/vestry/ocf/OcfPackage$CompensationType")) :: ws) ({ frames := 0, cells := 0, slots := 0, locals := 0 } : Room)) (fun a U => a = #[(.int p0)] ∧ Z.Warmed39 U.vm ∧ U.heap = h0) (fun _ _ _ _ _ => True) (fun _ U o U' => ∃ v L, o = .returned v ∧ Q1_5 Z p0 w_SSAR h0 n0 v U'.heap L ∧ FrameEnd U o U' L ({ frames := 0, cells := 0, slots := 0, locals := 0 } : Room).cells ({ frames := 0, cells := 0, slots := 0, locals := 0 } : Room).slots) := by
  refine MetFree.of_bodySF (plainFor_of_name pn_com_example_vestry_vestry_ocf_CompensationTypeExercisablePinLaw) hisR ?_
  intro p e s m args below meth c s₁ Bd hml0 hP hK
  obtain ⟨rfl, hZ, hh⟩ := hP
  have hx := Bd.exec
  have hby := Bd.bytes
  have hml : c.maxLocals = 1 := hml0
  have hown : s.vm.findClass "com/example/vestry/vestry/ocf/CompensationTypeExercisablePinLaw" = some m.cls := findClass_of_methodNamed Bd.named
  have hnm := (name_of_methodNamed Bd.named Bd.method).1
  have X0 : Stand p l e ({ frames := 0, cells := 0, slots := 0, locals := 0 } : Room) s m #[(.int p0)] below meth c s₁ [] 0 0 := Stand.of_body Bd
  have e0 : s₁.heap = h0 := by rw [← hh, Bd.state]; rfl
  have N0 := Fr.nil n0
  show Go p e below (fun o U' => ∃ v L, o = .returned v ∧ Q1_5 Z p0 w_SSAR h0 n0 v U'.heap L ∧ FrameEnd s o U' L ({ frames := 0, cells := 0, slots := 0, locals := 0 } : Room).cells ({ frames := 0, cells := 0, slots := 0, locals := 0 } : Room).slots) (s₁.setTop (entryFrame m #[(.int p0)] 1))
  refine Go.of (fun _ k => castTop (ef_1 m p0) k) ?_
  show Go p e below _ (s₁.setTop (mkF m 0 #[.val (.int p0)] []))
  refine Go.of (fun _ k => XS.iloadN X0.here hx rfl (hb hby d1_0) rfl  k) ?_
  show Go p e below _ (s₁.setTop (mkF m 1 #[.val (.int p0)] [(.int p0)]))
  refine Go.of (fun _ k => XS.ifYes X0.here hx rfl (pc0 := 1) (pc' := 8) rfl (hb hby d1_1) rfl ((if0 _ _).trans (feq hc1).2) (by decide) (by decide) k) ?_
  show Go p e below _ (s₁.setTop (mkF m 8 #[.val (.int p0)] []))
  refine Go.of (fun _ k => XS.iloadN X0.here hx rfl (hb hby d1_8) rfl  k) ?_
  show Go p e below _ (s₁.setTop (mkF m 9 #[.val (.int p0)] [(.int p0)]))
  refine Go.of (fun _ k => XS.iconst X0.here hx rfl (hb hby d1_9) k) ?_
  show Go p e below _ (s₁.setTop (mkF m 10 #[.val (.int p0)] [(.int (1 : Int32)), (.int p0)]))
  refine Go.of (fun _ k => XS.icmpYes X0.here hx rfl (pc0 := 10) (pc' := 17) rfl (hb hby d1_10) rfl (feq hc10).2 (by decide) (by decide) k) ?_
  show Go p e below _ (s₁.setTop (mkF m 17 #[.val (.int p0)] []))
  refine Go.of (fun _ k => XS.iloadN X0.here hx rfl (hb hby d1_17) rfl  k) ?_
  show Go p e below _ (s₁.setTop (mkF m 18 #[.val (.int p0)] [(.int p0)]))
  refine Go.of (fun _ k => XS.iconst X0.here hx rfl (hb hby d1_18) k) ?_
  show Go p e below _ (s₁.setTop (mkF m 19 #[.val (.int p0)] [(.int (2 : Int32)), (.int p0)]))
  refine Go.of (fun _ k => XS.icmpYes X0.here hx rfl (pc0 := 19) (pc' := 26) rfl (hb hby d1_19) rfl (feq hc19).2 (by decide) (by decide) k) ?_
  show Go p e below _ (s₁.setTop (mkF m 26 #[.val (.int p0)] []))
  refine Go.of (fun _ k => XS.iloadN X0.here hx rfl (hb hby d1_26) rfl  k) ?_
  show Go p e below _ (s₁.setTop (mkF m 27 #[.val (.int p0)] [(.int p0)]))
  refine Go.of (fun _ k => XS.iconst X0.here hx rfl (hb hby d1_27) k) ?_
  show Go p e below _ (s₁.setTop (mkF m 28 #[.val (.int p0)] [(.int (3 : Int32)), (.int p0)]))
  refine Go.of (fun _ k => XS.icmpYes X0.here hx rfl (pc0 := 28) (pc' := 35) rfl (hb hby d1_28) rfl (feq hc28).2 (by decide) (by decide) k) ?_
  show Go p e below _ (s₁.setTop (mkF m 35 #[.val (.int p0)] []))
  refine Go.of (fun _ k => XS.iloadN X0.here hx rfl (hb hby d1_35) rfl  k) ?_
  show Go p e below _ (s₁.setTop (mkF m 36 #[.val (.int p0)] [(.int p0)]))
  refine Go.of (fun _ k => XS.iconst X0.here hx rfl (hb hby d1_36) k) ?_
  show Go p e below _ (s₁.setTop (mkF m 37 #[.val (.int p0)] [(.int (4 : Int32)), (.int p0)]))
  refine Go.of (fun _ k => XS.icmpYes X0.here hx rfl (pc0 := 37) (pc' := 44) rfl (hb hby d1_37) rfl (feq hc37).2 (by decide) (by decide) k) ?_
  show Go p e below _ (s₁.setTop (mkF m 44 #[.val (.int p0)] []))
  obtain ⟨T1, X1, e1, st1⟩ := getS2 X0 hx hZ hown (host := "") (Or.inl (hw _ (List.mem_of_getElem? (i := 28) rfl))) Via.refl e0 S_SSAR (g := (mkF m 44 #[.val (.int p0)] [])) rfl (hb hby d1_44)
  refine Go.of st1 ?_
  show Go p e below _ (T1.setTop (mkF m 47 #[.val (.int p0)] [(.ref w_SSAR)]))
  obtain ⟨fs, hr, hrun, hended, hW, hsame⟩ := X1.leave (v := some (.ref w_SSAR)) (fun h => by rw [Bd.returns] at h; cases h)
  refine Go.mk _ _ ?_ hrun hended ⟨_, _, rfl, ?_, ⟨_, rfl⟩, hW, hsame.mono (by decide) (by decide)⟩
  · exact retOut X1 hx Bd.returns rfl (Or.inr (Or.inr (Or.inr (Or.inr ⟨rfl, rfl, rfl⟩)))) (hb hby d1_47) hr
  · show Q1_5 Z p0 w_SSAR h0 n0 _ T1.heap _
    rw [e1]
    exact ⟨rfl, N0, rfl⟩
theorem d2_0 : decode prog_58_method_6_code 0 = .ok (.aload_n 0, 1) := by decide +kernel
theorem d2_1 : decode prog_58_method_6_code 1 = .ok (.getfield 41, 3) := by decide +kernel
theorem d2_4 : decode prog_58_method_6_code 4 = .ok (.getstatic 49, 3) := by decide +kernel
theorem d2_7 : decode prog_58_method_6_code 7 = .ok (.if_acmp .eq 7, 3) := by decide +kernel
theorem d2_10 : decode prog_58_method_6_code 10 = .ok (.iconst 1, 1) := by decide +kernel
theorem d2_11 : decode prog_58_method_6_code 11 = .ok (.goto 4, 3) := by decide +kernel
theorem d2_15 : decode prog_58_method_6_code 15 = .ok (.ireturn, 1) := by decide +kernel
theorem pn_com_example_vestry_vestry_ocf_OcfPackage_CompensationType : plainName "com/example/vestry/vestry/ocf/OcfPackage$CompensationType" = true := by first | (simp [plainName, overriddenIn]; done) | decide +kernel
theorem ef_2 (m : MethodId) (x0 : Addr) : entryFrame m #[(.ref x0)] 1 = mkF m 0 #[.val (.ref x0)] [] := by first | (simp [entryFrame, mkF, argsToLocals, Value.category]; done) | rfl
def Q2_yes (Z : State) (o0 : Addr) (f_o0_kind : Addr) (w_RESTRICTED_STOCK_UNIT_AWARD : Addr) (h0 : Heap) (n0 : Nat) (v : Option Value) (h : Heap) (L : List Loc) : Prop := v = some (.int (1 : Int32)) ∧ Fr n0 L ∧ h = h0
set_option maxRecDepth 65536 in
set_option maxHeartbeats 40000000 in
theorem rm2_yes (l : Launch) (Z : State) (a0 : Array Value) (hw : ∀ d ∈ tables_1, d.before a0 Z = true) (ws : List Jvm.Cond) (o0 : Addr) (f_o0_kind : Addr) (w_RESTRICTED_STOCK_UNIT_AWARD : Addr) (h0 : Heap) (n0 : Nat) (Z0 : n0 ≤ h0.size) (F_o0_kind : Fld Z h0 o0 "com/example/vestry/vestry/ocf/OcfPackage$CompensationType" "kind" "Lcom/example/vestry/vestry/ledger/AwardKind;" (.ref f_o0_kind)) (S_RESTRICTED_STOCK_UNIT_AWARD : Sta Z h0 "com/example/vestry/vestry/ledger/AwardKind" "RESTRICTED_STOCK_UNIT_AWARD" "Lcom/example/vestry/vestry/ledger/AwardKind;" (.ref w_RESTRICTED_STOCK_UNIT_AWARD)) (ne_f_o0_kind_w_RESTRICTED_STOCK_UNIT_AWARD : f_o0_kind ≠ w_RESTRICTED_STOCK_UNIT_AWARD) :
    MetFree l (⟨"com/example/vestry/vestry/ocf/OcfPackage$CompensationType", "exercisable", "()Z"⟩ : MethodName) (head1 (Jvm.Cond.code (⟨"com/example/vestry/vestry/ocf/OcfPackage$CompensationType", "exercisable", "()Z"⟩ : MethodName) prog_58_method_6_code 1 (some .boolean) :: ws) ({ frames := 0, cells := 0, slots := 0, locals := 0 } : Room)) (fun a U => a = #[(.ref o0)] ∧ Z.Warmed39 U.vm ∧ U.heap = h0) (fun _ _ _ _ _ => True) (fun _ U o U' => ∃ v L, o = .returned v ∧ Q2_yes Z o0 f_o0_kind w_RESTRICTED_STOCK_UNIT_AWARD h0 n0 v U'.heap L ∧ FrameEnd U o U' L ({ frames := 0, cells := 0, slots := 0, locals := 0 } : Room).cells ({ frames := 0, cells := 0, slots := 0, locals := 0 } : Room).slots) := by
  refine MetFree.of_bodySF (plainFor_of_name pn_com_example_vestry_vestry_ocf_OcfPackage_CompensationType) hisR ?_
  intro p e s m args below meth c s₁ Bd hml0 hP hK
  obtain ⟨rfl, hZ, hh⟩ := hP
  have hx := Bd.exec
  have hby := Bd.bytes
  have hml : c.maxLocals = 1 := hml0
  have hown : s.vm.findClass "com/example/vestry/vestry/ocf/OcfPackage$CompensationType" = some m.cls := findClass_of_methodNamed Bd.named
  have hnm := (name_of_methodNamed Bd.named Bd.method).1
  have X0 : Stand p l e ({ frames := 0, cells := 0, slots := 0, locals := 0 } : Room) s m #[(.ref o0)] below meth c s₁ [] 0 0 := Stand.of_body Bd
  have e0 : s₁.heap = h0 := by rw [← hh, Bd.state]; rfl
  have N0 := Fr.nil n0
  show Go p e below (fun o U' => ∃ v L, o = .returned v ∧ Q2_yes Z o0 f_o0_kind w_RESTRICTED_STOCK_UNIT_AWARD h0 n0 v U'.heap L ∧ FrameEnd s o U' L ({ frames := 0, cells := 0, slots := 0, locals := 0 } : Room).cells ({ frames := 0, cells := 0, slots := 0, locals := 0 } : Room).slots) (s₁.setTop (entryFrame m #[(.ref o0)] 1))
  refine Go.of (fun _ k => castTop (ef_2 m o0) k) ?_
  show Go p e below _ (s₁.setTop (mkF m 0 #[.val (.ref o0)] []))
  refine Go.of (fun _ k => XS.aloadN X0.here hx rfl (hb hby d2_0) rfl rfl k) ?_
  show Go p e below _ (s₁.setTop (mkF m 1 #[.val (.ref o0)] [(.ref o0)]))
  obtain ⟨T1, X1, e1, st1⟩ := getF X0 hx hZ hown (host := "") (Or.inl (hw _ (List.mem_of_getElem? (i := 13) rfl))) Via.refl e0 F_o0_kind (g := (mkF m 1 #[.val (.ref o0)] [(.ref o0)])) rfl rfl (hb hby d2_1)
  refine Go.of st1 ?_
  show Go p e below _ (T1.setTop (mkF m 4 #[.val (.ref o0)] [(.ref f_o0_kind)]))
  obtain ⟨T2, X2, e2, st2⟩ := getS2 X1 hx hZ hown (host := "") (Or.inl (hw _ (List.mem_of_getElem? (i := 17) rfl))) Via.refl e1 S_RESTRICTED_STOCK_UNIT_AWARD (g := (mkF m 4 #[.val (.ref o0)] [(.ref f_o0_kind)])) rfl (hb hby d2_4)
  refine Go.of st2 ?_
  show Go p e below _ (T2.setTop (mkF m 7 #[.val (.ref o0)] [(.ref w_RESTRICTED_STOCK_UNIT_AWARD), (.ref f_o0_kind)]))
  refine Go.of (fun _ k => Jvm.RoadKit.acmp (g := (mkF m 7 #[.val (.ref o0)] [(.ref w_RESTRICTED_STOCK_UNIT_AWARD), (.ref f_o0_kind)])) X2 hx rfl rfl rfl (pc0 := 7) (pc' := 10) (same := false) rfl (hb hby d2_7) rfl (decide_eq_false fun q => ne_f_o0_kind_w_RESTRICTED_STOCK_UNIT_AWARD (Value.ref.inj q)) (by decide) (by decide) k) ?_
  show Go p e below _ (T2.setTop (mkF m 10 #[.val (.ref o0)] []))
  refine Go.of (fun _ k => XS.iconst X2.here hx rfl (hb hby d2_10) k) ?_
  show Go p e below _ (T2.setTop (mkF m 11 #[.val (.ref o0)] [(.int (1 : Int32))]))
  refine Go.of (fun _ k => XS.goto X2.here hx rfl (pc0 := 11) (pc' := 15) rfl (hb hby d2_11) (by decide) (by decide) k) ?_
  show Go p e below _ (T2.setTop (mkF m 15 #[.val (.ref o0)] [(.int (1 : Int32))]))
  obtain ⟨fs, hr, hrun, hended, hW, hsame⟩ := X2.leave (v := some (.int (1 : Int32))) (fun h => by rw [Bd.returns] at h; cases h)
  refine Go.mk _ _ ?_ hrun hended ⟨_, _, rfl, ?_, ⟨_, rfl⟩, hW, hsame.mono (by decide) (by decide)⟩
  · exact retN X2 hx (t := .boolean) Bd.returns (by simp) (hb hby d2_15) hr
  · show Q2_yes Z o0 f_o0_kind w_RESTRICTED_STOCK_UNIT_AWARD h0 n0 _ T2.heap _
    rw [e2]
    exact ⟨rfl, N0, rfl⟩
theorem d2_14 : decode prog_58_method_6_code 14 = .ok (.iconst 0, 1) := by decide +kernel
def Q2_no (Z : State) (o0 : Addr) (f_o0_kind : Addr) (w_RESTRICTED_STOCK_UNIT_AWARD : Addr) (h0 : Heap) (n0 : Nat) (v : Option Value) (h : Heap) (L : List Loc) : Prop := v = some (.int (0 : Int32)) ∧ Fr n0 L ∧ h = h0
set_option maxRecDepth 65536 in
set_option maxHeartbeats 40000000 in
theorem rm2_no (l : Launch) (Z : State) (a0 : Array Value) (hw : ∀ d ∈ tables_1, d.before a0 Z = true) (ws : List Jvm.Cond) (o0 : Addr) (f_o0_kind : Addr) (w_RESTRICTED_STOCK_UNIT_AWARD : Addr) (h0 : Heap) (n0 : Nat) (Z0 : n0 ≤ h0.size) (F_o0_kind : Fld Z h0 o0 "com/example/vestry/vestry/ocf/OcfPackage$CompensationType" "kind" "Lcom/example/vestry/vestry/ledger/AwardKind;" (.ref f_o0_kind)) (S_RESTRICTED_STOCK_UNIT_AWARD : Sta Z h0 "com/example/vestry/vestry/ledger/AwardKind" "RESTRICTED_STOCK_UNIT_AWARD" "Lcom/example/vestry/vestry/ledger/AwardKind;" (.ref w_RESTRICTED_STOCK_UNIT_AWARD)) (ha7 : f_o0_kind = w_RESTRICTED_STOCK_UNIT_AWARD) :
    MetFree l (⟨"com/example/vestry/vestry/ocf/OcfPackage$CompensationType", "exercisable", "()Z"⟩ : MethodName) (head1 (Jvm.Cond.code (⟨"com/example/vestry/vestry/ocf/OcfPackage$CompensationType", "exercisable", "()Z"⟩ : MethodName) prog_58_method_6_code 1 (some .boolean) :: ws) ({ frames := 0, cells := 0, slots := 0, locals := 0 } : Room)) (fun a U => a = #[(.ref o0)] ∧ Z.Warmed39 U.vm ∧ U.heap = h0) (fun _ _ _ _ _ => True) (fun _ U o U' => ∃ v L, o = .returned v ∧ Q2_no Z o0 f_o0_kind w_RESTRICTED_STOCK_UNIT_AWARD h0 n0 v U'.heap L ∧ FrameEnd U o U' L ({ frames := 0, cells := 0, slots := 0, locals := 0 } : Room).cells ({ frames := 0, cells := 0, slots := 0, locals := 0 } : Room).slots) := by
  refine MetFree.of_bodySF (plainFor_of_name pn_com_example_vestry_vestry_ocf_OcfPackage_CompensationType) hisR ?_
  intro p e s m args below meth c s₁ Bd hml0 hP hK
  obtain ⟨rfl, hZ, hh⟩ := hP
  have hx := Bd.exec
  have hby := Bd.bytes
  have hml : c.maxLocals = 1 := hml0
  have hown : s.vm.findClass "com/example/vestry/vestry/ocf/OcfPackage$CompensationType" = some m.cls := findClass_of_methodNamed Bd.named
  have hnm := (name_of_methodNamed Bd.named Bd.method).1
  have X0 : Stand p l e ({ frames := 0, cells := 0, slots := 0, locals := 0 } : Room) s m #[(.ref o0)] below meth c s₁ [] 0 0 := Stand.of_body Bd
  have e0 : s₁.heap = h0 := by rw [← hh, Bd.state]; rfl
  have N0 := Fr.nil n0
  show Go p e below (fun o U' => ∃ v L, o = .returned v ∧ Q2_no Z o0 f_o0_kind w_RESTRICTED_STOCK_UNIT_AWARD h0 n0 v U'.heap L ∧ FrameEnd s o U' L ({ frames := 0, cells := 0, slots := 0, locals := 0 } : Room).cells ({ frames := 0, cells := 0, slots := 0, locals := 0 } : Room).slots) (s₁.setTop (entryFrame m #[(.ref o0)] 1))
  refine Go.of (fun _ k => castTop (ef_2 m o0) k) ?_
  show Go p e below _ (s₁.setTop (mkF m 0 #[.val (.ref o0)] []))
  refine Go.of (fun _ k => XS.aloadN X0.here hx rfl (hb hby d2_0) rfl rfl k) ?_
  show Go p e below _ (s₁.setTop (mkF m 1 #[.val (.ref o0)] [(.ref o0)]))
  obtain ⟨T1, X1, e1, st1⟩ := getF X0 hx hZ hown (host := "") (Or.inl (hw _ (List.mem_of_getElem? (i := 13) rfl))) Via.refl e0 F_o0_kind (g := (mkF m 1 #[.val (.ref o0)] [(.ref o0)])) rfl rfl (hb hby d2_1)
  refine Go.of st1 ?_
  show Go p e below _ (T1.setTop (mkF m 4 #[.val (.ref o0)] [(.ref f_o0_kind)]))
  obtain ⟨T2, X2, e2, st2⟩ := getS2 X1 hx hZ hown (host := "") (Or.inl (hw _ (List.mem_of_getElem? (i := 17) rfl))) Via.refl e1 S_RESTRICTED_STOCK_UNIT_AWARD (g := (mkF m 4 #[.val (.ref o0)] [(.ref f_o0_kind)])) rfl (hb hby d2_4)
  refine Go.of st2 ?_
  show Go p e below _ (T2.setTop (mkF m 7 #[.val (.ref o0)] [(.ref w_RESTRICTED_STOCK_UNIT_AWARD), (.ref f_o0_kind)]))
  refine Go.of (fun _ k => Jvm.RoadKit.acmp (g := (mkF m 7 #[.val (.ref o0)] [(.ref w_RESTRICTED_STOCK_UNIT_AWARD), (.ref f_o0_kind)])) X2 hx rfl rfl rfl (pc0 := 7) (pc' := 14) (same := true) rfl (hb hby d2_7) rfl (decide_eq_true (congrArg Value.ref ha7)) (by decide) (by decide) k) ?_
  show Go p e below _ (T2.setTop (mkF m 14 #[.val (.ref o0)] []))
  refine Go.of (fun _ k => XS.iconst X2.here hx rfl (hb hby d2_14) k) ?_
  show Go p e below _ (T2.setTop (mkF m 15 #[.val (.ref o0)] [(.int (0 : Int32))]))
  obtain ⟨fs, hr, hrun, hended, hW, hsame⟩ := X2.leave (v := some (.int (0 : Int32))) (fun h => by rw [Bd.returns] at h; cases h)
  refine Go.mk _ _ ?_ hrun hended ⟨_, _, rfl, ?_, ⟨_, rfl⟩, hW, hsame.mono (by decide) (by decide)⟩
  · exact retN X2 hx (t := .boolean) Bd.returns (by simp) (hb hby d2_15) hr
  · show Q2_no Z o0 f_o0_kind w_RESTRICTED_STOCK_UNIT_AWARD h0 n0 _ T2.heap _
    rw [e2]
    exact ⟨rfl, N0, rfl⟩
theorem d3_0 : decode method_3_code 0 = .ok (.iload_n 0, 1) := by decide +kernel
theorem d3_1 : decode method_3_code 1 = .ok (.iconst 3, 1) := by decide +kernel
theorem d3_2 : decode method_3_code 2 = .ok (.if_icmp .ne 5, 3) := by decide +kernel
theorem d3_5 : decode method_3_code 5 = .ok (.iconst 0, 1) := by decide +kernel
theorem d3_6 : decode method_3_code 6 = .ok (.ireturn, 1) := by decide +kernel
theorem ef_3 (m : MethodId) (x0 : Int32) : entryFrame m #[(.int x0)] 1 = mkF m 0 #[.val (.int x0)] [] := by first | (simp [entryFrame, mkF, argsToLocals, Value.category]; done) | rfl
def Q3_3 (Z : State) (p0 : Int32) (h0 : Heap) (n0 : Nat) (v : Option Value) (h : Heap) (L : List Loc) : Prop := v = some (.int (0 : Int32)) ∧ Fr n0 L ∧ h = h0
set_option maxRecDepth 65536 in
set_option maxHeartbeats 40000000 in
theorem rm3_3 (l : Launch) (Z : State) (a0 : Array Value) (hw : ∀ d ∈ tables_1, d.before a0 Z = true) (ws : List Jvm.Cond) (p0 : Int32) (h0 : Heap) (n0 : Nat) (Z0 : n0 ≤ h0.size) (hc2 : p0 = (3 : Int32)) :
    MetFree l (⟨"com/example/vestry/vestry/ocf/CompensationTypeExercisablePinLaw", "expected", "(I)Z"⟩ : MethodName) (head1 (Jvm.Cond.code (⟨"com/example/vestry/vestry/ocf/CompensationTypeExercisablePinLaw", "expected", "(I)Z"⟩ : MethodName) method_3_code 1 (some .boolean) :: ws) ({ frames := 0, cells := 0, slots := 0, locals := 0 } : Room)) (fun a U => a = #[(.int p0)] ∧ Z.Warmed39 U.vm ∧ U.heap = h0) (fun _ _ _ _ _ => True) (fun _ U o U' => ∃ v L, o = .returned v ∧ Q3_3 Z p0 h0 n0 v U'.heap L ∧ FrameEnd U o U' L ({ frames := 0, cells := 0, slots := 0, locals := 0 } : Room).cells ({ frames := 0, cells := 0, slots := 0, locals := 0 } : Room).slots) := by
  refine MetFree.of_bodySF (plainFor_of_name pn_com_example_vestry_vestry_ocf_CompensationTypeExercisablePinLaw) hisR ?_
  intro p e s m args below meth c s₁ Bd hml0 hP hK
  obtain ⟨rfl, hZ, hh⟩ := hP
  have hx := Bd.exec
  have hby := Bd.bytes
  have hml : c.maxLocals = 1 := hml0
  have hown : s.vm.findClass "com/example/vestry/vestry/ocf/CompensationTypeExercisablePinLaw" = some m.cls := findClass_of_methodNamed Bd.named
  have hnm := (name_of_methodNamed Bd.named Bd.method).1
  have X0 : Stand p l e ({ frames := 0, cells := 0, slots := 0, locals := 0 } : Room) s m #[(.int p0)] below meth c s₁ [] 0 0 := Stand.of_body Bd
  have e0 : s₁.heap = h0 := by rw [← hh, Bd.state]; rfl
  have N0 := Fr.nil n0
  show Go p e below (fun o U' => ∃ v L, o = .returned v ∧ Q3_3 Z p0 h0 n0 v U'.heap L ∧ FrameEnd s o U' L ({ frames := 0, cells := 0, slots := 0, locals := 0 } : Room).cells ({ frames := 0, cells := 0, slots := 0, locals := 0 } : Room).slots) (s₁.setTop (entryFrame m #[(.int p0)] 1))
  refine Go.of (fun _ k => castTop (ef_3 m p0) k) ?_
  show Go p e below _ (s₁.setTop (mkF m 0 #[.val (.int p0)] []))
  refine Go.of (fun _ k => XS.iloadN X0.here hx rfl (hb hby d3_0) rfl  k) ?_
  show Go p e below _ (s₁.setTop (mkF m 1 #[.val (.int p0)] [(.int p0)]))
  refine Go.of (fun _ k => XS.iconst X0.here hx rfl (hb hby d3_1) k) ?_
  show Go p e below _ (s₁.setTop (mkF m 2 #[.val (.int p0)] [(.int (3 : Int32)), (.int p0)]))
  refine Go.of (fun _ k => XS.icmpNo X0.here hx rfl (hb hby d3_2) rfl (teq hc2).2 k) ?_
  show Go p e below _ (s₁.setTop (mkF m 5 #[.val (.int p0)] []))
  refine Go.of (fun _ k => XS.iconst X0.here hx rfl (hb hby d3_5) k) ?_
  show Go p e below _ (s₁.setTop (mkF m 6 #[.val (.int p0)] [(.int (0 : Int32))]))
  obtain ⟨fs, hr, hrun, hended, hW, hsame⟩ := X0.leave (v := some (.int (0 : Int32))) (fun h => by rw [Bd.returns] at h; cases h)
  refine Go.mk _ _ ?_ hrun hended ⟨_, _, rfl, ?_, ⟨_, rfl⟩, hW, hsame.mono (by decide) (by decide)⟩
  · exact retN X0 hx (t := .boolean) Bd.returns (by simp) (hb hby d3_6) hr
  · show Q3_3 Z p0 h0 n0 _ s₁.heap _
    rw [e0]
    exact ⟨rfl, N0, rfl⟩
theorem d3_7 : decode method_3_code 7 = .ok (.iconst 1, 1) := by decide +kernel
theorem d3_8 : decode method_3_code 8 = .ok (.ireturn, 1) := by decide +kernel
def Q3_o (Z : State) (p0 : Int32) (h0 : Heap) (n0 : Nat) (v : Option Value) (h : Heap) (L : List Loc) : Prop := v = some (.int (1 : Int32)) ∧ Fr n0 L ∧ h = h0
set_option maxRecDepth 65536 in
set_option maxHeartbeats 40000000 in
theorem rm3_o (l : Launch) (Z : State) (a0 : Array Value) (hw : ∀ d ∈ tables_1, d.before a0 Z = true) (ws : List Jvm.Cond) (p0 : Int32) (h0 : Heap) (n0 : Nat) (Z0 : n0 ≤ h0.size) (hc2 : ¬ (p0 = (3 : Int32))) :
    MetFree l (⟨"com/example/vestry/vestry/ocf/CompensationTypeExercisablePinLaw", "expected", "(I)Z"⟩ : MethodName) (head1 (Jvm.Cond.code (⟨"com/example/vestry/vestry/ocf/CompensationTypeExercisablePinLaw", "expected", "(I)Z"⟩ : MethodName) method_3_code 1 (some .boolean) :: ws) ({ frames := 0, cells := 0, slots := 0, locals := 0 } : Room)) (fun a U => a = #[(.int p0)] ∧ Z.Warmed39 U.vm ∧ U.heap = h0) (fun _ _ _ _ _ => True) (fun _ U o U' => ∃ v L, o = .returned v ∧ Q3_o Z p0 h0 n0 v U'.heap L ∧ FrameEnd U o U' L ({ frames := 0, cells := 0, slots := 0, locals := 0 } : Room).cells ({ frames := 0, cells := 0, slots := 0, locals := 0 } : Room).slots) := by
  refine MetFree.of_bodySF (plainFor_of_name pn_com_example_vestry_vestry_ocf_CompensationTypeExercisablePinLaw) hisR ?_
  intro p e s m args below meth c s₁ Bd hml0 hP hK
  obtain ⟨rfl, hZ, hh⟩ := hP
  have hx := Bd.exec
  have hby := Bd.bytes
  have hml : c.maxLocals = 1 := hml0
  have hown : s.vm.findClass "com/example/vestry/vestry/ocf/CompensationTypeExercisablePinLaw" = some m.cls := findClass_of_methodNamed Bd.named
  have hnm := (name_of_methodNamed Bd.named Bd.method).1
  have X0 : Stand p l e ({ frames := 0, cells := 0, slots := 0, locals := 0 } : Room) s m #[(.int p0)] below meth c s₁ [] 0 0 := Stand.of_body Bd
  have e0 : s₁.heap = h0 := by rw [← hh, Bd.state]; rfl
  have N0 := Fr.nil n0
  show Go p e below (fun o U' => ∃ v L, o = .returned v ∧ Q3_o Z p0 h0 n0 v U'.heap L ∧ FrameEnd s o U' L ({ frames := 0, cells := 0, slots := 0, locals := 0 } : Room).cells ({ frames := 0, cells := 0, slots := 0, locals := 0 } : Room).slots) (s₁.setTop (entryFrame m #[(.int p0)] 1))
  refine Go.of (fun _ k => castTop (ef_3 m p0) k) ?_
  show Go p e below _ (s₁.setTop (mkF m 0 #[.val (.int p0)] []))
  refine Go.of (fun _ k => XS.iloadN X0.here hx rfl (hb hby d3_0) rfl  k) ?_
  show Go p e below _ (s₁.setTop (mkF m 1 #[.val (.int p0)] [(.int p0)]))
  refine Go.of (fun _ k => XS.iconst X0.here hx rfl (hb hby d3_1) k) ?_
  show Go p e below _ (s₁.setTop (mkF m 2 #[.val (.int p0)] [(.int (3 : Int32)), (.int p0)]))
  refine Go.of (fun _ k => XS.icmpYes X0.here hx rfl (pc0 := 2) (pc' := 7) rfl (hb hby d3_2) rfl (feq hc2).2 (by decide) (by decide) k) ?_
  show Go p e below _ (s₁.setTop (mkF m 7 #[.val (.int p0)] []))
  refine Go.of (fun _ k => XS.iconst X0.here hx rfl (hb hby d3_7) k) ?_
  show Go p e below _ (s₁.setTop (mkF m 8 #[.val (.int p0)] [(.int (1 : Int32))]))
  obtain ⟨fs, hr, hrun, hended, hW, hsame⟩ := X0.leave (v := some (.int (1 : Int32))) (fun h => by rw [Bd.returns] at h; cases h)
  refine Go.mk _ _ ?_ hrun hended ⟨_, _, rfl, ?_, ⟨_, rfl⟩, hW, hsame.mono (by decide) (by decide)⟩
  · exact retN X0 hx (t := .boolean) Bd.returns (by simp) (hb hby d3_8) hr
  · show Q3_o Z p0 h0 n0 _ s₁.heap _
    rw [e0]
    exact ⟨rfl, N0, rfl⟩
theorem pd_0 : parseMethodDescriptor "(I)Lcom/example/vestry/vestry/ocf/OcfPackage$CompensationType;" = some ⟨[.int], some (.object "com/example/vestry/vestry/ocf/OcfPackage$CompensationType")⟩ := by decide +kernel
theorem pd_1 : parseMethodDescriptor "()Z" = some ⟨[], some .boolean⟩ := by decide +kernel
theorem pd_2 : parseMethodDescriptor "(I)Z" = some ⟨[.int], some .boolean⟩ := by decide +kernel
theorem ef_0 (m : MethodId) (x0 : Int32) : entryFrame m #[(.int x0)] maxLocals = mkF m 0 #[.val (.int x0), .unset, .unset] [] := by first | (simp [entryFrame, mkF, argsToLocals, Value.category, maxLocals]; done) | rfl
def Q0 (Z : State) (p0 : Int32) (w_OPTION_NSO : Addr) (w_OPTION_AWARD : Addr) (w_RESTRICTED_STOCK_UNIT_AWARD : Addr) (w_OPTION_ISO : Addr) (w_OPTION : Addr) (w_RSU : Addr) (w_CSAR : Addr) (w_STOCK_APPRECIATION_RIGHT_AWARD : Addr) (w_SSAR : Addr) (h0 : Heap) (n0 : Nat) (v : Option Value) (h : Heap) (L : List Loc) : Prop := v = some (.int (1 : Int32)) ∧ Fr n0 L
set_option maxRecDepth 65536 in
set_option maxHeartbeats 40000000 in
theorem rm0 (l : Launch) (Z : State) (a0 : Array Value) (hw : ∀ d ∈ tables_1, d.before a0 Z = true) (ws : List Jvm.Cond) (p0 : Int32) (w_OPTION_NSO : Addr) (w_OPTION_AWARD : Addr) (w_RESTRICTED_STOCK_UNIT_AWARD : Addr) (w_OPTION_ISO : Addr) (w_OPTION : Addr) (w_RSU : Addr) (w_CSAR : Addr) (w_STOCK_APPRECIATION_RIGHT_AWARD : Addr) (w_SSAR : Addr) (h0 : Heap) (n0 : Nat) (Z0 : n0 ≤ h0.size) (S_OPTION_NSO : Sta Z h0 "com/example/vestry/vestry/ocf/OcfPackage$CompensationType" "OPTION_NSO" "Lcom/example/vestry/vestry/ocf/OcfPackage$CompensationType;" (.ref w_OPTION_NSO)) (S_OPTION_AWARD : Sta Z h0 "com/example/vestry/vestry/ledger/AwardKind" "OPTION_AWARD" "Lcom/example/vestry/vestry/ledger/AwardKind;" (.ref w_OPTION_AWARD)) (F_w_OPTION_NSO_kind : Fld Z h0 w_OPTION_NSO "com/example/vestry/vestry/ocf/OcfPackage$CompensationType" "kind" "Lcom/example/vestry/vestry/ledger/AwardKind;" (.ref w_OPTION_AWARD)) (S_RESTRICTED_STOCK_UNIT_AWARD : Sta Z h0 "com/example/vestry/vestry/ledger/AwardKind" "RESTRICTED_STOCK_UNIT_AWARD" "Lcom/example/vestry/vestry/ledger/AwardKind;" (.ref w_RESTRICTED_STOCK_UNIT_AWARD)) (ne_w_OPTION_AWARD_w_RESTRICTED_STOCK_UNIT_AWARD : w_OPTION_AWARD ≠ w_RESTRICTED_STOCK_UNIT_AWARD) (E_w_OPTION_NSO : Exa Z h0 w_OPTION_NSO "com/example/vestry/vestry/ocf/OcfPackage$CompensationType") (S_OPTION_ISO : Sta Z h0 "com/example/vestry/vestry/ocf/OcfPackage$CompensationType" "OPTION_ISO" "Lcom/example/vestry/vestry/ocf/OcfPackage$CompensationType;" (.ref w_OPTION_ISO)) (F_w_OPTION_ISO_kind : Fld Z h0 w_OPTION_ISO "com/example/vestry/vestry/ocf/OcfPackage$CompensationType" "kind" "Lcom/example/vestry/vestry/ledger/AwardKind;" (.ref w_OPTION_AWARD)) (E_w_OPTION_ISO : Exa Z h0 w_OPTION_ISO "com/example/vestry/vestry/ocf/OcfPackage$CompensationType") (S_OPTION : Sta Z h0 "com/example/vestry/vestry/ocf/OcfPackage$CompensationType" "OPTION" "Lcom/example/vestry/vestry/ocf/OcfPackage$CompensationType;" (.ref w_OPTION)) (F_w_OPTION_kind : Fld Z h0 w_OPTION "com/example/vestry/vestry/ocf/OcfPackage$CompensationType" "kind" "Lcom/example/vestry/vestry/ledger/AwardKind;" (.ref w_OPTION_AWARD)) (E_w_OPTION : Exa Z h0 w_OPTION "com/example/vestry/vestry/ocf/OcfPackage$CompensationType") (S_RSU : Sta Z h0 "com/example/vestry/vestry/ocf/OcfPackage$CompensationType" "RSU" "Lcom/example/vestry/vestry/ocf/OcfPackage$CompensationType;" (.ref w_RSU)) (F_w_RSU_kind : Fld Z h0 w_RSU "com/example/vestry/vestry/ocf/OcfPackage$CompensationType" "kind" "Lcom/example/vestry/vestry/ledger/AwardKind;" (.ref w_RESTRICTED_STOCK_UNIT_AWARD)) (E_w_RSU : Exa Z h0 w_RSU "com/example/vestry/vestry/ocf/OcfPackage$CompensationType") (S_CSAR : Sta Z h0 "com/example/vestry/vestry/ocf/OcfPackage$CompensationType" "CSAR" "Lcom/example/vestry/vestry/ocf/OcfPackage$CompensationType;" (.ref w_CSAR)) (S_STOCK_APPRECIATION_RIGHT_AWARD : Sta Z h0 "com/example/vestry/vestry/ledger/AwardKind" "STOCK_APPRECIATION_RIGHT_AWARD" "Lcom/example/vestry/vestry/ledger/AwardKind;" (.ref w_STOCK_APPRECIATION_RIGHT_AWARD)) (F_w_CSAR_kind : Fld Z h0 w_CSAR "com/example/vestry/vestry/ocf/OcfPackage$CompensationType" "kind" "Lcom/example/vestry/vestry/ledger/AwardKind;" (.ref w_STOCK_APPRECIATION_RIGHT_AWARD)) (ne_w_RESTRICTED_STOCK_UNIT_AWARD_w_STOCK_APPRECIATION_RIGHT_AWARD : w_RESTRICTED_STOCK_UNIT_AWARD ≠ w_STOCK_APPRECIATION_RIGHT_AWARD) (E_w_CSAR : Exa Z h0 w_CSAR "com/example/vestry/vestry/ocf/OcfPackage$CompensationType") (S_SSAR : Sta Z h0 "com/example/vestry/vestry/ocf/OcfPackage$CompensationType" "SSAR" "Lcom/example/vestry/vestry/ocf/OcfPackage$CompensationType;" (.ref w_SSAR)) (F_w_SSAR_kind : Fld Z h0 w_SSAR "com/example/vestry/vestry/ocf/OcfPackage$CompensationType" "kind" "Lcom/example/vestry/vestry/ledger/AwardKind;" (.ref w_STOCK_APPRECIATION_RIGHT_AWARD)) (E_w_SSAR : Exa Z h0 w_SSAR "com/example/vestry/vestry/ocf/OcfPackage$CompensationType") :
    MetFree l x (head1 (Jvm.Cond.code x code maxLocals ret :: ws) room_1) (fun a U => a = #[(.int p0)] ∧ Z.Warmed39 U.vm ∧ U.heap = h0) (fun _ _ _ _ _ => True) (fun _ U o U' => ∃ v L, o = .returned v ∧ Q0 Z p0 w_OPTION_NSO w_OPTION_AWARD w_RESTRICTED_STOCK_UNIT_AWARD w_OPTION_ISO w_OPTION w_RSU w_CSAR w_STOCK_APPRECIATION_RIGHT_AWARD w_SSAR h0 n0 v U'.heap L ∧ FrameEnd U o U' L room_1.cells room_1.slots) := by
  refine MetFree.of_bodySF (plainFor_of_name pn_com_example_vestry_vestry_ocf_CompensationTypeExercisablePinLaw) hisR ?_
  intro p e s m args below meth c s₁ Bd hml0 hP hK
  obtain ⟨rfl, hZ, hh⟩ := hP
  have hx := Bd.exec
  have hby := Bd.bytes
  have hml : c.maxLocals = 3 := hml0
  have hown : s.vm.findClass "com/example/vestry/vestry/ocf/CompensationTypeExercisablePinLaw" = some m.cls := findClass_of_methodNamed Bd.named
  have hnm := (name_of_methodNamed Bd.named Bd.method).1
  have X0 : Stand p l e room_1 s m #[(.int p0)] below meth c s₁ [] 0 0 := Stand.of_body Bd
  have e0 : s₁.heap = h0 := by rw [← hh, Bd.state]; rfl
  have N0 := Fr.nil n0
  show Go p e below (fun o U' => ∃ v L, o = .returned v ∧ Q0 Z p0 w_OPTION_NSO w_OPTION_AWARD w_RESTRICTED_STOCK_UNIT_AWARD w_OPTION_ISO w_OPTION w_RSU w_CSAR w_STOCK_APPRECIATION_RIGHT_AWARD w_SSAR h0 n0 v U'.heap L ∧ FrameEnd s o U' L room_1.cells room_1.slots) (s₁.setTop (entryFrame m #[(.int p0)] maxLocals))
  refine Go.of (fun _ k => castTop (ef_0 m p0) k) ?_
  show Go p e below _ (s₁.setTop (mkF m 0 #[.val (.int p0), .unset, .unset] []))
  refine Go.of (fun _ k => XS.iloadN X0.here hx rfl (hb hby at_0) rfl  k) ?_
  show Go p e below _ (s₁.setTop (mkF m 1 #[.val (.int p0), .unset, .unset] [(.int p0)]))
  refine Go.of (fun _ k => X0.ldcInt hx hown (mvT hZ (hw _ (List.mem_of_getElem? (i := 0) rfl))) (g := (mkF m 1 #[.val (.int p0), .unset, .unset] [(.int p0)])) rfl (hb hby at_1) _ k) ?_
  show Go p e below _ (s₁.setTop (mkF m 3 #[.val (.int p0), .unset, .unset] [(.int (2147483647 : Int32)), (.int p0)]))
  refine Go.of (fun _ k => XS.iand X0.here hx rfl (hb hby at_3) rfl k) ?_
  show Go p e below _ (s₁.setTop (mkF m 4 #[.val (.int p0), .unset, .unset] [(.int (p0 &&& (2147483647 : Int32)))]))
  refine Go.of (fun _ k => XS.bipush X0.here hx rfl (hb hby at_4) k) ?_
  show Go p e below _ (s₁.setTop (mkF m 6 #[.val (.int p0), .unset, .unset] [(.int (6 : Int32)), (.int (p0 &&& (2147483647 : Int32)))]))
  refine Go.of (fun _ k => iremM X0 hx rfl (hb hby at_6) rfl (by decide) k) ?_
  show Go p e below _ (s₁.setTop (mkF m 7 #[.val (.int p0), .unset, .unset] [(.int ((p0 &&& (2147483647 : Int32)) % (6 : Int32)))]))
  refine Go.of (fun _ k => XS.istoreN X0.here hx rfl (hb hby at_7) rfl (l' := #[.val (.int p0), .val (.int ((p0 &&& (2147483647 : Int32)) % (6 : Int32))), .unset]) rfl k) ?_
  show Go p e below _ (s₁.setTop (mkF m 8 #[.val (.int p0), .val (.int ((p0 &&& (2147483647 : Int32)) % (6 : Int32))), .unset] []))
  refine Go.of (fun _ k => XS.iloadN X0.here hx rfl (hb hby at_8) rfl  k) ?_
  show Go p e below _ (s₁.setTop (mkF m 9 #[.val (.int p0), .val (.int ((p0 &&& (2147483647 : Int32)) % (6 : Int32))), .unset] [(.int ((p0 &&& (2147483647 : Int32)) % (6 : Int32)))]))
  by_cases hs1 : ((p0 &&& (2147483647 : Int32)) % (6 : Int32)) = (0 : Int32)
  ·
    show Go p e below _ (s₁.setTop (mkF m 9 #[.val (.int p0), .val (.int ((p0 &&& (2147483647 : Int32)) % (6 : Int32))), .unset] [(.int ((p0 &&& (2147483647 : Int32)) % (6 : Int32)))]))
    obtain ⟨_, _, ⟨T2, L2, k2, n2⟩, -, X2, ⟨Lc2, hQ2, l2, y2, z2⟩, st2⟩ := Jvm.LawKit.callS X0 hx (y := (⟨"com/example/vestry/vestry/ocf/CompensationTypeExercisablePinLaw", "pick", "(I)Lcom/example/vestry/vestry/ocf/OcfPackage$CompensationType;"⟩ : MethodName)) hown (mvT hZ (hw _ (List.mem_of_getElem? (i := 1) rfl))) (mvT hZ (hw _ (List.mem_of_getElem? (i := 2) rfl))) (mvT hZ (hw _ (List.mem_of_getElem? (i := 3) rfl))) (mvT hZ (hw _ (List.mem_of_getElem? (i := 4) rfl))) (by decide) (backOf (W := 0) (rm1_0 l Z a0 hw [] ((p0 &&& (2147483647 : Int32)) % (6 : Int32)) w_OPTION_NSO h0 n0 Z0 hs1 S_OPTION_NSO) hZ (hw _ (List.mem_of_getElem? (i := 4) rfl)) (hw _ (List.mem_of_getElem? (i := 3) rfl)) (by decide) (by decide)) (g := (mkF m 9 #[.val (.int p0), .val (.int ((p0 &&& (2147483647 : Int32)) % (6 : Int32))), .unset] [(.int ((p0 &&& (2147483647 : Int32)) % (6 : Int32)))])) rfl (by rw [hml]; rfl) (argsL := [(.int ((p0 &&& (2147483647 : Int32)) % (6 : Int32)))]) (rest := []) (lenOf pd_0 rfl) rfl (by show 2 * 0 + _ ≤ _; exact Nat.le_of_eq rfl) (hb hby at_9) (fun _ _ => ⟨rfl, e0, (by decide : 0 + 0 ≤ _), (by decide : 0 + 0 ≤ _)⟩)
    dsimp only [Pt.U, Pt.locs, Pt.cells, Pt.slots] at X2 l2 y2 z2 st2 hQ2
    subst l2 y2 z2
    obtain ⟨rfl, Nq2, q2_0⟩ := hQ2
    have N2 := Fr.app N0 Nq2
    refine Go.of st2 ?_
    show Go p e below _ (T2.setTop (mkF m 12 #[.val (.int p0), .val (.int ((p0 &&& (2147483647 : Int32)) % (6 : Int32))), .unset] [(.ref w_OPTION_NSO)]))
    refine Go.of (fun _ k => XS.astoreN X2.here hx rfl (hb hby at_12) rfl rfl (l' := #[.val (.int p0), .val (.int ((p0 &&& (2147483647 : Int32)) % (6 : Int32))), .val (.ref w_OPTION_NSO)]) rfl k) ?_
    show Go p e below _ (T2.setTop (mkF m 13 #[.val (.int p0), .val (.int ((p0 &&& (2147483647 : Int32)) % (6 : Int32))), .val (.ref w_OPTION_NSO)] []))
    refine Go.of (fun _ k => XS.aloadN X2.here hx rfl (hb hby at_13) rfl rfl k) ?_
    show Go p e below _ (T2.setTop (mkF m 14 #[.val (.int p0), .val (.int ((p0 &&& (2147483647 : Int32)) % (6 : Int32))), .val (.ref w_OPTION_NSO)] [(.ref w_OPTION_NSO)]))
    obtain ⟨cq3, kq3, q3a, q3b, q3c⟩ := isOf hZ q2_0 E_w_OPTION_NSO
    obtain ⟨_, _, ⟨T3, L3, k3, n3⟩, -, X3, ⟨Lc3, hQ3, l3, y3, z3⟩, st3⟩ := X2.virtualBack hx (y := (⟨"com/example/vestry/vestry/ocf/OcfPackage$CompensationType", "exercisable", "()Z"⟩ : MethodName)) (z := (⟨"com/example/vestry/vestry/ocf/OcfPackage$CompensationType", "exercisable", "()Z"⟩ : MethodName)) hown (mvT hZ (hw _ (List.mem_of_getElem? (i := 8) rfl))) (mvT hZ (hw _ (List.mem_of_getElem? (i := 9) rfl))) (notFace_of_selects (args := #[]) (mvT hZ (hw _ (List.mem_of_getElem? (i := 11) rfl)))) (mvT hZ (hw _ (List.mem_of_getElem? (i := 11) rfl))) (mvT hZ (hw _ (List.mem_of_getElem? (i := 10) rfl))) (by decide) (backOf (W := 0) (rm2_yes l Z a0 hw [] w_OPTION_NSO w_OPTION_AWARD w_RESTRICTED_STOCK_UNIT_AWARD h0 n0 Z0 F_w_OPTION_NSO_kind S_RESTRICTED_STOCK_UNIT_AWARD ne_w_OPTION_AWARD_w_RESTRICTED_STOCK_UNIT_AWARD) hZ (hw _ (List.mem_of_getElem? (i := 12) rfl)) (hw _ (List.mem_of_getElem? (i := 6) rfl)) (by decide) (by decide)) q3a q3c (g := (mkF m 14 #[.val (.int p0), .val (.int ((p0 &&& (2147483647 : Int32)) % (6 : Int32))), .val (.ref w_OPTION_NSO)] [(.ref w_OPTION_NSO)])) rfl (by rw [hml]; rfl) (Steps.refl _) (argsL := []) (rest := []) (lenOf pd_1 rfl) rfl (by show 2 * 0 + _ ≤ _; exact Nat.le_of_eq rfl) (hb hby at_14) (fun _ _ => ⟨rfl, q2_0, (by decide : 0 + 0 ≤ _), (by decide : 0 + 0 ≤ _)⟩)
    dsimp only [Pt.U, Pt.locs, Pt.cells, Pt.slots] at X3 l3 y3 z3 st3 hQ3
    subst l3 y3 z3
    obtain ⟨rfl, Nq3, q3_0⟩ := hQ3
    have N3 := Fr.app N2 Nq3
    refine Go.tr st3 ?_
    show Go p e below _ (T3.setTop (mkF m 17 #[.val (.int p0), .val (.int ((p0 &&& (2147483647 : Int32)) % (6 : Int32))), .val (.ref w_OPTION_NSO)] [(.int (1 : Int32))]))
    refine Go.of (fun _ k => XS.iloadN X3.here hx rfl (hb hby at_17) rfl  k) ?_
    show Go p e below _ (T3.setTop (mkF m 18 #[.val (.int p0), .val (.int ((p0 &&& (2147483647 : Int32)) % (6 : Int32))), .val (.ref w_OPTION_NSO)] [(.int ((p0 &&& (2147483647 : Int32)) % (6 : Int32))), (.int (1 : Int32))]))
    obtain ⟨_, _, ⟨T4, L4, k4, n4⟩, -, X4, ⟨Lc4, hQ4, l4, y4, z4⟩, st4⟩ := Jvm.LawKit.callS X3 hx (y := (⟨"com/example/vestry/vestry/ocf/CompensationTypeExercisablePinLaw", "expected", "(I)Z"⟩ : MethodName)) hown (mvT hZ (hw _ (List.mem_of_getElem? (i := 19) rfl))) (mvT hZ (hw _ (List.mem_of_getElem? (i := 20) rfl))) (mvT hZ (hw _ (List.mem_of_getElem? (i := 3) rfl))) (mvT hZ (hw _ (List.mem_of_getElem? (i := 21) rfl))) (by decide) (backOf (W := 1) (rm3_o l Z a0 hw [] ((p0 &&& (2147483647 : Int32)) % (6 : Int32)) h0 n0 Z0 (by rw [hs1]; decide : ¬ (((p0 &&& (2147483647 : Int32)) % (6 : Int32)) = (3 : Int32)))) hZ (hw _ (List.mem_of_getElem? (i := 21) rfl)) (hw _ (List.mem_of_getElem? (i := 3) rfl)) (by decide) (by decide)) (g := (mkF m 18 #[.val (.int p0), .val (.int ((p0 &&& (2147483647 : Int32)) % (6 : Int32))), .val (.ref w_OPTION_NSO)] [(.int ((p0 &&& (2147483647 : Int32)) % (6 : Int32))), (.int (1 : Int32))])) rfl (by rw [hml]; rfl) (argsL := [(.int ((p0 &&& (2147483647 : Int32)) % (6 : Int32)))]) (rest := [(.int (1 : Int32))]) (lenOf pd_2 rfl) rfl (by show 2 * 0 + _ ≤ _; exact Nat.le_of_eq rfl) (hb hby at_18) (fun _ _ => ⟨rfl, q3_0, (by decide : 0 + 0 ≤ _), (by decide : 0 + 0 ≤ _)⟩)
    dsimp only [Pt.U, Pt.locs, Pt.cells, Pt.slots] at X4 l4 y4 z4 st4 hQ4
    subst l4 y4 z4
    obtain ⟨rfl, Nq4, q4_0⟩ := hQ4
    have N4 := Fr.app N3 Nq4
    refine Go.of st4 ?_
    show Go p e below _ (T4.setTop (mkF m 21 #[.val (.int p0), .val (.int ((p0 &&& (2147483647 : Int32)) % (6 : Int32))), .val (.ref w_OPTION_NSO)] [(.int (1 : Int32)), (.int (1 : Int32))]))
    refine Go.of (fun _ k => XS.icmpNo X4.here hx rfl (hb hby at_21) rfl (teq (by decide : (1 : Int32) = (1 : Int32))).2 k) ?_
    show Go p e below _ (T4.setTop (mkF m 24 #[.val (.int p0), .val (.int ((p0 &&& (2147483647 : Int32)) % (6 : Int32))), .val (.ref w_OPTION_NSO)] []))
    refine Go.of (fun _ k => XS.iconst X4.here hx rfl (hb hby at_24) k) ?_
    show Go p e below _ (T4.setTop (mkF m 25 #[.val (.int p0), .val (.int ((p0 &&& (2147483647 : Int32)) % (6 : Int32))), .val (.ref w_OPTION_NSO)] [(.int (1 : Int32))]))
    refine Go.of (fun _ k => XS.goto X4.here hx rfl (pc0 := 25) (pc' := 29) rfl (hb hby at_25) (by decide) (by decide) k) ?_
    show Go p e below _ (T4.setTop (mkF m 29 #[.val (.int p0), .val (.int ((p0 &&& (2147483647 : Int32)) % (6 : Int32))), .val (.ref w_OPTION_NSO)] [(.int (1 : Int32))]))
    obtain ⟨fs, hr, hrun, hended, hW, hsame⟩ := X4.leave (v := some (.int (1 : Int32))) (fun h => by rw [Bd.returns] at h; cases h)
    refine Go.mk _ _ ?_ hrun hended ⟨_, _, rfl, ?_, ⟨_, rfl⟩, hW, hsame.mono (by decide) (by decide)⟩
    · exact retN X4 hx (t := .boolean) Bd.returns (by simp) (hb hby at_29) hr
    · show Q0 Z p0 w_OPTION_NSO w_OPTION_AWARD w_RESTRICTED_STOCK_UNIT_AWARD w_OPTION_ISO w_OPTION w_RSU w_CSAR w_STOCK_APPRECIATION_RIGHT_AWARD w_SSAR h0 n0 _ T4.heap _
      rw [q4_0]
      exact ⟨rfl, N4⟩
  ·
    show Go p e below _ (s₁.setTop (mkF m 9 #[.val (.int p0), .val (.int ((p0 &&& (2147483647 : Int32)) % (6 : Int32))), .unset] [(.int ((p0 &&& (2147483647 : Int32)) % (6 : Int32)))]))
    by_cases hs6 : ((p0 &&& (2147483647 : Int32)) % (6 : Int32)) = (1 : Int32)
    ·
      show Go p e below _ (s₁.setTop (mkF m 9 #[.val (.int p0), .val (.int ((p0 &&& (2147483647 : Int32)) % (6 : Int32))), .unset] [(.int ((p0 &&& (2147483647 : Int32)) % (6 : Int32)))]))
      obtain ⟨_, _, ⟨T7, L7, k7, n7⟩, -, X7, ⟨Lc7, hQ7, l7, y7, z7⟩, st7⟩ := Jvm.LawKit.callS X0 hx (y := (⟨"com/example/vestry/vestry/ocf/CompensationTypeExercisablePinLaw", "pick", "(I)Lcom/example/vestry/vestry/ocf/OcfPackage$CompensationType;"⟩ : MethodName)) hown (mvT hZ (hw _ (List.mem_of_getElem? (i := 1) rfl))) (mvT hZ (hw _ (List.mem_of_getElem? (i := 2) rfl))) (mvT hZ (hw _ (List.mem_of_getElem? (i := 3) rfl))) (mvT hZ (hw _ (List.mem_of_getElem? (i := 4) rfl))) (by decide) (backOf (W := 0) (rm1_1 l Z a0 hw [] ((p0 &&& (2147483647 : Int32)) % (6 : Int32)) w_OPTION_ISO h0 n0 Z0 hs1 hs6 S_OPTION_ISO) hZ (hw _ (List.mem_of_getElem? (i := 4) rfl)) (hw _ (List.mem_of_getElem? (i := 3) rfl)) (by decide) (by decide)) (g := (mkF m 9 #[.val (.int p0), .val (.int ((p0 &&& (2147483647 : Int32)) % (6 : Int32))), .unset] [(.int ((p0 &&& (2147483647 : Int32)) % (6 : Int32)))])) rfl (by rw [hml]; rfl) (argsL := [(.int ((p0 &&& (2147483647 : Int32)) % (6 : Int32)))]) (rest := []) (lenOf pd_0 rfl) rfl (by show 2 * 0 + _ ≤ _; exact Nat.le_of_eq rfl) (hb hby at_9) (fun _ _ => ⟨rfl, e0, (by decide : 0 + 0 ≤ _), (by decide : 0 + 0 ≤ _)⟩)
      dsimp only [Pt.U, Pt.locs, Pt.cells, Pt.slots] at X7 l7 y7 z7 st7 hQ7
      subst l7 y7 z7
      obtain ⟨rfl, Nq7, q7_0⟩ := hQ7
      have N7 := Fr.app N0 Nq7
      refine Go.of st7 ?_
      show Go p e below _ (T7.setTop (mkF m 12 #[.val (.int p0), .val (.int ((p0 &&& (2147483647 : Int32)) % (6 : Int32))), .unset] [(.ref w_OPTION_ISO)]))
      refine Go.of (fun _ k => XS.astoreN X7.here hx rfl (hb hby at_12) rfl rfl (l' := #[.val (.int p0), .val (.int ((p0 &&& (2147483647 : Int32)) % (6 : Int32))), .val (.ref w_OPTION_ISO)]) rfl k) ?_
      show Go p e below _ (T7.setTop (mkF m 13 #[.val (.int p0), .val (.int ((p0 &&& (2147483647 : Int32)) % (6 : Int32))), .val (.ref w_OPTION_ISO)] []))
      refine Go.of (fun _ k => XS.aloadN X7.here hx rfl (hb hby at_13) rfl rfl k) ?_
      show Go p e below _ (T7.setTop (mkF m 14 #[.val (.int p0), .val (.int ((p0 &&& (2147483647 : Int32)) % (6 : Int32))), .val (.ref w_OPTION_ISO)] [(.ref w_OPTION_ISO)]))
      obtain ⟨cq8, kq8, q8a, q8b, q8c⟩ := isOf hZ q7_0 E_w_OPTION_ISO
      obtain ⟨_, _, ⟨T8, L8, k8, n8⟩, -, X8, ⟨Lc8, hQ8, l8, y8, z8⟩, st8⟩ := X7.virtualBack hx (y := (⟨"com/example/vestry/vestry/ocf/OcfPackage$CompensationType", "exercisable", "()Z"⟩ : MethodName)) (z := (⟨"com/example/vestry/vestry/ocf/OcfPackage$CompensationType", "exercisable", "()Z"⟩ : MethodName)) hown (mvT hZ (hw _ (List.mem_of_getElem? (i := 8) rfl))) (mvT hZ (hw _ (List.mem_of_getElem? (i := 9) rfl))) (notFace_of_selects (args := #[]) (mvT hZ (hw _ (List.mem_of_getElem? (i := 11) rfl)))) (mvT hZ (hw _ (List.mem_of_getElem? (i := 11) rfl))) (mvT hZ (hw _ (List.mem_of_getElem? (i := 10) rfl))) (by decide) (backOf (W := 0) (rm2_yes l Z a0 hw [] w_OPTION_ISO w_OPTION_AWARD w_RESTRICTED_STOCK_UNIT_AWARD h0 n0 Z0 F_w_OPTION_ISO_kind S_RESTRICTED_STOCK_UNIT_AWARD ne_w_OPTION_AWARD_w_RESTRICTED_STOCK_UNIT_AWARD) hZ (hw _ (List.mem_of_getElem? (i := 12) rfl)) (hw _ (List.mem_of_getElem? (i := 6) rfl)) (by decide) (by decide)) q8a q8c (g := (mkF m 14 #[.val (.int p0), .val (.int ((p0 &&& (2147483647 : Int32)) % (6 : Int32))), .val (.ref w_OPTION_ISO)] [(.ref w_OPTION_ISO)])) rfl (by rw [hml]; rfl) (Steps.refl _) (argsL := []) (rest := []) (lenOf pd_1 rfl) rfl (by show 2 * 0 + _ ≤ _; exact Nat.le_of_eq rfl) (hb hby at_14) (fun _ _ => ⟨rfl, q7_0, (by decide : 0 + 0 ≤ _), (by decide : 0 + 0 ≤ _)⟩)
      dsimp only [Pt.U, Pt.locs, Pt.cells, Pt.slots] at X8 l8 y8 z8 st8 hQ8
      subst l8 y8 z8
      obtain ⟨rfl, Nq8, q8_0⟩ := hQ8
      have N8 := Fr.app N7 Nq8
      refine Go.tr st8 ?_
      show Go p e below _ (T8.setTop (mkF m 17 #[.val (.int p0), .val (.int ((p0 &&& (2147483647 : Int32)) % (6 : Int32))), .val (.ref w_OPTION_ISO)] [(.int (1 : Int32))]))
      refine Go.of (fun _ k => XS.iloadN X8.here hx rfl (hb hby at_17) rfl  k) ?_
      show Go p e below _ (T8.setTop (mkF m 18 #[.val (.int p0), .val (.int ((p0 &&& (2147483647 : Int32)) % (6 : Int32))), .val (.ref w_OPTION_ISO)] [(.int ((p0 &&& (2147483647 : Int32)) % (6 : Int32))), (.int (1 : Int32))]))
      obtain ⟨_, _, ⟨T9, L9, k9, n9⟩, -, X9, ⟨Lc9, hQ9, l9, y9, z9⟩, st9⟩ := Jvm.LawKit.callS X8 hx (y := (⟨"com/example/vestry/vestry/ocf/CompensationTypeExercisablePinLaw", "expected", "(I)Z"⟩ : MethodName)) hown (mvT hZ (hw _ (List.mem_of_getElem? (i := 19) rfl))) (mvT hZ (hw _ (List.mem_of_getElem? (i := 20) rfl))) (mvT hZ (hw _ (List.mem_of_getElem? (i := 3) rfl))) (mvT hZ (hw _ (List.mem_of_getElem? (i := 21) rfl))) (by decide) (backOf (W := 1) (rm3_o l Z a0 hw [] ((p0 &&& (2147483647 : Int32)) % (6 : Int32)) h0 n0 Z0 (by rw [hs6]; decide : ¬ (((p0 &&& (2147483647 : Int32)) % (6 : Int32)) = (3 : Int32)))) hZ (hw _ (List.mem_of_getElem? (i := 21) rfl)) (hw _ (List.mem_of_getElem? (i := 3) rfl)) (by decide) (by decide)) (g := (mkF m 18 #[.val (.int p0), .val (.int ((p0 &&& (2147483647 : Int32)) % (6 : Int32))), .val (.ref w_OPTION_ISO)] [(.int ((p0 &&& (2147483647 : Int32)) % (6 : Int32))), (.int (1 : Int32))])) rfl (by rw [hml]; rfl) (argsL := [(.int ((p0 &&& (2147483647 : Int32)) % (6 : Int32)))]) (rest := [(.int (1 : Int32))]) (lenOf pd_2 rfl) rfl (by show 2 * 0 + _ ≤ _; exact Nat.le_of_eq rfl) (hb hby at_18) (fun _ _ => ⟨rfl, q8_0, (by decide : 0 + 0 ≤ _), (by decide : 0 + 0 ≤ _)⟩)
      dsimp only [Pt.U, Pt.locs, Pt.cells, Pt.slots] at X9 l9 y9 z9 st9 hQ9
      subst l9 y9 z9
      obtain ⟨rfl, Nq9, q9_0⟩ := hQ9
      have N9 := Fr.app N8 Nq9
      refine Go.of st9 ?_
      show Go p e below _ (T9.setTop (mkF m 21 #[.val (.int p0), .val (.int ((p0 &&& (2147483647 : Int32)) % (6 : Int32))), .val (.ref w_OPTION_ISO)] [(.int (1 : Int32)), (.int (1 : Int32))]))
      refine Go.of (fun _ k => XS.icmpNo X9.here hx rfl (hb hby at_21) rfl (teq (by decide : (1 : Int32) = (1 : Int32))).2 k) ?_
      show Go p e below _ (T9.setTop (mkF m 24 #[.val (.int p0), .val (.int ((p0 &&& (2147483647 : Int32)) % (6 : Int32))), .val (.ref w_OPTION_ISO)] []))
      refine Go.of (fun _ k => XS.iconst X9.here hx rfl (hb hby at_24) k) ?_
      show Go p e below _ (T9.setTop (mkF m 25 #[.val (.int p0), .val (.int ((p0 &&& (2147483647 : Int32)) % (6 : Int32))), .val (.ref w_OPTION_ISO)] [(.int (1 : Int32))]))
      refine Go.of (fun _ k => XS.goto X9.here hx rfl (pc0 := 25) (pc' := 29) rfl (hb hby at_25) (by decide) (by decide) k) ?_
      show Go p e below _ (T9.setTop (mkF m 29 #[.val (.int p0), .val (.int ((p0 &&& (2147483647 : Int32)) % (6 : Int32))), .val (.ref w_OPTION_ISO)] [(.int (1 : Int32))]))
      obtain ⟨fs, hr, hrun, hended, hW, hsame⟩ := X9.leave (v := some (.int (1 : Int32))) (fun h => by rw [Bd.returns] at h; cases h)
      refine Go.mk _ _ ?_ hrun hended ⟨_, _, rfl, ?_, ⟨_, rfl⟩, hW, hsame.mono (by decide) (by decide)⟩
      · exact retN X9 hx (t := .boolean) Bd.returns (by simp) (hb hby at_29) hr
      · show Q0 Z p0 w_OPTION_NSO w_OPTION_AWARD w_RESTRICTED_STOCK_UNIT_AWARD w_OPTION_ISO w_OPTION w_RSU w_CSAR w_STOCK_APPRECIATION_RIGHT_AWARD w_SSAR h0 n0 _ T9.heap _
        rw [q9_0]
        exact ⟨rfl, N9⟩
    ·
      show Go p e below _ (s₁.setTop (mkF m 9 #[.val (.int p0), .val (.int ((p0 &&& (2147483647 : Int32)) % (6 : Int32))), .unset] [(.int ((p0 &&& (2147483647 : Int32)) % (6 : Int32)))]))
      by_cases hs11 : ((p0 &&& (2147483647 : Int32)) % (6 : Int32)) = (2 : Int32)
      ·
        show Go p e below _ (s₁.setTop (mkF m 9 #[.val (.int p0), .val (.int ((p0 &&& (2147483647 : Int32)) % (6 : Int32))), .unset] [(.int ((p0 &&& (2147483647 : Int32)) % (6 : Int32)))]))
        obtain ⟨_, _, ⟨T12, L12, k12, n12⟩, -, X12, ⟨Lc12, hQ12, l12, y12, z12⟩, st12⟩ := Jvm.LawKit.callS X0 hx (y := (⟨"com/example/vestry/vestry/ocf/CompensationTypeExercisablePinLaw", "pick", "(I)Lcom/example/vestry/vestry/ocf/OcfPackage$CompensationType;"⟩ : MethodName)) hown (mvT hZ (hw _ (List.mem_of_getElem? (i := 1) rfl))) (mvT hZ (hw _ (List.mem_of_getElem? (i := 2) rfl))) (mvT hZ (hw _ (List.mem_of_getElem? (i := 3) rfl))) (mvT hZ (hw _ (List.mem_of_getElem? (i := 4) rfl))) (by decide) (backOf (W := 0) (rm1_2 l Z a0 hw [] ((p0 &&& (2147483647 : Int32)) % (6 : Int32)) w_OPTION h0 n0 Z0 hs1 hs6 hs11 S_OPTION) hZ (hw _ (List.mem_of_getElem? (i := 4) rfl)) (hw _ (List.mem_of_getElem? (i := 3) rfl)) (by decide) (by decide)) (g := (mkF m 9 #[.val (.int p0), .val (.int ((p0 &&& (2147483647 : Int32)) % (6 : Int32))), .unset] [(.int ((p0 &&& (2147483647 : Int32)) % (6 : Int32)))])) rfl (by rw [hml]; rfl) (argsL := [(.int ((p0 &&& (2147483647 : Int32)) % (6 : Int32)))]) (rest := []) (lenOf pd_0 rfl) rfl (by show 2 * 0 + _ ≤ _; exact Nat.le_of_eq rfl) (hb hby at_9) (fun _ _ => ⟨rfl, e0, (by decide : 0 + 0 ≤ _), (by decide : 0 + 0 ≤ _)⟩)
        dsimp only [Pt.U, Pt.locs, Pt.cells, Pt.slots] at X12 l12 y12 z12 st12 hQ12
        subst l12 y12 z12
        obtain ⟨rfl, Nq12, q12_0⟩ := hQ12
        have N12 := Fr.app N0 Nq12
        refine Go.of st12 ?_
        show Go p e below _ (T12.setTop (mkF m 12 #[.val (.int p0), .val (.int ((p0 &&& (2147483647 : Int32)) % (6 : Int32))), .unset] [(.ref w_OPTION)]))
        refine Go.of (fun _ k => XS.astoreN X12.here hx rfl (hb hby at_12) rfl rfl (l' := #[.val (.int p0), .val (.int ((p0 &&& (2147483647 : Int32)) % (6 : Int32))), .val (.ref w_OPTION)]) rfl k) ?_
        show Go p e below _ (T12.setTop (mkF m 13 #[.val (.int p0), .val (.int ((p0 &&& (2147483647 : Int32)) % (6 : Int32))), .val (.ref w_OPTION)] []))
        refine Go.of (fun _ k => XS.aloadN X12.here hx rfl (hb hby at_13) rfl rfl k) ?_
        show Go p e below _ (T12.setTop (mkF m 14 #[.val (.int p0), .val (.int ((p0 &&& (2147483647 : Int32)) % (6 : Int32))), .val (.ref w_OPTION)] [(.ref w_OPTION)]))
        obtain ⟨cq13, kq13, q13a, q13b, q13c⟩ := isOf hZ q12_0 E_w_OPTION
        obtain ⟨_, _, ⟨T13, L13, k13, n13⟩, -, X13, ⟨Lc13, hQ13, l13, y13, z13⟩, st13⟩ := X12.virtualBack hx (y := (⟨"com/example/vestry/vestry/ocf/OcfPackage$CompensationType", "exercisable", "()Z"⟩ : MethodName)) (z := (⟨"com/example/vestry/vestry/ocf/OcfPackage$CompensationType", "exercisable", "()Z"⟩ : MethodName)) hown (mvT hZ (hw _ (List.mem_of_getElem? (i := 8) rfl))) (mvT hZ (hw _ (List.mem_of_getElem? (i := 9) rfl))) (notFace_of_selects (args := #[]) (mvT hZ (hw _ (List.mem_of_getElem? (i := 11) rfl)))) (mvT hZ (hw _ (List.mem_of_getElem? (i := 11) rfl))) (mvT hZ (hw _ (List.mem_of_getElem? (i := 10) rfl))) (by decide) (backOf (W := 0) (rm2_yes l Z a0 hw [] w_OPTION w_OPTION_AWARD w_RESTRICTED_STOCK_UNIT_AWARD h0 n0 Z0 F_w_OPTION_kind S_RESTRICTED_STOCK_UNIT_AWARD ne_w_OPTION_AWARD_w_RESTRICTED_STOCK_UNIT_AWARD) hZ (hw _ (List.mem_of_getElem? (i := 12) rfl)) (hw _ (List.mem_of_getElem? (i := 6) rfl)) (by decide) (by decide)) q13a q13c (g := (mkF m 14 #[.val (.int p0), .val (.int ((p0 &&& (2147483647 : Int32)) % (6 : Int32))), .val (.ref w_OPTION)] [(.ref w_OPTION)])) rfl (by rw [hml]; rfl) (Steps.refl _) (argsL := []) (rest := []) (lenOf pd_1 rfl) rfl (by show 2 * 0 + _ ≤ _; exact Nat.le_of_eq rfl) (hb hby at_14) (fun _ _ => ⟨rfl, q12_0, (by decide : 0 + 0 ≤ _), (by decide : 0 + 0 ≤ _)⟩)
        dsimp only [Pt.U, Pt.locs, Pt.cells, Pt.slots] at X13 l13 y13 z13 st13 hQ13
        subst l13 y13 z13
        obtain ⟨rfl, Nq13, q13_0⟩ := hQ13
        have N13 := Fr.app N12 Nq13
        refine Go.tr st13 ?_
        show Go p e below _ (T13.setTop (mkF m 17 #[.val (.int p0), .val (.int ((p0 &&& (2147483647 : Int32)) % (6 : Int32))), .val (.ref w_OPTION)] [(.int (1 : Int32))]))
        refine Go.of (fun _ k => XS.iloadN X13.here hx rfl (hb hby at_17) rfl  k) ?_
        show Go p e below _ (T13.setTop (mkF m 18 #[.val (.int p0), .val (.int ((p0 &&& (2147483647 : Int32)) % (6 : Int32))), .val (.ref w_OPTION)] [(.int ((p0 &&& (2147483647 : Int32)) % (6 : Int32))), (.int (1 : Int32))]))
        obtain ⟨_, _, ⟨T14, L14, k14, n14⟩, -, X14, ⟨Lc14, hQ14, l14, y14, z14⟩, st14⟩ := Jvm.LawKit.callS X13 hx (y := (⟨"com/example/vestry/vestry/ocf/CompensationTypeExercisablePinLaw", "expected", "(I)Z"⟩ : MethodName)) hown (mvT hZ (hw _ (List.mem_of_getElem? (i := 19) rfl))) (mvT hZ (hw _ (List.mem_of_getElem? (i := 20) rfl))) (mvT hZ (hw _ (List.mem_of_getElem? (i := 3) rfl))) (mvT hZ (hw _ (List.mem_of_getElem? (i := 21) rfl))) (by decide) (backOf (W := 1) (rm3_o l Z a0 hw [] ((p0 &&& (2147483647 : Int32)) % (6 : Int32)) h0 n0 Z0 (by rw [hs11]; decide : ¬ (((p0 &&& (2147483647 : Int32)) % (6 : Int32)) = (3 : Int32)))) hZ (hw _ (List.mem_of_getElem? (i := 21) rfl)) (hw _ (List.mem_of_getElem? (i := 3) rfl)) (by decide) (by decide)) (g := (mkF m 18 #[.val (.int p0), .val (.int ((p0 &&& (2147483647 : Int32)) % (6 : Int32))), .val (.ref w_OPTION)] [(.int ((p0 &&& (2147483647 : Int32)) % (6 : Int32))), (.int (1 : Int32))])) rfl (by rw [hml]; rfl) (argsL := [(.int ((p0 &&& (2147483647 : Int32)) % (6 : Int32)))]) (rest := [(.int (1 : Int32))]) (lenOf pd_2 rfl) rfl (by show 2 * 0 + _ ≤ _; exact Nat.le_of_eq rfl) (hb hby at_18) (fun _ _ => ⟨rfl, q13_0, (by decide : 0 + 0 ≤ _), (by decide : 0 + 0 ≤ _)⟩)
        dsimp only [Pt.U, Pt.locs, Pt.cells, Pt.slots] at X14 l14 y14 z14 st14 hQ14
        subst l14 y14 z14
        obtain ⟨rfl, Nq14, q14_0⟩ := hQ14
        have N14 := Fr.app N13 Nq14
        refine Go.of st14 ?_
        show Go p e below _ (T14.setTop (mkF m 21 #[.val (.int p0), .val (.int ((p0 &&& (2147483647 : Int32)) % (6 : Int32))), .val (.ref w_OPTION)] [(.int (1 : Int32)), (.int (1 : Int32))]))
        refine Go.of (fun _ k => XS.icmpNo X14.here hx rfl (hb hby at_21) rfl (teq (by decide : (1 : Int32) = (1 : Int32))).2 k) ?_
        show Go p e below _ (T14.setTop (mkF m 24 #[.val (.int p0), .val (.int ((p0 &&& (2147483647 : Int32)) % (6 : Int32))), .val (.ref w_OPTION)] []))
        refine Go.of (fun _ k => XS.iconst X14.here hx rfl (hb hby at_24) k) ?_
        show Go p e below _ (T14.setTop (mkF m 25 #[.val (.int p0), .val (.int ((p0 &&& (2147483647 : Int32)) % (6 : Int32))), .val (.ref w_OPTION)] [(.int (1 : Int32))]))
        refine Go.of (fun _ k => XS.goto X14.here hx rfl (pc0 := 25) (pc' := 29) rfl (hb hby at_25) (by decide) (by decide) k) ?_
        show Go p e below _ (T14.setTop (mkF m 29 #[.val (.int p0), .val (.int ((p0 &&& (2147483647 : Int32)) % (6 : Int32))), .val (.ref w_OPTION)] [(.int (1 : Int32))]))
        obtain ⟨fs, hr, hrun, hended, hW, hsame⟩ := X14.leave (v := some (.int (1 : Int32))) (fun h => by rw [Bd.returns] at h; cases h)
        refine Go.mk _ _ ?_ hrun hended ⟨_, _, rfl, ?_, ⟨_, rfl⟩, hW, hsame.mono (by decide) (by decide)⟩
        · exact retN X14 hx (t := .boolean) Bd.returns (by simp) (hb hby at_29) hr
        · show Q0 Z p0 w_OPTION_NSO w_OPTION_AWARD w_RESTRICTED_STOCK_UNIT_AWARD w_OPTION_ISO w_OPTION w_RSU w_CSAR w_STOCK_APPRECIATION_RIGHT_AWARD w_SSAR h0 n0 _ T14.heap _
          rw [q14_0]
          exact ⟨rfl, N14⟩
      ·
        show Go p e below _ (s₁.setTop (mkF m 9 #[.val (.int p0), .val (.int ((p0 &&& (2147483647 : Int32)) % (6 : Int32))), .unset] [(.int ((p0 &&& (2147483647 : Int32)) % (6 : Int32)))]))
        by_cases hs16 : ((p0 &&& (2147483647 : Int32)) % (6 : Int32)) = (3 : Int32)
        ·
          show Go p e below _ (s₁.setTop (mkF m 9 #[.val (.int p0), .val (.int ((p0 &&& (2147483647 : Int32)) % (6 : Int32))), .unset] [(.int ((p0 &&& (2147483647 : Int32)) % (6 : Int32)))]))
          obtain ⟨_, _, ⟨T17, L17, k17, n17⟩, -, X17, ⟨Lc17, hQ17, l17, y17, z17⟩, st17⟩ := Jvm.LawKit.callS X0 hx (y := (⟨"com/example/vestry/vestry/ocf/CompensationTypeExercisablePinLaw", "pick", "(I)Lcom/example/vestry/vestry/ocf/OcfPackage$CompensationType;"⟩ : MethodName)) hown (mvT hZ (hw _ (List.mem_of_getElem? (i := 1) rfl))) (mvT hZ (hw _ (List.mem_of_getElem? (i := 2) rfl))) (mvT hZ (hw _ (List.mem_of_getElem? (i := 3) rfl))) (mvT hZ (hw _ (List.mem_of_getElem? (i := 4) rfl))) (by decide) (backOf (W := 0) (rm1_3 l Z a0 hw [] ((p0 &&& (2147483647 : Int32)) % (6 : Int32)) w_RSU h0 n0 Z0 hs1 hs6 hs11 hs16 S_RSU) hZ (hw _ (List.mem_of_getElem? (i := 4) rfl)) (hw _ (List.mem_of_getElem? (i := 3) rfl)) (by decide) (by decide)) (g := (mkF m 9 #[.val (.int p0), .val (.int ((p0 &&& (2147483647 : Int32)) % (6 : Int32))), .unset] [(.int ((p0 &&& (2147483647 : Int32)) % (6 : Int32)))])) rfl (by rw [hml]; rfl) (argsL := [(.int ((p0 &&& (2147483647 : Int32)) % (6 : Int32)))]) (rest := []) (lenOf pd_0 rfl) rfl (by show 2 * 0 + _ ≤ _; exact Nat.le_of_eq rfl) (hb hby at_9) (fun _ _ => ⟨rfl, e0, (by decide : 0 + 0 ≤ _), (by decide : 0 + 0 ≤ _)⟩)
          dsimp only [Pt.U, Pt.locs, Pt.cells, Pt.slots] at X17 l17 y17 z17 st17 hQ17
          subst l17 y17 z17
          obtain ⟨rfl, Nq17, q17_0⟩ := hQ17
          have N17 := Fr.app N0 Nq17
          refine Go.of st17 ?_
          show Go p e below _ (T17.setTop (mkF m 12 #[.val (.int p0), .val (.int ((p0 &&& (2147483647 : Int32)) % (6 : Int32))), .unset] [(.ref w_RSU)]))
          refine Go.of (fun _ k => XS.astoreN X17.here hx rfl (hb hby at_12) rfl rfl (l' := #[.val (.int p0), .val (.int ((p0 &&& (2147483647 : Int32)) % (6 : Int32))), .val (.ref w_RSU)]) rfl k) ?_
          show Go p e below _ (T17.setTop (mkF m 13 #[.val (.int p0), .val (.int ((p0 &&& (2147483647 : Int32)) % (6 : Int32))), .val (.ref w_RSU)] []))
          refine Go.of (fun _ k => XS.aloadN X17.here hx rfl (hb hby at_13) rfl rfl k) ?_
          show Go p e below _ (T17.setTop (mkF m 14 #[.val (.int p0), .val (.int ((p0 &&& (2147483647 : Int32)) % (6 : Int32))), .val (.ref w_RSU)] [(.ref w_RSU)]))
          obtain ⟨cq18, kq18, q18a, q18b, q18c⟩ := isOf hZ q17_0 E_w_RSU
          obtain ⟨_, _, ⟨T18, L18, k18, n18⟩, -, X18, ⟨Lc18, hQ18, l18, y18, z18⟩, st18⟩ := X17.virtualBack hx (y := (⟨"com/example/vestry/vestry/ocf/OcfPackage$CompensationType", "exercisable", "()Z"⟩ : MethodName)) (z := (⟨"com/example/vestry/vestry/ocf/OcfPackage$CompensationType", "exercisable", "()Z"⟩ : MethodName)) hown (mvT hZ (hw _ (List.mem_of_getElem? (i := 8) rfl))) (mvT hZ (hw _ (List.mem_of_getElem? (i := 9) rfl))) (notFace_of_selects (args := #[]) (mvT hZ (hw _ (List.mem_of_getElem? (i := 11) rfl)))) (mvT hZ (hw _ (List.mem_of_getElem? (i := 11) rfl))) (mvT hZ (hw _ (List.mem_of_getElem? (i := 10) rfl))) (by decide) (backOf (W := 0) (rm2_no l Z a0 hw [] w_RSU w_RESTRICTED_STOCK_UNIT_AWARD w_RESTRICTED_STOCK_UNIT_AWARD h0 n0 Z0 F_w_RSU_kind S_RESTRICTED_STOCK_UNIT_AWARD (rfl : w_RESTRICTED_STOCK_UNIT_AWARD = w_RESTRICTED_STOCK_UNIT_AWARD)) hZ (hw _ (List.mem_of_getElem? (i := 12) rfl)) (hw _ (List.mem_of_getElem? (i := 6) rfl)) (by decide) (by decide)) q18a q18c (g := (mkF m 14 #[.val (.int p0), .val (.int ((p0 &&& (2147483647 : Int32)) % (6 : Int32))), .val (.ref w_RSU)] [(.ref w_RSU)])) rfl (by rw [hml]; rfl) (Steps.refl _) (argsL := []) (rest := []) (lenOf pd_1 rfl) rfl (by show 2 * 0 + _ ≤ _; exact Nat.le_of_eq rfl) (hb hby at_14) (fun _ _ => ⟨rfl, q17_0, (by decide : 0 + 0 ≤ _), (by decide : 0 + 0 ≤ _)⟩)
          dsimp only [Pt.U, Pt.locs, Pt.cells, Pt.slots] at X18 l18 y18 z18 st18 hQ18
          subst l18 y18 z18
          obtain ⟨rfl, Nq18, q18_0⟩ := hQ18
          have N18 := Fr.app N17 Nq18
          refine Go.tr st18 ?_
          show Go p e below _ (T18.setTop (mkF m 17 #[.val (.int p0), .val (.int ((p0 &&& (2147483647 : Int32)) % (6 : Int32))), .val (.ref w_RSU)] [(.int (0 : Int32))]))
          refine Go.of (fun _ k => XS.iloadN X18.here hx rfl (hb hby at_17) rfl  k) ?_
          show Go p e below _ (T18.setTop (mkF m 18 #[.val (.int p0), .val (.int ((p0 &&& (2147483647 : Int32)) % (6 : Int32))), .val (.ref w_RSU)] [(.int ((p0 &&& (2147483647 : Int32)) % (6 : Int32))), (.int (0 : Int32))]))
          obtain ⟨_, _, ⟨T19, L19, k19, n19⟩, -, X19, ⟨Lc19, hQ19, l19, y19, z19⟩, st19⟩ := Jvm.LawKit.callS X18 hx (y := (⟨"com/example/vestry/vestry/ocf/CompensationTypeExercisablePinLaw", "expected", "(I)Z"⟩ : MethodName)) hown (mvT hZ (hw _ (List.mem_of_getElem? (i := 19) rfl))) (mvT hZ (hw _ (List.mem_of_getElem? (i := 20) rfl))) (mvT hZ (hw _ (List.mem_of_getElem? (i := 3) rfl))) (mvT hZ (hw _ (List.mem_of_getElem? (i := 21) rfl))) (by decide) (backOf (W := 1) (rm3_3 l Z a0 hw [] ((p0 &&& (2147483647 : Int32)) % (6 : Int32)) h0 n0 Z0 hs16) hZ (hw _ (List.mem_of_getElem? (i := 21) rfl)) (hw _ (List.mem_of_getElem? (i := 3) rfl)) (by decide) (by decide)) (g := (mkF m 18 #[.val (.int p0), .val (.int ((p0 &&& (2147483647 : Int32)) % (6 : Int32))), .val (.ref w_RSU)] [(.int ((p0 &&& (2147483647 : Int32)) % (6 : Int32))), (.int (0 : Int32))])) rfl (by rw [hml]; rfl) (argsL := [(.int ((p0 &&& (2147483647 : Int32)) % (6 : Int32)))]) (rest := [(.int (0 : Int32))]) (lenOf pd_2 rfl) rfl (by show 2 * 0 + _ ≤ _; exact Nat.le_of_eq rfl) (hb hby at_18) (fun _ _ => ⟨rfl, q18_0, (by decide : 0 + 0 ≤ _), (by decide : 0 + 0 ≤ _)⟩)
          dsimp only [Pt.U, Pt.locs, Pt.cells, Pt.slots] at X19 l19 y19 z19 st19 hQ19
          subst l19 y19 z19
          obtain ⟨rfl, Nq19, q19_0⟩ := hQ19
          have N19 := Fr.app N18 Nq19
          refine Go.of st19 ?_
          show Go p e below _ (T19.setTop (mkF m 21 #[.val (.int p0), .val (.int ((p0 &&& (2147483647 : Int32)) % (6 : Int32))), .val (.ref w_RSU)] [(.int (0 : Int32)), (.int (0 : Int32))]))
          refine Go.of (fun _ k => XS.icmpNo X19.here hx rfl (hb hby at_21) rfl (teq (by decide : (0 : Int32) = (0 : Int32))).2 k) ?_
          show Go p e below _ (T19.setTop (mkF m 24 #[.val (.int p0), .val (.int ((p0 &&& (2147483647 : Int32)) % (6 : Int32))), .val (.ref w_RSU)] []))
          refine Go.of (fun _ k => XS.iconst X19.here hx rfl (hb hby at_24) k) ?_
          show Go p e below _ (T19.setTop (mkF m 25 #[.val (.int p0), .val (.int ((p0 &&& (2147483647 : Int32)) % (6 : Int32))), .val (.ref w_RSU)] [(.int (1 : Int32))]))
          refine Go.of (fun _ k => XS.goto X19.here hx rfl (pc0 := 25) (pc' := 29) rfl (hb hby at_25) (by decide) (by decide) k) ?_
          show Go p e below _ (T19.setTop (mkF m 29 #[.val (.int p0), .val (.int ((p0 &&& (2147483647 : Int32)) % (6 : Int32))), .val (.ref w_RSU)] [(.int (1 : Int32))]))
          obtain ⟨fs, hr, hrun, hended, hW, hsame⟩ := X19.leave (v := some (.int (1 : Int32))) (fun h => by rw [Bd.returns] at h; cases h)
          refine Go.mk _ _ ?_ hrun hended ⟨_, _, rfl, ?_, ⟨_, rfl⟩, hW, hsame.mono (by decide) (by decide)⟩
          · exact retN X19 hx (t := .boolean) Bd.returns (by simp) (hb hby at_29) hr
          · show Q0 Z p0 w_OPTION_NSO w_OPTION_AWARD w_RESTRICTED_STOCK_UNIT_AWARD w_OPTION_ISO w_OPTION w_RSU w_CSAR w_STOCK_APPRECIATION_RIGHT_AWARD w_SSAR h0 n0 _ T19.heap _
            rw [q19_0]
            exact ⟨rfl, N19⟩
        ·
          show Go p e below _ (s₁.setTop (mkF m 9 #[.val (.int p0), .val (.int ((p0 &&& (2147483647 : Int32)) % (6 : Int32))), .unset] [(.int ((p0 &&& (2147483647 : Int32)) % (6 : Int32)))]))
          by_cases hs21 : ((p0 &&& (2147483647 : Int32)) % (6 : Int32)) = (4 : Int32)
          ·
            show Go p e below _ (s₁.setTop (mkF m 9 #[.val (.int p0), .val (.int ((p0 &&& (2147483647 : Int32)) % (6 : Int32))), .unset] [(.int ((p0 &&& (2147483647 : Int32)) % (6 : Int32)))]))
            obtain ⟨_, _, ⟨T22, L22, k22, n22⟩, -, X22, ⟨Lc22, hQ22, l22, y22, z22⟩, st22⟩ := Jvm.LawKit.callS X0 hx (y := (⟨"com/example/vestry/vestry/ocf/CompensationTypeExercisablePinLaw", "pick", "(I)Lcom/example/vestry/vestry/ocf/OcfPackage$CompensationType;"⟩ : MethodName)) hown (mvT hZ (hw _ (List.mem_of_getElem? (i := 1) rfl))) (mvT hZ (hw _ (List.mem_of_getElem? (i := 2) rfl))) (mvT hZ (hw _ (List.mem_of_getElem? (i := 3) rfl))) (mvT hZ (hw _ (List.mem_of_getElem? (i := 4) rfl))) (by decide) (backOf (W := 0) (rm1_4 l Z a0 hw [] ((p0 &&& (2147483647 : Int32)) % (6 : Int32)) w_CSAR h0 n0 Z0 hs1 hs6 hs11 hs16 hs21 S_CSAR) hZ (hw _ (List.mem_of_getElem? (i := 4) rfl)) (hw _ (List.mem_of_getElem? (i := 3) rfl)) (by decide) (by decide)) (g := (mkF m 9 #[.val (.int p0), .val (.int ((p0 &&& (2147483647 : Int32)) % (6 : Int32))), .unset] [(.int ((p0 &&& (2147483647 : Int32)) % (6 : Int32)))])) rfl (by rw [hml]; rfl) (argsL := [(.int ((p0 &&& (2147483647 : Int32)) % (6 : Int32)))]) (rest := []) (lenOf pd_0 rfl) rfl (by show 2 * 0 + _ ≤ _; exact Nat.le_of_eq rfl) (hb hby at_9) (fun _ _ => ⟨rfl, e0, (by decide : 0 + 0 ≤ _), (by decide : 0 + 0 ≤ _)⟩)
            dsimp only [Pt.U, Pt.locs, Pt.cells, Pt.slots] at X22 l22 y22 z22 st22 hQ22
            subst l22 y22 z22
            obtain ⟨rfl, Nq22, q22_0⟩ := hQ22
            have N22 := Fr.app N0 Nq22
            refine Go.of st22 ?_
            show Go p e below _ (T22.setTop (mkF m 12 #[.val (.int p0), .val (.int ((p0 &&& (2147483647 : Int32)) % (6 : Int32))), .unset] [(.ref w_CSAR)]))
            refine Go.of (fun _ k => XS.astoreN X22.here hx rfl (hb hby at_12) rfl rfl (l' := #[.val (.int p0), .val (.int ((p0 &&& (2147483647 : Int32)) % (6 : Int32))), .val (.ref w_CSAR)]) rfl k) ?_
            show Go p e below _ (T22.setTop (mkF m 13 #[.val (.int p0), .val (.int ((p0 &&& (2147483647 : Int32)) % (6 : Int32))), .val (.ref w_CSAR)] []))
            refine Go.of (fun _ k => XS.aloadN X22.here hx rfl (hb hby at_13) rfl rfl k) ?_
            show Go p e below _ (T22.setTop (mkF m 14 #[.val (.int p0), .val (.int ((p0 &&& (2147483647 : Int32)) % (6 : Int32))), .val (.ref w_CSAR)] [(.ref w_CSAR)]))
            obtain ⟨cq23, kq23, q23a, q23b, q23c⟩ := isOf hZ q22_0 E_w_CSAR
            obtain ⟨_, _, ⟨T23, L23, k23, n23⟩, -, X23, ⟨Lc23, hQ23, l23, y23, z23⟩, st23⟩ := X22.virtualBack hx (y := (⟨"com/example/vestry/vestry/ocf/OcfPackage$CompensationType", "exercisable", "()Z"⟩ : MethodName)) (z := (⟨"com/example/vestry/vestry/ocf/OcfPackage$CompensationType", "exercisable", "()Z"⟩ : MethodName)) hown (mvT hZ (hw _ (List.mem_of_getElem? (i := 8) rfl))) (mvT hZ (hw _ (List.mem_of_getElem? (i := 9) rfl))) (notFace_of_selects (args := #[]) (mvT hZ (hw _ (List.mem_of_getElem? (i := 11) rfl)))) (mvT hZ (hw _ (List.mem_of_getElem? (i := 11) rfl))) (mvT hZ (hw _ (List.mem_of_getElem? (i := 10) rfl))) (by decide) (backOf (W := 0) (rm2_yes l Z a0 hw [] w_CSAR w_STOCK_APPRECIATION_RIGHT_AWARD w_RESTRICTED_STOCK_UNIT_AWARD h0 n0 Z0 F_w_CSAR_kind S_RESTRICTED_STOCK_UNIT_AWARD (Ne.symm ne_w_RESTRICTED_STOCK_UNIT_AWARD_w_STOCK_APPRECIATION_RIGHT_AWARD)) hZ (hw _ (List.mem_of_getElem? (i := 12) rfl)) (hw _ (List.mem_of_getElem? (i := 6) rfl)) (by decide) (by decide)) q23a q23c (g := (mkF m 14 #[.val (.int p0), .val (.int ((p0 &&& (2147483647 : Int32)) % (6 : Int32))), .val (.ref w_CSAR)] [(.ref w_CSAR)])) rfl (by rw [hml]; rfl) (Steps.refl _) (argsL := []) (rest := []) (lenOf pd_1 rfl) rfl (by show 2 * 0 + _ ≤ _; exact Nat.le_of_eq rfl) (hb hby at_14) (fun _ _ => ⟨rfl, q22_0, (by decide : 0 + 0 ≤ _), (by decide : 0 + 0 ≤ _)⟩)
            dsimp only [Pt.U, Pt.locs, Pt.cells, Pt.slots] at X23 l23 y23 z23 st23 hQ23
            subst l23 y23 z23
            obtain ⟨rfl, Nq23, q23_0⟩ := hQ23
            have N23 := Fr.app N22 Nq23
            refine Go.tr st23 ?_
            show Go p e below _ (T23.setTop (mkF m 17 #[.val (.int p0), .val (.int ((p0 &&& (2147483647 : Int32)) % (6 : Int32))), .val (.ref w_CSAR)] [(.int (1 : Int32))]))
            refine Go.of (fun _ k => XS.iloadN X23.here hx rfl (hb hby at_17) rfl  k) ?_
            show Go p e below _ (T23.setTop (mkF m 18 #[.val (.int p0), .val (.int ((p0 &&& (2147483647 : Int32)) % (6 : Int32))), .val (.ref w_CSAR)] [(.int ((p0 &&& (2147483647 : Int32)) % (6 : Int32))), (.int (1 : Int32))]))
            obtain ⟨_, _, ⟨T24, L24, k24, n24⟩, -, X24, ⟨Lc24, hQ24, l24, y24, z24⟩, st24⟩ := Jvm.LawKit.callS X23 hx (y := (⟨"com/example/vestry/vestry/ocf/CompensationTypeExercisablePinLaw", "expected", "(I)Z"⟩ : MethodName)) hown (mvT hZ (hw _ (List.mem_of_getElem? (i := 19) rfl))) (mvT hZ (hw _ (List.mem_of_getElem? (i := 20) rfl))) (mvT hZ (hw _ (List.mem_of_getElem? (i := 3) rfl))) (mvT hZ (hw _ (List.mem_of_getElem? (i := 21) rfl))) (by decide) (backOf (W := 1) (rm3_o l Z a0 hw [] ((p0 &&& (2147483647 : Int32)) % (6 : Int32)) h0 n0 Z0 hs16) hZ (hw _ (List.mem_of_getElem? (i := 21) rfl)) (hw _ (List.mem_of_getElem? (i := 3) rfl)) (by decide) (by decide)) (g := (mkF m 18 #[.val (.int p0), .val (.int ((p0 &&& (2147483647 : Int32)) % (6 : Int32))), .val (.ref w_CSAR)] [(.int ((p0 &&& (2147483647 : Int32)) % (6 : Int32))), (.int (1 : Int32))])) rfl (by rw [hml]; rfl) (argsL := [(.int ((p0 &&& (2147483647 : Int32)) % (6 : Int32)))]) (rest := [(.int (1 : Int32))]) (lenOf pd_2 rfl) rfl (by show 2 * 0 + _ ≤ _; exact Nat.le_of_eq rfl) (hb hby at_18) (fun _ _ => ⟨rfl, q23_0, (by decide : 0 + 0 ≤ _), (by decide : 0 + 0 ≤ _)⟩)
            dsimp only [Pt.U, Pt.locs, Pt.cells, Pt.slots] at X24 l24 y24 z24 st24 hQ24
            subst l24 y24 z24
            obtain ⟨rfl, Nq24, q24_0⟩ := hQ24
            have N24 := Fr.app N23 Nq24
            refine Go.of st24 ?_
            show Go p e below _ (T24.setTop (mkF m 21 #[.val (.int p0), .val (.int ((p0 &&& (2147483647 : Int32)) % (6 : Int32))), .val (.ref w_CSAR)] [(.int (1 : Int32)), (.int (1 : Int32))]))
            refine Go.of (fun _ k => XS.icmpNo X24.here hx rfl (hb hby at_21) rfl (teq (by decide : (1 : Int32) = (1 : Int32))).2 k) ?_
            show Go p e below _ (T24.setTop (mkF m 24 #[.val (.int p0), .val (.int ((p0 &&& (2147483647 : Int32)) % (6 : Int32))), .val (.ref w_CSAR)] []))
            refine Go.of (fun _ k => XS.iconst X24.here hx rfl (hb hby at_24) k) ?_
            show Go p e below _ (T24.setTop (mkF m 25 #[.val (.int p0), .val (.int ((p0 &&& (2147483647 : Int32)) % (6 : Int32))), .val (.ref w_CSAR)] [(.int (1 : Int32))]))
            refine Go.of (fun _ k => XS.goto X24.here hx rfl (pc0 := 25) (pc' := 29) rfl (hb hby at_25) (by decide) (by decide) k) ?_
            show Go p e below _ (T24.setTop (mkF m 29 #[.val (.int p0), .val (.int ((p0 &&& (2147483647 : Int32)) % (6 : Int32))), .val (.ref w_CSAR)] [(.int (1 : Int32))]))
            obtain ⟨fs, hr, hrun, hended, hW, hsame⟩ := X24.leave (v := some (.int (1 : Int32))) (fun h => by rw [Bd.returns] at h; cases h)
            refine Go.mk _ _ ?_ hrun hended ⟨_, _, rfl, ?_, ⟨_, rfl⟩, hW, hsame.mono (by decide) (by decide)⟩
            · exact retN X24 hx (t := .boolean) Bd.returns (by simp) (hb hby at_29) hr
            · show Q0 Z p0 w_OPTION_NSO w_OPTION_AWARD w_RESTRICTED_STOCK_UNIT_AWARD w_OPTION_ISO w_OPTION w_RSU w_CSAR w_STOCK_APPRECIATION_RIGHT_AWARD w_SSAR h0 n0 _ T24.heap _
              rw [q24_0]
              exact ⟨rfl, N24⟩
          ·
            show Go p e below _ (s₁.setTop (mkF m 9 #[.val (.int p0), .val (.int ((p0 &&& (2147483647 : Int32)) % (6 : Int32))), .unset] [(.int ((p0 &&& (2147483647 : Int32)) % (6 : Int32)))]))
            obtain ⟨_, _, ⟨T26, L26, k26, n26⟩, -, X26, ⟨Lc26, hQ26, l26, y26, z26⟩, st26⟩ := Jvm.LawKit.callS X0 hx (y := (⟨"com/example/vestry/vestry/ocf/CompensationTypeExercisablePinLaw", "pick", "(I)Lcom/example/vestry/vestry/ocf/OcfPackage$CompensationType;"⟩ : MethodName)) hown (mvT hZ (hw _ (List.mem_of_getElem? (i := 1) rfl))) (mvT hZ (hw _ (List.mem_of_getElem? (i := 2) rfl))) (mvT hZ (hw _ (List.mem_of_getElem? (i := 3) rfl))) (mvT hZ (hw _ (List.mem_of_getElem? (i := 4) rfl))) (by decide) (backOf (W := 0) (rm1_5 l Z a0 hw [] ((p0 &&& (2147483647 : Int32)) % (6 : Int32)) w_SSAR h0 n0 Z0 hs1 hs6 hs11 hs16 hs21 S_SSAR) hZ (hw _ (List.mem_of_getElem? (i := 4) rfl)) (hw _ (List.mem_of_getElem? (i := 3) rfl)) (by decide) (by decide)) (g := (mkF m 9 #[.val (.int p0), .val (.int ((p0 &&& (2147483647 : Int32)) % (6 : Int32))), .unset] [(.int ((p0 &&& (2147483647 : Int32)) % (6 : Int32)))])) rfl (by rw [hml]; rfl) (argsL := [(.int ((p0 &&& (2147483647 : Int32)) % (6 : Int32)))]) (rest := []) (lenOf pd_0 rfl) rfl (by show 2 * 0 + _ ≤ _; exact Nat.le_of_eq rfl) (hb hby at_9) (fun _ _ => ⟨rfl, e0, (by decide : 0 + 0 ≤ _), (by decide : 0 + 0 ≤ _)⟩)
            dsimp only [Pt.U, Pt.locs, Pt.cells, Pt.slots] at X26 l26 y26 z26 st26 hQ26
            subst l26 y26 z26
            obtain ⟨rfl, Nq26, q26_0⟩ := hQ26
            have N26 := Fr.app N0 Nq26
            refine Go.of st26 ?_
            show Go p e below _ (T26.setTop (mkF m 12 #[.val (.int p0), .val (.int ((p0 &&& (2147483647 : Int32)) % (6 : Int32))), .unset] [(.ref w_SSAR)]))
            refine Go.of (fun _ k => XS.astoreN X26.here hx rfl (hb hby at_12) rfl rfl (l' := #[.val (.int p0), .val (.int ((p0 &&& (2147483647 : Int32)) % (6 : Int32))), .val (.ref w_SSAR)]) rfl k) ?_
            show Go p e below _ (T26.setTop (mkF m 13 #[.val (.int p0), .val (.int ((p0 &&& (2147483647 : Int32)) % (6 : Int32))), .val (.ref w_SSAR)] []))
            refine Go.of (fun _ k => XS.aloadN X26.here hx rfl (hb hby at_13) rfl rfl k) ?_
            show Go p e below _ (T26.setTop (mkF m 14 #[.val (.int p0), .val (.int ((p0 &&& (2147483647 : Int32)) % (6 : Int32))), .val (.ref w_SSAR)] [(.ref w_SSAR)]))
            obtain ⟨cq27, kq27, q27a, q27b, q27c⟩ := isOf hZ q26_0 E_w_SSAR
            obtain ⟨_, _, ⟨T27, L27, k27, n27⟩, -, X27, ⟨Lc27, hQ27, l27, y27, z27⟩, st27⟩ := X26.virtualBack hx (y := (⟨"com/example/vestry/vestry/ocf/OcfPackage$CompensationType", "exercisable", "()Z"⟩ : MethodName)) (z := (⟨"com/example/vestry/vestry/ocf/OcfPackage$CompensationType", "exercisable", "()Z"⟩ : MethodName)) hown (mvT hZ (hw _ (List.mem_of_getElem? (i := 8) rfl))) (mvT hZ (hw _ (List.mem_of_getElem? (i := 9) rfl))) (notFace_of_selects (args := #[]) (mvT hZ (hw _ (List.mem_of_getElem? (i := 11) rfl)))) (mvT hZ (hw _ (List.mem_of_getElem? (i := 11) rfl))) (mvT hZ (hw _ (List.mem_of_getElem? (i := 10) rfl))) (by decide) (backOf (W := 0) (rm2_yes l Z a0 hw [] w_SSAR w_STOCK_APPRECIATION_RIGHT_AWARD w_RESTRICTED_STOCK_UNIT_AWARD h0 n0 Z0 F_w_SSAR_kind S_RESTRICTED_STOCK_UNIT_AWARD (Ne.symm ne_w_RESTRICTED_STOCK_UNIT_AWARD_w_STOCK_APPRECIATION_RIGHT_AWARD)) hZ (hw _ (List.mem_of_getElem? (i := 12) rfl)) (hw _ (List.mem_of_getElem? (i := 6) rfl)) (by decide) (by decide)) q27a q27c (g := (mkF m 14 #[.val (.int p0), .val (.int ((p0 &&& (2147483647 : Int32)) % (6 : Int32))), .val (.ref w_SSAR)] [(.ref w_SSAR)])) rfl (by rw [hml]; rfl) (Steps.refl _) (argsL := []) (rest := []) (lenOf pd_1 rfl) rfl (by show 2 * 0 + _ ≤ _; exact Nat.le_of_eq rfl) (hb hby at_14) (fun _ _ => ⟨rfl, q26_0, (by decide : 0 + 0 ≤ _), (by decide : 0 + 0 ≤ _)⟩)
            dsimp only [Pt.U, Pt.locs, Pt.cells, Pt.slots] at X27 l27 y27 z27 st27 hQ27
            subst l27 y27 z27
            obtain ⟨rfl, Nq27, q27_0⟩ := hQ27
            have N27 := Fr.app N26 Nq27
            refine Go.tr st27 ?_
            show Go p e below _ (T27.setTop (mkF m 17 #[.val (.int p0), .val (.int ((p0 &&& (2147483647 : Int32)) % (6 : Int32))), .val (.ref w_SSAR)] [(.int (1 : Int32))]))
            refine Go.of (fun _ k => XS.iloadN X27.here hx rfl (hb hby at_17) rfl  k) ?_
            show Go p e below _ (T27.setTop (mkF m 18 #[.val (.int p0), .val (.int ((p0 &&& (2147483647 : Int32)) % (6 : Int32))), .val (.ref w_SSAR)] [(.int ((p0 &&& (2147483647 : Int32)) % (6 : Int32))), (.int (1 : Int32))]))
            obtain ⟨_, _, ⟨T28, L28, k28, n28⟩, -, X28, ⟨Lc28, hQ28, l28, y28, z28⟩, st28⟩ := Jvm.LawKit.callS X27 hx (y := (⟨"com/example/vestry/vestry/ocf/CompensationTypeExercisablePinLaw", "expected", "(I)Z"⟩ : MethodName)) hown (mvT hZ (hw _ (List.mem_of_getElem? (i := 19) rfl))) (mvT hZ (hw _ (List.mem_of_getElem? (i := 20) rfl))) (mvT hZ (hw _ (List.mem_of_getElem? (i := 3) rfl))) (mvT hZ (hw _ (List.mem_of_getElem? (i := 21) rfl))) (by decide) (backOf (W := 1) (rm3_o l Z a0 hw [] ((p0 &&& (2147483647 : Int32)) % (6 : Int32)) h0 n0 Z0 hs16) hZ (hw _ (List.mem_of_getElem? (i := 21) rfl)) (hw _ (List.mem_of_getElem? (i := 3) rfl)) (by decide) (by decide)) (g := (mkF m 18 #[.val (.int p0), .val (.int ((p0 &&& (2147483647 : Int32)) % (6 : Int32))), .val (.ref w_SSAR)] [(.int ((p0 &&& (2147483647 : Int32)) % (6 : Int32))), (.int (1 : Int32))])) rfl (by rw [hml]; rfl) (argsL := [(.int ((p0 &&& (2147483647 : Int32)) % (6 : Int32)))]) (rest := [(.int (1 : Int32))]) (lenOf pd_2 rfl) rfl (by show 2 * 0 + _ ≤ _; exact Nat.le_of_eq rfl) (hb hby at_18) (fun _ _ => ⟨rfl, q27_0, (by decide : 0 + 0 ≤ _), (by decide : 0 + 0 ≤ _)⟩)
            dsimp only [Pt.U, Pt.locs, Pt.cells, Pt.slots] at X28 l28 y28 z28 st28 hQ28
            subst l28 y28 z28
            obtain ⟨rfl, Nq28, q28_0⟩ := hQ28
            have N28 := Fr.app N27 Nq28
            refine Go.of st28 ?_
            show Go p e below _ (T28.setTop (mkF m 21 #[.val (.int p0), .val (.int ((p0 &&& (2147483647 : Int32)) % (6 : Int32))), .val (.ref w_SSAR)] [(.int (1 : Int32)), (.int (1 : Int32))]))
            refine Go.of (fun _ k => XS.icmpNo X28.here hx rfl (hb hby at_21) rfl (teq (by decide : (1 : Int32) = (1 : Int32))).2 k) ?_
            show Go p e below _ (T28.setTop (mkF m 24 #[.val (.int p0), .val (.int ((p0 &&& (2147483647 : Int32)) % (6 : Int32))), .val (.ref w_SSAR)] []))
            refine Go.of (fun _ k => XS.iconst X28.here hx rfl (hb hby at_24) k) ?_
            show Go p e below _ (T28.setTop (mkF m 25 #[.val (.int p0), .val (.int ((p0 &&& (2147483647 : Int32)) % (6 : Int32))), .val (.ref w_SSAR)] [(.int (1 : Int32))]))
            refine Go.of (fun _ k => XS.goto X28.here hx rfl (pc0 := 25) (pc' := 29) rfl (hb hby at_25) (by decide) (by decide) k) ?_
            show Go p e below _ (T28.setTop (mkF m 29 #[.val (.int p0), .val (.int ((p0 &&& (2147483647 : Int32)) % (6 : Int32))), .val (.ref w_SSAR)] [(.int (1 : Int32))]))
            obtain ⟨fs, hr, hrun, hended, hW, hsame⟩ := X28.leave (v := some (.int (1 : Int32))) (fun h => by rw [Bd.returns] at h; cases h)
            refine Go.mk _ _ ?_ hrun hended ⟨_, _, rfl, ?_, ⟨_, rfl⟩, hW, hsame.mono (by decide) (by decide)⟩
            · exact retN X28 hx (t := .boolean) Bd.returns (by simp) (hb hby at_29) hr
            · show Q0 Z p0 w_OPTION_NSO w_OPTION_AWARD w_RESTRICTED_STOCK_UNIT_AWARD w_OPTION_ISO w_OPTION w_RSU w_CSAR w_STOCK_APPRECIATION_RIGHT_AWARD w_SSAR h0 n0 _ T28.heap _
              rw [q28_0]
              exact ⟨rfl, N28⟩
set_option maxRecDepth 65536 in
set_option maxHeartbeats 40000000 in
theorem comes_1 {Post : Tables → Env → Array Value → State → Outcome → State → Prop} (hpost : ∀ tb e args s v u, (limb_1_1.after args s (.returned v) u = true ∧ limb_1_2.after args s (.returned v) u = true ∧ True) → FrameEnd s (.returned v) u (Jvm.fieldLocs frame_1_writes args s ++ Jvm.arrayLocs frame_1_arrays args s ++ Jvm.staticLocs frame_1_statics s) 0 0 → Post tb e args s (.returned v) u) :
    ArmFor flags0 classFile x code maxLocals ret World_1 tables_1 room_1 Calls_1 rest_1 Pre_1 Post := by
  intro l hfl _ _ p e ha hc hk s m args below hf hA hF happ hP
  obtain ⟨hcalls, hrest, hpre⟩ := hP
  obtain ⟨-, -, -, hnamed, -, -, -, hat⟩ := (Spec.applies_iff hf).mp happ
  obtain ⟨hg, hn⟩ := and_e (Cond.before_iff.mp (show (Jvm.Cond.and given_1 narrow_1).before args s = true from hpre))
  obtain ⟨g1, g2⟩ := and_e hg
  obtain ⟨w0, rfl⟩ : ∃ w0 : Value, args = #[w0] := by
    have hs : args.size = 1 := by simpa [Cond.value, given_1] using g1
    obtain ⟨L⟩ := args
    match L, hs with
    | [w0], _ => exact ⟨w0, rfl⟩
  have hw := fun d (hd : d ∈ tables_1) => atoms_spec (ws := Jvm.Cond.code x code maxLocals ret :: tables_1) hat d (List.mem_cons_of_mem _ hd)
  have hfit : Fit s := fun {y c} hc i hi => by
    obtain ⟨ha, rfl⟩ := Array.getElem?_eq_some_iff.mp hc
    have q := List.all_eq_true.mp ((Array.all_eq_true_iff_forall_mem.mp hF) _ (Array.getElem_mem ha)) i (List.mem_range.mpr hi)
    simpa [Array.getElem?_eq_getElem hi] using q
  obtain ⟨i0, ei0⟩ := is_v g2
  obtain rfl : w0 = (.int i0) := Option.some.inj ei0
  obtain ⟨g3, g4⟩ := and_e hn
  obtain ⟨g5, g6⟩ := and_e g4
  obtain ⟨g7, g8⟩ := and_e g6
  obtain ⟨g9, g10⟩ := and_e g8
  obtain ⟨g11, g12⟩ := and_e g10
  obtain ⟨g13, g14⟩ := and_e g12
  obtain ⟨g15, g16⟩ := and_e g14
  obtain ⟨g17, g18⟩ := and_e g16
  obtain ⟨g19, g20⟩ := and_e g18
  obtain ⟨g21, g22⟩ := and_e g20
  obtain ⟨g23, g24⟩ := and_e g22
  obtain ⟨g25, g26⟩ := and_e g24
  obtain ⟨g27, g28⟩ := and_e g26
  obtain ⟨g29, g30⟩ := and_e g28
  obtain ⟨g31, g32⟩ := and_e g30
  obtain ⟨g33, g34⟩ := and_e g32
  obtain ⟨g35, g36⟩ := and_e g34
  obtain ⟨w_OPTION_NSO, ev_OPTION_NSO, E_w_OPTION_NSO⟩ := own_sta g3
  have S_OPTION_NSO := Sta.start ev_OPTION_NSO (Or.inr ⟨(hw _ (List.mem_of_getElem? (i := 6) rfl)), (hw _ (List.mem_of_getElem? (i := 7) rfl))⟩)
  obtain ⟨w_OPTION_AWARD, ev_OPTION_AWARD, E_w_OPTION_AWARD⟩ := own_sta g5
  have S_OPTION_AWARD := Sta.start ev_OPTION_AWARD (Or.inr ⟨(hw _ (List.mem_of_getElem? (i := 15) rfl)), (hw _ (List.mem_of_getElem? (i := 16) rfl))⟩)
  obtain ⟨w_RESTRICTED_STOCK_UNIT_AWARD, ev_RESTRICTED_STOCK_UNIT_AWARD, E_w_RESTRICTED_STOCK_UNIT_AWARD⟩ := own_sta g9
  have S_RESTRICTED_STOCK_UNIT_AWARD := Sta.start ev_RESTRICTED_STOCK_UNIT_AWARD (Or.inr ⟨(hw _ (List.mem_of_getElem? (i := 15) rfl)), (hw _ (List.mem_of_getElem? (i := 18) rfl))⟩)
  obtain ⟨w_RSU, ev_RSU, E_w_RSU⟩ := own_sta g15
  have S_RSU := Sta.start ev_RSU (Or.inr ⟨(hw _ (List.mem_of_getElem? (i := 6) rfl)), (hw _ (List.mem_of_getElem? (i := 23) rfl))⟩)
  obtain ⟨w_OPTION, ev_OPTION, E_w_OPTION⟩ := own_sta g19
  have S_OPTION := Sta.start ev_OPTION (Or.inr ⟨(hw _ (List.mem_of_getElem? (i := 6) rfl)), (hw _ (List.mem_of_getElem? (i := 25) rfl))⟩)
  obtain ⟨w_OPTION_ISO, ev_OPTION_ISO, E_w_OPTION_ISO⟩ := own_sta g23
  have S_OPTION_ISO := Sta.start ev_OPTION_ISO (Or.inr ⟨(hw _ (List.mem_of_getElem? (i := 6) rfl)), (hw _ (List.mem_of_getElem? (i := 27) rfl))⟩)
  obtain ⟨w_SSAR, ev_SSAR, E_w_SSAR⟩ := own_sta g27
  have S_SSAR := Sta.start ev_SSAR (Or.inr ⟨(hw _ (List.mem_of_getElem? (i := 6) rfl)), (hw _ (List.mem_of_getElem? (i := 29) rfl))⟩)
  obtain ⟨w_STOCK_APPRECIATION_RIGHT_AWARD, ev_STOCK_APPRECIATION_RIGHT_AWARD, E_w_STOCK_APPRECIATION_RIGHT_AWARD⟩ := own_sta g29
  have S_STOCK_APPRECIATION_RIGHT_AWARD := Sta.start ev_STOCK_APPRECIATION_RIGHT_AWARD (Or.inr ⟨(hw _ (List.mem_of_getElem? (i := 15) rfl)), (hw _ (List.mem_of_getElem? (i := 30) rfl))⟩)
  obtain ⟨w_CSAR, ev_CSAR, E_w_CSAR⟩ := own_sta g35
  have S_CSAR := Sta.start ev_CSAR (Or.inr ⟨(hw _ (List.mem_of_getElem? (i := 6) rfl)), (hw _ (List.mem_of_getElem? (i := 32) rfl))⟩)
  have F_w_OPTION_NSO_kind := own_fldR ev_OPTION_NSO ev_OPTION_AWARD g7
  have F_w_OPTION_AWARD_ordinal := own_fldI ev_OPTION_AWARD g11
  have F_w_RESTRICTED_STOCK_UNIT_AWARD_ordinal := own_fldI ev_RESTRICTED_STOCK_UNIT_AWARD g13
  have F_w_RSU_kind := own_fldR ev_RSU ev_RESTRICTED_STOCK_UNIT_AWARD g17
  have F_w_OPTION_kind := own_fldR ev_OPTION ev_OPTION_AWARD g21
  have F_w_OPTION_ISO_kind := own_fldR ev_OPTION_ISO ev_OPTION_AWARD g25
  have F_w_SSAR_kind := own_fldR ev_SSAR ev_STOCK_APPRECIATION_RIGHT_AWARD g31
  have F_w_STOCK_APPRECIATION_RIGHT_AWARD_ordinal := own_fldI ev_STOCK_APPRECIATION_RIGHT_AWARD g33
  have F_w_CSAR_kind := own_fldR ev_CSAR ev_STOCK_APPRECIATION_RIGHT_AWARD g36
  obtain ⟨n, o, h1, h2, h3, _, L, rfl, ⟨rfl, N⟩, hq⟩ := rm0 l s _ hw tables_1 i0 w_OPTION_NSO w_OPTION_AWARD w_RESTRICTED_STOCK_UNIT_AWARD w_OPTION_ISO w_OPTION w_RSU w_CSAR w_STOCK_APPRECIATION_RIGHT_AWARD w_SSAR s.heap s.heap.size (Nat.le_refl _) S_OPTION_NSO S_OPTION_AWARD F_w_OPTION_NSO_kind S_RESTRICTED_STOCK_UNIT_AWARD (Fld.ne F_w_OPTION_AWARD_ordinal F_w_RESTRICTED_STOCK_UNIT_AWARD_ordinal (by simp)) E_w_OPTION_NSO S_OPTION_ISO F_w_OPTION_ISO_kind E_w_OPTION_ISO S_OPTION F_w_OPTION_kind E_w_OPTION S_RSU F_w_RSU_kind E_w_RSU S_CSAR S_STOCK_APPRECIATION_RIGHT_AWARD F_w_CSAR_kind (Fld.ne F_w_RESTRICTED_STOCK_UNIT_AWARD_ordinal F_w_STOCK_APPRECIATION_RIGHT_AWARD_ordinal (by simp)) E_w_CSAR S_SSAR F_w_SSAR_kind E_w_SSAR p e ha hc hk s m _ below hf ((Spec.applies_iff_loose hf).mp happ).1 ⟨rfl, State.Warmed39.refl s, rfl⟩ trivial
  refine ⟨n, _, h1, h2, h3, hpost _ _ _ _ _ _ ⟨Cond.after_iff.mpr rfl, Cond.after_iff.mpr (eq_i res_at (Term.int_eval (1)) rfl), trivial⟩ ⟨hq.1, hq.2.1, (hq.2.2.sift fun y hy => Or.inr (N y hy)).mono (by decide) (by decide)⟩⟩
theorem main_1_1 : Claimed_1_1 := comes_1 fun _ _ _ _ _ _ h hF => ⟨h.1, hF⟩
theorem main_1_2 : Claimed_1_2 := comes_1 fun _ _ _ _ _ _ h hF => ⟨h.2.1, hF⟩
end Jvm.Pilot.@@N@@
namespace Jvm.Pilot.@@N@@
open Jvm Jvm.ClassFile Sem Op Lib Jvm.Free Jvm.Stand Jvm.Pilot.@@N@@.Jvm.D
/-! MADE BY PROGRAM (witnessworld.py) out of the Statement's table words and the real class files: 13 classes; the members and pool entries that the words name. The judged class is class 1, her method 3. -/
namespace start1
open Jvm.ClassFile
def u (s : String) : CpInfo := .utf8 (stringToUtf16 s)
/-- a pool by its gaps: so many unusable entries, then the entry; so many at the end -/
def gap : Nat → List CpInfo → List CpInfo
  | 0, r => r
  | n + 1, r => .unusable :: gap n r
def poolList (es : List (Nat × CpInfo)) (last : Nat) : List CpInfo := es.foldr (fun e r => gap e.1 (e.2 :: r)) (gap last [])
def pool (es : List (Nat × CpInfo)) (last : Nat) : Array CpInfo := ⟨poolList es last⟩
def fileOf (pool : Array CpInfo) (this : Nat) (attrs : Array Attribute := #[]) (ms : Array MethodInfo := #[]) (fl : Nat := 33) (sup : Nat := 0) (ifs : Array Nat := #[]) (fds : Array FieldInfo := #[]) : ClassFile where
  minorVersion := 0
  majorVersion := 65
  constantPool := pool
  accessFlags := fl
  thisClass := this
  superClass := sup
  interfaces := ifs
  fields := fds
  methods := ms
  attributes := attrs
def plain (name : String) (sup : Option ClassId) : Class where
  name := name
  kind := .ordinary
  loader := none
  accessFlags := 33
  super := sup
  interfaces := #[]
  cf := none
  fields := #[]
  methods := #[]
  instanceTypes := #[]
  staticTypes := #[]
  resolved := #[]
  callSites := []
  init := .initialized
  statics := none
  mirror := none

def pool0 : Array CpInfo := pool [(5, u "<init>"), (0, u "()V"), (1, .class_ 10), (1, u "java/lang/Object")] 113

def k0m0 : Method := { name := "<init>", desc := "()V", sig := { parameters := [], returnType := none }, accessFlags := 1, code := none }
/-- java/lang/Object -/
def k0 : Class := { plain "java/lang/Object" none with
  accessFlags := 33
  interfaces := #[]
  cf := some (fileOf pool0 8 #[] #[{ accessFlags := 1, nameIndex := 5, descriptorIndex := 6, attributes := #[] }] 33 0 #[] #[])
  fields := #[]
  methods := #[k0m0]
  instanceTypes := #[]
  staticTypes := #[]
  resolved := Array.replicate 124 none
  statics := none }

def pool1 : Array CpInfo := pool [(2, .class_ 4), (1, u "java/lang/Object"), (0, u "<init>"), (0, u "()V"), (0, .fieldref 8 9), (0, .class_ 10), (0, .nameAndType 11 12), (0, u "com/example/vestry/vestry/ocf/OcfPackage$CompensationType"), (0, u "OPTION_NSO"), (0, u "Lcom/example/vestry/vestry/ocf/OcfPackage$CompensationType;"), (0, .fieldref 8 14), (0, .nameAndType 15 12), (0, u "OPTION_ISO"), (0, .fieldref 8 17), (0, .nameAndType 18 12), (0, u "OPTION"), (0, .fieldref 8 20), (0, .nameAndType 21 12), (0, u "RSU"), (0, .fieldref 8 23), (0, .nameAndType 24 12), (0, u "CSAR"), (0, .fieldref 8 26), (0, .nameAndType 27 12), (0, u "SSAR"), (0, .integer 2147483647), (0, .methodref 30 31), (0, .class_ 32), (0, .nameAndType 33 34), (0, u "com/example/vestry/vestry/ocf/CompensationTypeExercisablePinLaw"), (0, u "pick"), (0, u "(I)Lcom/example/vestry/vestry/ocf/OcfPackage$CompensationType;"), (0, .methodref 8 36), (0, .nameAndType 37 38), (0, u "exercisable"), (0, u "()Z"), (0, .methodref 30 40), (0, .nameAndType 41 42), (0, u "expected"), (0, u "(I)Z"), (3, u "law")] 6

def k1m0 : Method := { name := "<init>", desc := "()V", sig := { parameters := [], returnType := none }, accessFlags := 2, code := none }
def k1c1 : Code := { maxStack := 2, maxLocals := 1, code := method_2_code, exceptionTable := #[], attributes := #[] }
def k1m1 : Method := { name := "pick", desc := "(I)Lcom/example/vestry/vestry/ocf/OcfPackage$CompensationType;", sig := { parameters := [.int], returnType := some (.object "com/example/vestry/vestry/ocf/OcfPackage$CompensationType") }, accessFlags := 10, code := some k1c1 }
def k1c2 : Code := { maxStack := 2, maxLocals := 1, code := method_3_code, exceptionTable := #[], attributes := #[] }
def k1m2 : Method := { name := "expected", desc := "(I)Z", sig := { parameters := [.int], returnType := some .boolean }, accessFlags := 10, code := some k1c2 }
def k1c3 : Code := { maxStack := 2, maxLocals := 3, code := code, exceptionTable := #[], attributes := #[] }
def k1m3 : Method := { name := "law", desc := "(I)Z", sig := { parameters := [.int], returnType := some .boolean }, accessFlags := 9, code := some k1c3 }
/-- com/example/vestry/vestry/ocf/CompensationTypeExercisablePinLaw -/
def k1 : Class := { plain "com/example/vestry/vestry/ocf/CompensationTypeExercisablePinLaw" (some 0) with
  accessFlags := 49
  interfaces := #[]
  cf := some (fileOf pool1 30 #[] #[{ accessFlags := 2, nameIndex := 5, descriptorIndex := 6, attributes := #[] }, { accessFlags := 10, nameIndex := 33, descriptorIndex := 34, attributes := #[] }, { accessFlags := 10, nameIndex := 41, descriptorIndex := 42, attributes := #[] }, { accessFlags := 9, nameIndex := 46, descriptorIndex := 42, attributes := #[] }] 49 2 #[] #[])
  fields := #[]
  methods := #[k1m0, k1m1, k1m2, k1m3]
  instanceTypes := #[]
  staticTypes := #[]
  resolved := Array.replicate 53 none
  statics := none }

def pool2 : Array CpInfo := pool [(1, .class_ 2), (0, u "java/lang/constant/Constable"), (0, .class_ 4), (0, u "java/lang/Object")] 6

/-- java/lang/constant/Constable -/
def k2 : Class := { plain "java/lang/constant/Constable" (some 0) with
  accessFlags := 1537
  interfaces := #[]
  cf := some (fileOf pool2 1 #[] #[] 1537 3 #[] #[])
  fields := #[]
  methods := #[]
  instanceTypes := #[]
  staticTypes := #[]
  resolved := Array.replicate 11 none
  statics := none }

def pool3 : Array CpInfo := pool [(1, .class_ 2), (0, u "java/lang/Comparable"), (0, .class_ 4), (0, u "java/lang/Object")] 7

/-- java/lang/Comparable -/
def k3 : Class := { plain "java/lang/Comparable" (some 0) with
  accessFlags := 1537
  interfaces := #[]
  cf := some (fileOf pool3 1 #[] #[] 1537 3 #[] #[])
  fields := #[]
  methods := #[]
  instanceTypes := #[]
  staticTypes := #[]
  resolved := Array.replicate 12 none
  statics := none }

def pool4 : Array CpInfo := pool [(1, .class_ 2), (0, u "java/io/Serializable"), (0, .class_ 4), (0, u "java/lang/Object")] 2

/-- java/io/Serializable -/
def k4 : Class := { plain "java/io/Serializable" (some 0) with
  accessFlags := 1537
  interfaces := #[]
  cf := some (fileOf pool4 1 #[] #[] 1537 3 #[] #[])
  fields := #[]
  methods := #[]
  instanceTypes := #[]
  staticTypes := #[]
  resolved := Array.replicate 7 none
  statics := none }

def pool5 : Array CpInfo := pool [(2, .class_ 4), (1, u "java/lang/Enum"), (0, u "name"), (0, u "Ljava/lang/String;"), (2, u "ordinal"), (0, u "I"), (1, .class_ 14), (1, u "java/lang/Object"), (4, u "hash"), (86, .class_ 108), (1, u "java/lang/Enum$EnumDesc"), (2, .class_ 112), (0, u "java/lang/constant/Constable"), (0, .class_ 114), (0, u "java/lang/Comparable"), (0, .class_ 116), (0, u "java/io/Serializable")] 87

/-- java/lang/Enum -/
def k5 : Class := { plain "java/lang/Enum" (some 0) with
  accessFlags := 1057
  interfaces := #[2, 3, 4]
  cf := some (fileOf pool5 2 #[.nestMembers #[106]] #[] 1057 12 #[111, 113, 115] #[{ accessFlags := 18, nameIndex := 5, descriptorIndex := 6, attributes := #[] }, { accessFlags := 18, nameIndex := 9, descriptorIndex := 10, attributes := #[] }, { accessFlags := 2, nameIndex := 19, descriptorIndex := 10, attributes := #[] }])
  fields := #[{ name := "name", type := (.object "java/lang/String"), accessFlags := 18, slot := 0, constantValue := 0 }, { name := "ordinal", type := .int, accessFlags := 18, slot := 1, constantValue := 0 }, { name := "hash", type := .int, accessFlags := 2, slot := 2, constantValue := 0 }]
  methods := #[]
  instanceTypes := #[(.object "java/lang/String"), .int, .int]
  staticTypes := #[]
  resolved := Array.replicate 204 none
  statics := none }

def pool6 : Array CpInfo := pool [(1, .class_ 2), (0, u "com/example/vestry/vestry/ocf/OcfPackage$CompensationType"), (2, u "OPTION_NSO"), (0, u "Lcom/example/vestry/vestry/ocf/OcfPackage$CompensationType;"), (2, u "OPTION_ISO"), (2, u "OPTION"), (2, u "RSU"), (2, u "CSAR"), (2, u "SSAR"), (2, u "$VALUES"), (0, u "[Lcom/example/vestry/vestry/ocf/OcfPackage$CompensationType;"), (6, .class_ 34), (1, u "java/lang/Enum"), (6, .fieldref 1 42), (0, .nameAndType 43 44), (0, u "kind"), (0, u "Lcom/example/vestry/vestry/ledger/AwardKind;"), (2, u "optionType"), (0, u "Lcom/example/vestry/vestry/ledger/OptionType;"), (0, .fieldref 50 51), (0, .class_ 52), (0, .nameAndType 53 44), (0, u "com/example/vestry/vestry/ledger/AwardKind"), (0, u "RESTRICTED_STOCK_UNIT_AWARD"), (36, u "exercisable"), (0, u "()Z"), (7, .class_ 100), (0, u "com/example/vestry/vestry/ocf/OcfPackage")] 2

def k6c0 : Code := { maxStack := 2, maxLocals := 1, code := prog_58_method_6_code, exceptionTable := #[], attributes := #[] }
def k6m0 : Method := { name := "exercisable", desc := "()Z", sig := { parameters := [], returnType := some .boolean }, accessFlags := 0, code := some k6c0 }
/-- com/example/vestry/vestry/ocf/OcfPackage$CompensationType -/
def k6 : Class := { plain "com/example/vestry/vestry/ocf/OcfPackage$CompensationType" (some 5) with
  accessFlags := 16432
  interfaces := #[]
  cf := some (fileOf pool6 1 #[.nestHost 99] #[{ accessFlags := 0, nameIndex := 90, descriptorIndex := 91, attributes := #[] }] 16432 32 #[] #[{ accessFlags := 16409, nameIndex := 5, descriptorIndex := 6, attributes := #[] }, { accessFlags := 16409, nameIndex := 9, descriptorIndex := 6, attributes := #[] }, { accessFlags := 16409, nameIndex := 12, descriptorIndex := 6, attributes := #[] }, { accessFlags := 16409, nameIndex := 15, descriptorIndex := 6, attributes := #[] }, { accessFlags := 16409, nameIndex := 18, descriptorIndex := 6, attributes := #[] }, { accessFlags := 16409, nameIndex := 21, descriptorIndex := 6, attributes := #[] }, { accessFlags := 18, nameIndex := 43, descriptorIndex := 44, attributes := #[] }, { accessFlags := 18, nameIndex := 47, descriptorIndex := 48, attributes := #[] }, { accessFlags := 4122, nameIndex := 24, descriptorIndex := 25, attributes := #[] }])
  fields := #[{ name := "OPTION_NSO", type := (.object "com/example/vestry/vestry/ocf/OcfPackage$CompensationType"), accessFlags := 16409, slot := 0, constantValue := 0 }, { name := "OPTION_ISO", type := (.object "com/example/vestry/vestry/ocf/OcfPackage$CompensationType"), accessFlags := 16409, slot := 1, constantValue := 0 }, { name := "OPTION", type := (.object "com/example/vestry/vestry/ocf/OcfPackage$CompensationType"), accessFlags := 16409, slot := 2, constantValue := 0 }, { name := "RSU", type := (.object "com/example/vestry/vestry/ocf/OcfPackage$CompensationType"), accessFlags := 16409, slot := 3, constantValue := 0 }, { name := "CSAR", type := (.object "com/example/vestry/vestry/ocf/OcfPackage$CompensationType"), accessFlags := 16409, slot := 4, constantValue := 0 }, { name := "SSAR", type := (.object "com/example/vestry/vestry/ocf/OcfPackage$CompensationType"), accessFlags := 16409, slot := 5, constantValue := 0 }, { name := "kind", type := (.object "com/example/vestry/vestry/ledger/AwardKind"), accessFlags := 18, slot := 3, constantValue := 0 }, { name := "optionType", type := (.object "com/example/vestry/vestry/ledger/OptionType"), accessFlags := 18, slot := 4, constantValue := 0 }, { name := "$VALUES", type := (.array (.object "com/example/vestry/vestry/ocf/OcfPackage$CompensationType")), accessFlags := 4122, slot := 6, constantValue := 0 }]
  methods := #[k6m0]
  instanceTypes := #[(.object "java/lang/String"), .int, .int, (.object "com/example/vestry/vestry/ledger/AwardKind"), (.object "com/example/vestry/vestry/ledger/OptionType")]
  staticTypes := #[(.object "com/example/vestry/vestry/ocf/OcfPackage$CompensationType"), (.object "com/example/vestry/vestry/ocf/OcfPackage$CompensationType"), (.object "com/example/vestry/vestry/ocf/OcfPackage$CompensationType"), (.object "com/example/vestry/vestry/ocf/OcfPackage$CompensationType"), (.object "com/example/vestry/vestry/ocf/OcfPackage$CompensationType"), (.object "com/example/vestry/vestry/ocf/OcfPackage$CompensationType"), (.array (.object "com/example/vestry/vestry/ocf/OcfPackage$CompensationType"))]
  resolved := Array.replicate 103 none
  statics := some 0 }

def pool7 : Array CpInfo := pool [(1, .class_ 2), (0, u "com/example/vestry/vestry/ledger/AwardKind"), (2, u "INCENTIVE_AWARD"), (0, u "Lcom/example/vestry/vestry/ledger/AwardKind;"), (2, u "RESTRICTED_STOCK_AWARD"), (2, u "RESTRICTED_STOCK_UNIT_AWARD"), (2, u "OPTION_AWARD"), (2, u "STOCK_APPRECIATION_RIGHT_AWARD"), (2, u "$VALUES"), (0, u "[Lcom/example/vestry/vestry/ledger/AwardKind;"), (6, .class_ 31), (1, u "java/lang/Enum"), (8, u "KINDS")] 47

/-- com/example/vestry/vestry/ledger/AwardKind -/
def k7 : Class := { plain "com/example/vestry/vestry/ledger/AwardKind" (some 5) with
  accessFlags := 16433
  interfaces := #[]
  cf := some (fileOf pool7 1 #[] #[] 16433 29 #[] #[{ accessFlags := 16409, nameIndex := 5, descriptorIndex := 6, attributes := #[] }, { accessFlags := 16409, nameIndex := 9, descriptorIndex := 6, attributes := #[] }, { accessFlags := 16409, nameIndex := 12, descriptorIndex := 6, attributes := #[] }, { accessFlags := 16409, nameIndex := 15, descriptorIndex := 6, attributes := #[] }, { accessFlags := 16409, nameIndex := 18, descriptorIndex := 6, attributes := #[] }, { accessFlags := 26, nameIndex := 40, descriptorIndex := 22, attributes := #[] }, { accessFlags := 4122, nameIndex := 21, descriptorIndex := 22, attributes := #[] }])
  fields := #[{ name := "INCENTIVE_AWARD", type := (.object "com/example/vestry/vestry/ledger/AwardKind"), accessFlags := 16409, slot := 0, constantValue := 0 }, { name := "RESTRICTED_STOCK_AWARD", type := (.object "com/example/vestry/vestry/ledger/AwardKind"), accessFlags := 16409, slot := 1, constantValue := 0 }, { name := "RESTRICTED_STOCK_UNIT_AWARD", type := (.object "com/example/vestry/vestry/ledger/AwardKind"), accessFlags := 16409, slot := 2, constantValue := 0 }, { name := "OPTION_AWARD", type := (.object "com/example/vestry/vestry/ledger/AwardKind"), accessFlags := 16409, slot := 3, constantValue := 0 }, { name := "STOCK_APPRECIATION_RIGHT_AWARD", type := (.object "com/example/vestry/vestry/ledger/AwardKind"), accessFlags := 16409, slot := 4, constantValue := 0 }, { name := "KINDS", type := (.array (.object "com/example/vestry/vestry/ledger/AwardKind")), accessFlags := 26, slot := 5, constantValue := 0 }, { name := "$VALUES", type := (.array (.object "com/example/vestry/vestry/ledger/AwardKind")), accessFlags := 4122, slot := 6, constantValue := 0 }]
  methods := #[]
  instanceTypes := #[(.object "java/lang/String"), .int, .int]
  staticTypes := #[(.object "com/example/vestry/vestry/ledger/AwardKind"), (.object "com/example/vestry/vestry/ledger/AwardKind"), (.object "com/example/vestry/vestry/ledger/AwardKind"), (.object "com/example/vestry/vestry/ledger/AwardKind"), (.object "com/example/vestry/vestry/ledger/AwardKind"), (.array (.object "com/example/vestry/vestry/ledger/AwardKind")), (.array (.object "com/example/vestry/vestry/ledger/AwardKind"))]
  resolved := Array.replicate 88 none
  statics := some 1 }

def pool8 : Array CpInfo := pool [(1, u "java/lang/Cloneable"), (0, .class_ 1), (0, u "java/lang/Object"), (0, .class_ 3)] 3

/-- java/lang/Cloneable -/
def k8 : Class := { plain "java/lang/Cloneable" (some 0) with
  accessFlags := 1537
  interfaces := #[]
  cf := some (fileOf pool8 2 #[] #[] 1537 4 #[] #[])
  fields := #[]
  methods := #[]
  instanceTypes := #[]
  staticTypes := #[]
  resolved := Array.replicate 8 none
  statics := none }

/-- the primitive byte -/
def k9 : Class := { plain "byte" none with kind := .primitive 'B', accessFlags := 0x411 }
/-- [B -/
def k10 : Class := { plain "[B" (some 0) with kind := .array 9 .byte, interfaces := #[8, 4], accessFlags := 1041 }

/-- the primitive int -/
def k11 : Class := { plain "int" none with kind := .primitive 'I', accessFlags := 0x411 }
/-- [I -/
def k12 : Class := { plain "[I" (some 0) with kind := .array 11 .int, interfaces := #[8, 4], accessFlags := 1041 }

def heap : Heap := #[{ cls := 6, slots := #[.ref 2, .ref 7, .ref 6, .ref 5, .ref 10, .ref 8, .null], vm := .statics 6 },
  { cls := 7, slots := #[.null, .null, .ref 4, .ref 3, .ref 9, .null, .null], vm := .statics 7 },
  { cls := 6, slots := #[.null, .int 0, .int 0, .ref 3, .null], vm := .none },
  { cls := 7, slots := #[.null, .int 3, .int 0], vm := .none },
  { cls := 7, slots := #[.null, .int 2, .int 0], vm := .none },
  { cls := 6, slots := #[.null, .int 0, .int 0, .ref 4, .null], vm := .none },
  { cls := 6, slots := #[.null, .int 0, .int 0, .ref 3, .null], vm := .none },
  { cls := 6, slots := #[.null, .int 0, .int 0, .ref 3, .null], vm := .none },
  { cls := 6, slots := #[.null, .int 0, .int 0, .ref 9, .null], vm := .none },
  { cls := 7, slots := #[.null, .int 4, .int 0], vm := .none },
  { cls := 6, slots := #[.null, .int 0, .int 0, .ref 9, .null], vm := .none }]
def classes : Array Class := #[k0, k1, k2, k3, k4, k5, k6, k7, k8, k9, k10, k11, k12]
def interned : List (Array UInt16 × Addr) := []
def slotsUsed : Nat := 53
def theMethod : MethodId := ⟨1, 3⟩
def args0 : Array Value := #[.int 5]
def aboutOver (below : List Frame) : State where
  vm := { classes := classes, interned := interned.toArray }
  heap := heap
  slotsUsed := slotsUsed
  threads := #[{ frames := .invoking theMethod args0 :: below }]
def below0 : List Frame := [.native { method := ⟨0, 0⟩, args := #[] }]
def about1 : State := aboutOver below0
def p0 : Program := .bare "" "" ""
def e0 : Env := launch0.env 0 0 0
theorem w_frames : about1.frames = Frame.invoking theMethod args0 :: below0 := rfl
set_option maxRecDepth 65536 in
theorem w_args : argsFit about1.vm theMethod args0 = true := by decide +kernel
set_option maxRecDepth 65536 in
theorem w_heap : heapFits about1 = true := by decide +kernel
set_option maxRecDepth 65536 in
theorem w_runnable : about1.curStatus? = some .runnable := by decide +kernel
set_option maxRecDepth 65536 in
theorem w_alone : about1.alone = true := by decide +kernel
set_option maxRecDepth 65536 in
theorem w_named : about1.methodNamed? x = some theMethod := by decide +kernel
set_option maxRecDepth 65536 in
theorem w_hears : about1.hears theMethod below0 = true := by decide +kernel
set_option maxRecDepth 65536 in
theorem w_ripe : about1.ripe theMethod args0 below0 = true := by decide +kernel
theorem w_running : about1.status = .running := rfl
set_option maxRecDepth 65536 in
theorem w_room : about1.hasRoom e0.platform room_1 = true :=
  launch0.hasRoom_least _ room_1 (by decide +kernel) (by decide +kernel) (by decide +kernel) (by decide +kernel) (by decide +kernel) (by decide +kernel)
theorem allAtoms_all (ts : List Jvm.Cond) (a : Array Jvm.Value) (st : Jvm.State) : (allAtoms ts).before a st = ts.all (fun c => c.before a st) := by
  induction ts with
  | nil => rfl
  | cons c t ih =>
    show (Jvm.Cond.and c (allAtoms t)).before a st = _
    rw [Jvm.Cond.before_and, ih, List.all_cons]
def words1 : List Jvm.Cond := Jvm.Cond.code x code maxLocals ret :: tables_1
/-- a 'code' word, met by the world's own term for the bytes: nothing is compared byte by byte -/
theorem code_word {y : MethodName} {bytes : ByteArray} {mx : Nat} {rt : Option FieldType} {a : Array Value} {s : State} {m : MethodId} {meth : Method} {c : Code} (h1 : s.methodNamed? y = some m) (h2 : s.vm.method? m = some meth) (h3 : meth.code = some c) (h4 : c.code = bytes)
    (h5 : (c.maxLocals == mx && c.exceptionTable.isEmpty && decide (c.maxStack ≤ mostOperands) && decide (meth.sig.returnType = rt) && !meth.locks && decide (parseMethodDescriptor y.desc = some meth.sig)) = true) : (Jvm.Cond.code y bytes mx rt).before a s = true := by
  simp only [Bool.and_eq_true, beq_iff_eq, Bool.not_eq_true', decide_eq_true_eq] at h5
  obtain ⟨⟨⟨⟨⟨g1, g2⟩, g3⟩, g4⟩, g5⟩, g6⟩ := h5
  simp [Cond.before, Cond.holds, Cond.value, h1, h2, h3, h4, g1, g2, g3, g4, g5, g6]
def isCode : Jvm.Cond → Bool
  | .code _ _ _ _ => true
  | _ => false
theorem all_split {L : List Jvm.Cond} {P : Jvm.Cond → Bool} (h1 : L.all (fun c => isCode c || P c) = true) (h2 : ∀ c ∈ L.filter isCode, P c = true) : L.all P = true := by
  refine List.all_eq_true.mpr fun c hc => ?_
  have h := List.all_eq_true.mp h1 c hc
  rcases Bool.eq_false_or_eq_true (isCode c) with hi | hi
  · exact h2 c (List.mem_filter.mpr ⟨hc, hi⟩)
  · simpa [hi] using h
set_option maxRecDepth 65536 in
theorem w_c0 : (Jvm.Cond.code x code maxLocals ret).before args0 about1 = true := code_word (m := ⟨1, 3⟩) (meth := k1m3) (c := k1c3) (by decide +kernel) rfl rfl rfl (by decide +kernel)
set_option maxRecDepth 65536 in
theorem w_c1 : (Jvm.Cond.code ({ cls := "com/example/vestry/vestry/ocf/CompensationTypeExercisablePinLaw", name := "pick", desc := "(I)Lcom/example/vestry/vestry/ocf/OcfPackage$CompensationType;" } : Jvm.MethodName) method_2_code (1 : Nat) (Option.some (Jvm.ClassFile.FieldType.object "com/example/vestry/vestry/ocf/OcfPackage$CompensationType"))).before args0 about1 = true := code_word (m := ⟨1, 1⟩) (meth := k1m1) (c := k1c1) (by decide +kernel) rfl rfl rfl (by decide +kernel)
set_option maxRecDepth 65536 in
theorem w_c2 : (Jvm.Cond.code ({ cls := "com/example/vestry/vestry/ocf/OcfPackage$CompensationType", name := "exercisable", desc := "()Z" } : Jvm.MethodName) prog_58_method_6_code (1 : Nat) (Option.some Jvm.ClassFile.FieldType.boolean)).before args0 about1 = true := code_word (m := ⟨6, 0⟩) (meth := k6m0) (c := k6c0) (by decide +kernel) rfl rfl rfl (by decide +kernel)
set_option maxRecDepth 65536 in
theorem w_c3 : (Jvm.Cond.code ({ cls := "com/example/vestry/vestry/ocf/CompensationTypeExercisablePinLaw", name := "expected", desc := "(I)Z" } : Jvm.MethodName) method_3_code (1 : Nat) (Option.some Jvm.ClassFile.FieldType.boolean)).before args0 about1 = true := code_word (m := ⟨1, 2⟩) (meth := k1m2) (c := k1c2) (by decide +kernel) rfl rfl rfl (by decide +kernel)
def codes1 : List Jvm.Cond := [Jvm.Cond.code x code maxLocals ret, Jvm.Cond.code ({ cls := "com/example/vestry/vestry/ocf/CompensationTypeExercisablePinLaw", name := "pick", desc := "(I)Lcom/example/vestry/vestry/ocf/OcfPackage$CompensationType;" } : Jvm.MethodName) method_2_code (1 : Nat) (Option.some (Jvm.ClassFile.FieldType.object "com/example/vestry/vestry/ocf/OcfPackage$CompensationType")), Jvm.Cond.code ({ cls := "com/example/vestry/vestry/ocf/OcfPackage$CompensationType", name := "exercisable", desc := "()Z" } : Jvm.MethodName) prog_58_method_6_code (1 : Nat) (Option.some Jvm.ClassFile.FieldType.boolean), Jvm.Cond.code ({ cls := "com/example/vestry/vestry/ocf/CompensationTypeExercisablePinLaw", name := "expected", desc := "(I)Z" } : Jvm.MethodName) method_3_code (1 : Nat) (Option.some Jvm.ClassFile.FieldType.boolean)]
set_option maxRecDepth 65536 in
theorem codes_eq : words1.filter isCode = codes1 := rfl
theorem w_codes : ∀ c ∈ words1.filter isCode, c.before args0 about1 = true := by
  rw [codes_eq]
  intro c hc
  simp only [codes1, List.mem_cons, List.not_mem_nil, or_false] at hc
  rcases hc with rfl | rfl | rfl | rfl
  · exact w_c0
  · exact w_c1
  · exact w_c2
  · exact w_c3
set_option maxRecDepth 65536 in
theorem w_t1 : (words1.take 24).all (fun c => isCode c || c.before args0 about1) = true := by decide +kernel
set_option maxRecDepth 65536 in
theorem w_t2 : (words1.drop 24).all (fun c => isCode c || c.before args0 about1) = true := by decide +kernel
theorem w_tables : (allAtoms (Jvm.Cond.code x code maxLocals ret :: tables_1)).before args0 about1 = true := by
  rw [allAtoms_all]
  show words1.all (fun c => c.before args0 about1) = true
  refine all_split ?_ w_codes
  rw [← List.take_append_drop 24 words1, List.all_append, w_t1, w_t2]
  rfl
set_option maxRecDepth 65536 in
theorem w_case : (Jvm.Cond.and given_1 narrow_1).before args0 about1 = true := by decide +kernel
theorem w_applies : (headSpec (Jvm.Cond.code x code maxLocals ret :: tables_1) room_1).applies x e0.platform about1 = true :=
  (Spec.applies_iff w_frames).mpr ⟨w_running, w_runnable, w_alone, w_named, w_hears, w_ripe, w_room, w_tables⟩
theorem atStart : AtStart classFile x code maxLocals ret World_1 tables_1 room_1 Calls_1 rest_1 Pre_1 launch0 p0 e0 about1 theMethod args0 below0 :=
  ⟨lists_1, trivial, launch0.admits_env _ _ _, launch0.least_env, fairChoices_fair.cas, fairChoices_fair.clock, w_frames, w_args, w_heap, w_applies, trivial, trivial, w_case⟩
end start1
theorem witness_1 : WitnessClaimed_1 := ⟨start1.p0, start1.e0, start1.about1, start1.theMethod, start1.args0, start1.below0, start1.atStart⟩
end Jvm.Pilot.@@N@@
