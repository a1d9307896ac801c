import JvmDerived
import JvmDerived.Pilot.@@N@@Statement
import JvmDerived.Pilot.@@N@@Code
set_option linter.unusedVariables false
set_option linter.unusedSimpArgs false
namespace Jvm.RoadKit
open Sem ClassFile Op Lib Jvm.Stand Jvm.Free Jvm.LawKit
section New
variable {p : Program} {l : Launch} {e : Env} {R : Room} {s : State} {m : MethodId} {args : Array Value} {below : List Frame} {meth : Method} {c : Code} {T : State} {locs : List Loc} {cells slots : Nat}
theorem retI (X : Stand p l e R s m args below meth c T locs cells slots) (hx : p.tables.exec = Jvm.exec) {pc : Nat} {Ls : Array Slot} {z : Int32} {rest : List Value} (hret : meth.sig.returnType = some .int) (hd : decode c.code pc = .ok (.ireturn, 1)) {fs : List Frame}
    (hl : ∀ (f : JFrame) (acts : List Action), f.method = m → f.locked = none → f.entered = [] → (doReturn e (T.setTop f) acts (some (.int z))).1 = T.setFrames fs) : Steps p.tables e below (T.setTop (mkF m pc Ls (.int z :: rest))) (T.setFrames fs) := by
  have hm' : T.vm.method? m = some meth := X.method'
  have hn : narrow .int (.int z) = .int z := rfl
  show Steps p.tables e below (T.setTop { method := m, pc := pc, locals := Ls, stack := _ :: rest, locked := none }) _
  jvm_step X.here [X.here.top, hx, hd, hm', hret, hn]
  first | (intro acts; rw [hl _ acts rfl rfl rfl]) | rw [hl _ _ rfl rfl rfl]
  exact Steps.refl _
end New
end Jvm.RoadKit
namespace Jvm.Pilot.@@N@@
open Jvm Jvm.ClassFile Sem Op Lib Jvm.Free Jvm.Stand Jvm.LawKit Jvm.RoadKit Bundle Jvm.Pilot.@@N@@.Jvm.D
/-- the run from U comes to an end of which P holds -/
def Go (p : Program) (e : Env) (below : List Frame) (P : Outcome → State → Prop) (U : State) : Prop := ∃ s₂ o, Steps p.tables e below U s₂ ∧ s₂.status = .running ∧ Ended s₂ below o ∧ P o s₂
theorem Go.mk {p : Program} {e : Env} {below : List Frame} {P : Outcome → State → Prop} {U : State} (s₂ : State) (o : Outcome) (h1 : Steps p.tables e below U s₂) (h2 : s₂.status = .running) (h3 : Ended s₂ below o) (h4 : P o s₂) : Go p e below P U := ⟨s₂, o, h1, h2, h3, h4⟩
theorem Go.of {p : Program} {e : Env} {below : List Frame} {P : Outcome → State → Prop} {U V : State} (st : ∀ t, Steps p.tables e below V t → Steps p.tables e below U t) (h : Go p e below P V) : Go p e below P U := by
  obtain ⟨s₂, o, h1, h⟩ := h
  exact ⟨s₂, o, st _ h1, h⟩
theorem Go.tr {p : Program} {e : Env} {below : List Frame} {P : Outcome → State → Prop} {U V : State} (st : Steps p.tables e below U V) (h : Go p e below P V) : Go p e below P U := by
  obtain ⟨s₂, o, h1, h⟩ := h
  exact ⟨s₂, o, st.trans h1, h⟩
theorem own_sta {args : Array Value} {s : State} {C n d K : String} (h : (Jvm.Cond.exactly (Term.static C n d) K).value args s none s [] = some true) : ∃ a, (Term.static C n d).eval args s none [] s = some (.ref a) ∧ Exa s s.heap a K := by
  obtain ⟨a, ev⟩ := exa_v h
  exact ⟨a, ev, Exa.start ev h⟩
theorem own_fldI {args : Array Value} {s : State} {t : Term} {a : Addr} {C n d : String} {k : Int32} (ev : t.eval args s none [] s = some (.ref a)) (h : (Jvm.Cond.eq (.field t C n d) (.int k)).value args s none s [] = some true) : Fld s s.heap a C n d (.int k) := by
  obtain ⟨x, y, h1, h2, k1, -⟩ := cmp_v (Or.inl h)
  cases h2
  obtain ⟨z, rfl⟩ : ∃ z, x = .int z := by cases x <;> simp [Kin, Value.isRef] at k1 ⊢
  have e : z = k := gotT (Cond.eq_ints h1 rfl) h
  subst e
  rw [fld_at ev] at h1
  exact Fld.start h1
theorem own_fldR {args : Array Value} {s : State} {t t2 : Term} {a b : Addr} {C n d : String} (ev : t.eval args s none [] s = some (.ref a)) (ev2 : t2.eval args s none [] s = some (.ref b)) (h : (Jvm.Cond.eq (.field t C n d) t2).value args s none s [] = some true) : Fld s s.heap a C n d (.ref b) := by
  obtain ⟨x, y, h1, h2, k1, k2⟩ := cmp_v (Or.inl h)
  cases ev2.symm.trans h2
  have e : x = .ref b := by
    have q := gotT (eq_R h1 h2 (by cases x <;> simp [Kin, Value.isRef] at k1 ⊢) rfl) h
    exact q
  subst e
  rw [fld_at ev] at h1
  exact Fld.start h1
theorem own_Sta_keep {Z : State} {h h' : Heap} {C n d : String} {v : Value} {ws : List Addr} (F : Sta Z h C n d v) (K : Keep h h' ws) (q : ∀ x ∈ ws, ∀ cell : Cell, h[x]? = some cell → cell.vm.isStatics = false) : Sta Z h' C n d v := by
  obtain ⟨cf, i, k, f, st, cell, h1, h2, h3, h4, h5, h6, h7⟩ := F
  exact ⟨cf, i, k, f, st, cell, h1, h2, h3, h4, K.2.1 _ _ h5 (fun z => by have := q st z cell h5; rw [h6] at this; cases this), h6, h7⟩
theorem own_Ins_keep {Z : State} {h h' : Heap} {C : String} {a : Addr} {b : Bool} {ws : List Addr} (F : Ins Z h a C b) (K : Keep h h' ws) : Ins Z h' a C b := by
  obtain ⟨cell, cT, h1, h2, h3⟩ := F
  obtain ⟨c', q1, q2, q3, -⟩ := K.2.2 _ _ h1
  exact ⟨c', cT, q1, h2, by rw [q2, q3]; exact h3⟩
theorem own_p0 {h : Heap} : ∀ x ∈ ([] : List Addr), ∀ cell : Cell, h[x]? = some cell → cell.vm.isStatics = false := fun _ q => nomatch q
theorem own_pS {h : Heap} {y : Addr} {L : List Addr} (q : ∀ cell : Cell, h[y]? = some cell → cell.vm.isStatics = false) (r : ∀ x ∈ L, ∀ cell : Cell, h[x]? = some cell → cell.vm.isStatics = false) : ∀ x ∈ y :: L, ∀ cell : Cell, h[x]? = some cell → cell.vm.isStatics = false := fun x z => (List.mem_cons.mp z).elim (fun u => u ▸ q) (r x)
theorem own_plainE {Z : State} {h : Heap} {a : Addr} {C : String} (F : Exa Z h a C) : ∀ cell : Cell, h[a]? = some cell → cell.vm.isStatics = false := fun cell hc => by
  obtain ⟨c', k, h1, -, -, h4, -⟩ := F
  cases hc.symm.trans h1
  exact h4
theorem own_plainF {Z : State} {h : Heap} {a : Addr} {C n d : String} {v : Value} (F : Fld Z h a C n d v) : ∀ cell : Cell, h[a]? = some cell → cell.vm.isStatics = false := old_plain F
theorem own_plainV {Z : State} {h : Heap} {a : Addr} {k : ClassId} {ty : FieldType} {z : Int32} {vs : List Value} {dv : Value} (F : Arv Z h a k ty z vs dv) : ∀ cell : Cell, h[a]? = some cell → cell.vm.isStatics = false := fun cell hc => by
  obtain ⟨c', A, -⟩ := F
  cases hc.symm.trans A.1
  exact A.plain
theorem own_selpriv {args : Array Value} {s : State} {C : String} {y : MethodName} (h : (Jvm.Cond.selects C y y).before args s = true) (hp : s.PrivateAt y) (hi : (Jvm.Cond.instanceMethod y).before args s = true) (hy : y.cls ≠ "java/lang/invoke/MethodHandle" ∧ y.cls ≠ "java/lang/invoke/VarHandle") : (Jvm.Cond.selects y.cls y y).before args s = true := by
  obtain ⟨c, r, m, -, -, q3, -, k, q4, q5⟩ := Cond.selects_spec h
  exact selects_self_of_private (findClass_of_methodNamed q3) q4 q5 hp hi hy
theorem own_same {args : Array Value} {s : State} {C : String} {x y z : MethodName} (h : (Jvm.Cond.selects C x z).before args s = true) (hc : z.cls = y.cls) (hi : (Jvm.Cond.instanceMethod y).before args s = true) (hy : y.cls ≠ "java/lang/invoke/MethodHandle" ∧ y.cls ≠ "java/lang/invoke/VarHandle") : (Jvm.Cond.sameMethod y.cls y.cls y.name y.desc).before args s = true := by
  obtain ⟨c, r, m, -, -, q3, -, k, q4, q5⟩ := Cond.selects_spec h
  obtain ⟨mk, methM, hnamed, -, -, -⟩ := Cond.instanceMethod_spec hi
  have hfound : s.methodFound? y.cls y.name y.desc = some mk := State.methodFound?_of_named hnamed hy
  have e1 := findClass_of_methodNamed hnamed
  have e2 := findClass_of_methodNamed q3
  rw [hc] at e2
  have e3 : m.cls = mk.cls := Option.some.inj (e2.symm.trans e1)
  rw [e3] at q4
  have hn' : s.methodNamed? ⟨y.cls, y.name, y.desc⟩ = some mk := hnamed
  simp [Cond.before, Cond.holds, Cond.value, e1, hfound, hn', q4, q5]
theorem own_nf {args : Array Value} {s : State} {C : String} {x y z : MethodName} (h : (Jvm.Cond.selects C x z).before args s = true) (hc : z.cls = y.cls) : NotFace s y := fun r0 h0 => by
  obtain ⟨c, r, m, -, -, q3, -, k, q4, q5⟩ := Cond.selects_spec h
  have e1 := findClass_of_methodNamed h0
  have e2 := findClass_of_methodNamed q3
  rw [hc] at e2
  have e3 : m.cls = r0.cls := Option.some.inj (e2.symm.trans e1)
  rw [e3] at q4
  exact ⟨k, q4, q5⟩
theorem d1_0 : decode prog_26_method_12_code 0 = .ok (.iload_n 1, 1) := by decide +kernel
theorem d1_1 : decode prog_26_method_12_code 1 = .ok (.aload_n 0, 1) := by decide +kernel
theorem d1_2 : decode prog_26_method_12_code 2 = .ok (.getfield 111, 3) := by decide +kernel
theorem d1_5 : decode prog_26_method_12_code 5 = .ok (.if_icmp .lt 15, 3) := by decide +kernel
theorem d1_20 : decode prog_26_method_12_code 20 = .ok (.iconst 0, 1) := by decide +kernel
theorem d1_21 : decode prog_26_method_12_code 21 = .ok (.ireturn, 1) := by decide +kernel
theorem pn_com_example_tallyset_tallyset_Operator : plainName "com/example/tallyset/tallyset/Operator" = true := by first | (simp [plainName, overriddenIn]; done) | decide +kernel
theorem ef_1 (m : MethodId) (x0 : Addr) (x1 : Int32) : entryFrame m #[(.ref x0), (.int x1)] 2 = mkF m 0 #[.val (.ref x0), .val (.int x1)] [] := by first | (simp [entryFrame, mkF, argsToLocals, Value.category]; done) | rfl
def Q1_lo (Z : State) (o0 : Addr) (p1 : Int32) (f_o0_minOperands : Int32) (h0 : Heap) (n0 : Nat) (v : Option Value) (h : Heap) (L : List Loc) : Prop := v = some (.int (0 : Int32)) ∧ Fr n0 L ∧ h = h0
set_option maxRecDepth 65536 in
set_option maxHeartbeats 40000000 in
theorem rm1_lo (l : Launch) (Z : State) (a0 : Array Value) (hw : ∀ d ∈ tables_1, d.before a0 Z = true) (ws : List Jvm.Cond) (o0 : Addr) (p1 : Int32) (f_o0_minOperands : Int32) (h0 : Heap) (n0 : Nat) (Z0 : n0 ≤ h0.size) (F_o0_minOperands : Fld Z h0 o0 "com/example/tallyset/tallyset/Operator" "minOperands" "I" (.int f_o0_minOperands)) (hc5 : p1 < f_o0_minOperands) :
    MetFree l (⟨"com/example/tallyset/tallyset/Operator", "takes", "(I)Z"⟩ : MethodName) (head1 (Jvm.Cond.code (⟨"com/example/tallyset/tallyset/Operator", "takes", "(I)Z"⟩ : MethodName) prog_26_method_12_code 2 (some .boolean) :: ws) ({ frames := 0, cells := 0, slots := 0, locals := 0 } : Room)) (fun a U => a = #[(.ref o0), (.int p1)] ∧ Z.Warmed39 U.vm ∧ U.heap = h0) (fun _ _ _ _ _ => True) (fun _ U o U' => ∃ v L, o = .returned v ∧ Q1_lo Z o0 p1 f_o0_minOperands h0 n0 v U'.heap L ∧ FrameEnd U o U' L ({ frames := 0, cells := 0, slots := 0, locals := 0 } : Room).cells ({ frames := 0, cells := 0, slots := 0, locals := 0 } : Room).slots) := by
  refine MetFree.of_bodySF (plainFor_of_name pn_com_example_tallyset_tallyset_Operator) hisR ?_
  intro p e s m args below meth c s₁ Bd hml0 hP hK
  obtain ⟨rfl, hZ, hh⟩ := hP
  have hx := Bd.exec
  have hby := Bd.bytes
  have hml : c.maxLocals = 2 := hml0
  have hown : s.vm.findClass "com/example/tallyset/tallyset/Operator" = some m.cls := findClass_of_methodNamed Bd.named
  have hnm := (name_of_methodNamed Bd.named Bd.method).1
  have X0 : Stand p l e ({ frames := 0, cells := 0, slots := 0, locals := 0 } : Room) s m #[(.ref o0), (.int p1)] below meth c s₁ [] 0 0 := Stand.of_body Bd
  have e0 : s₁.heap = h0 := by rw [← hh, Bd.state]; rfl
  have N0 := Fr.nil n0
  show Go p e below (fun o U' => ∃ v L, o = .returned v ∧ Q1_lo Z o0 p1 f_o0_minOperands h0 n0 v U'.heap L ∧ FrameEnd s o U' L ({ frames := 0, cells := 0, slots := 0, locals := 0 } : Room).cells ({ frames := 0, cells := 0, slots := 0, locals := 0 } : Room).slots) (s₁.setTop (entryFrame m #[(.ref o0), (.int p1)] 2))
  refine Go.of (fun _ k => castTop (ef_1 m o0 p1) k) ?_
  show Go p e below _ (s₁.setTop (mkF m 0 #[.val (.ref o0), .val (.int p1)] []))
  refine Go.of (fun _ k => XS.iloadN X0.here hx rfl (hb hby d1_0) rfl  k) ?_
  show Go p e below _ (s₁.setTop (mkF m 1 #[.val (.ref o0), .val (.int p1)] [(.int p1)]))
  refine Go.of (fun _ k => XS.aloadN X0.here hx rfl (hb hby d1_1) rfl rfl k) ?_
  show Go p e below _ (s₁.setTop (mkF m 2 #[.val (.ref o0), .val (.int p1)] [(.ref o0), (.int p1)]))
  obtain ⟨T1, X1, e1, st1⟩ := getF X0 hx hZ hown (host := "") (Or.inl (hw _ (List.mem_of_getElem? (i := 9) rfl))) Via.refl e0 F_o0_minOperands (g := (mkF m 2 #[.val (.ref o0), .val (.int p1)] [(.ref o0), (.int p1)])) rfl rfl (hb hby d1_2)
  refine Go.of st1 ?_
  show Go p e below _ (T1.setTop (mkF m 5 #[.val (.ref o0), .val (.int p1)] [(.int f_o0_minOperands), (.int p1)]))
  refine Go.of (fun _ k => XS.icmpYes X1.here hx rfl (pc0 := 5) (pc' := 20) rfl (hb hby d1_5) rfl (tlt hc5).1 (by decide) (by decide) k) ?_
  show Go p e below _ (T1.setTop (mkF m 20 #[.val (.ref o0), .val (.int p1)] []))
  refine Go.of (fun _ k => XS.iconst X1.here hx rfl (hb hby d1_20) k) ?_
  show Go p e below _ (T1.setTop (mkF m 21 #[.val (.ref o0), .val (.int p1)] [(.int (0 : Int32))]))
  obtain ⟨fs, hr, hrun, hended, hW, hsame⟩ := X1.leave (v := some (.int (0 : Int32))) (fun h => by rw [Bd.returns] at h; cases h)
  refine Go.mk _ _ ?_ hrun hended ⟨_, _, rfl, ?_, ⟨_, rfl⟩, hW, hsame.mono (by decide) (by decide)⟩
  · exact retN X1 hx (t := .boolean) Bd.returns (by simp) (hb hby d1_21) hr
  · show Q1_lo Z o0 p1 f_o0_minOperands h0 n0 _ T1.heap _
    rw [e1]
    exact ⟨rfl, N0, rfl⟩
theorem d1_8 : decode prog_26_method_12_code 8 = .ok (.iload_n 1, 1) := by decide +kernel
theorem d1_9 : decode prog_26_method_12_code 9 = .ok (.aload_n 0, 1) := by decide +kernel
theorem d1_10 : decode prog_26_method_12_code 10 = .ok (.getfield 115, 3) := by decide +kernel
theorem d1_13 : decode prog_26_method_12_code 13 = .ok (.if_icmp .gt 7, 3) := by decide +kernel
def Q1_hi (Z : State) (o0 : Addr) (p1 : Int32) (f_o0_minOperands : Int32) (f_o0_maxOperands : Int32) (h0 : Heap) (n0 : Nat) (v : Option Value) (h : Heap) (L : List Loc) : Prop := v = some (.int (0 : Int32)) ∧ Fr n0 L ∧ h = h0
set_option maxRecDepth 65536 in
set_option maxHeartbeats 40000000 in
theorem rm1_hi (l : Launch) (Z : State) (a0 : Array Value) (hw : ∀ d ∈ tables_1, d.before a0 Z = true) (ws : List Jvm.Cond) (o0 : Addr) (p1 : Int32) (f_o0_minOperands : Int32) (f_o0_maxOperands : Int32) (h0 : Heap) (n0 : Nat) (Z0 : n0 ≤ h0.size) (F_o0_minOperands : Fld Z h0 o0 "com/example/tallyset/tallyset/Operator" "minOperands" "I" (.int f_o0_minOperands)) (hc5 : ¬ (p1 < f_o0_minOperands)) (F_o0_maxOperands : Fld Z h0 o0 "com/example/tallyset/tallyset/Operator" "maxOperands" "I" (.int f_o0_maxOperands)) (hc13 : f_o0_maxOperands < p1) :
    MetFree l (⟨"com/example/tallyset/tallyset/Operator", "takes", "(I)Z"⟩ : MethodName) (head1 (Jvm.Cond.code (⟨"com/example/tallyset/tallyset/Operator", "takes", "(I)Z"⟩ : MethodName) prog_26_method_12_code 2 (some .boolean) :: ws) ({ frames := 0, cells := 0, slots := 0, locals := 0 } : Room)) (fun a U => a = #[(.ref o0), (.int p1)] ∧ Z.Warmed39 U.vm ∧ U.heap = h0) (fun _ _ _ _ _ => True) (fun _ U o U' => ∃ v L, o = .returned v ∧ Q1_hi Z o0 p1 f_o0_minOperands f_o0_maxOperands h0 n0 v U'.heap L ∧ FrameEnd U o U' L ({ frames := 0, cells := 0, slots := 0, locals := 0 } : Room).cells ({ frames := 0, cells := 0, slots := 0, locals := 0 } : Room).slots) := by
  refine MetFree.of_bodySF (plainFor_of_name pn_com_example_tallyset_tallyset_Operator) hisR ?_
  intro p e s m args below meth c s₁ Bd hml0 hP hK
  obtain ⟨rfl, hZ, hh⟩ := hP
  have hx := Bd.exec
  have hby := Bd.bytes
  have hml : c.maxLocals = 2 := hml0
  have hown : s.vm.findClass "com/example/tallyset/tallyset/Operator" = some m.cls := findClass_of_methodNamed Bd.named
  have hnm := (name_of_methodNamed Bd.named Bd.method).1
  have X0 : Stand p l e ({ frames := 0, cells := 0, slots := 0, locals := 0 } : Room) s m #[(.ref o0), (.int p1)] below meth c s₁ [] 0 0 := Stand.of_body Bd
  have e0 : s₁.heap = h0 := by rw [← hh, Bd.state]; rfl
  have N0 := Fr.nil n0
  show Go p e below (fun o U' => ∃ v L, o = .returned v ∧ Q1_hi Z o0 p1 f_o0_minOperands f_o0_maxOperands h0 n0 v U'.heap L ∧ FrameEnd s o U' L ({ frames := 0, cells := 0, slots := 0, locals := 0 } : Room).cells ({ frames := 0, cells := 0, slots := 0, locals := 0 } : Room).slots) (s₁.setTop (entryFrame m #[(.ref o0), (.int p1)] 2))
  refine Go.of (fun _ k => castTop (ef_1 m o0 p1) k) ?_
  show Go p e below _ (s₁.setTop (mkF m 0 #[.val (.ref o0), .val (.int p1)] []))
  refine Go.of (fun _ k => XS.iloadN X0.here hx rfl (hb hby d1_0) rfl  k) ?_
  show Go p e below _ (s₁.setTop (mkF m 1 #[.val (.ref o0), .val (.int p1)] [(.int p1)]))
  refine Go.of (fun _ k => XS.aloadN X0.here hx rfl (hb hby d1_1) rfl rfl k) ?_
  show Go p e below _ (s₁.setTop (mkF m 2 #[.val (.ref o0), .val (.int p1)] [(.ref o0), (.int p1)]))
  obtain ⟨T1, X1, e1, st1⟩ := getF X0 hx hZ hown (host := "") (Or.inl (hw _ (List.mem_of_getElem? (i := 9) rfl))) Via.refl e0 F_o0_minOperands (g := (mkF m 2 #[.val (.ref o0), .val (.int p1)] [(.ref o0), (.int p1)])) rfl rfl (hb hby d1_2)
  refine Go.of st1 ?_
  show Go p e below _ (T1.setTop (mkF m 5 #[.val (.ref o0), .val (.int p1)] [(.int f_o0_minOperands), (.int p1)]))
  refine Go.of (fun _ k => XS.icmpNo X1.here hx rfl (hb hby d1_5) rfl (flt hc5).1 k) ?_
  show Go p e below _ (T1.setTop (mkF m 8 #[.val (.ref o0), .val (.int p1)] []))
  refine Go.of (fun _ k => XS.iloadN X1.here hx rfl (hb hby d1_8) rfl  k) ?_
  show Go p e below _ (T1.setTop (mkF m 9 #[.val (.ref o0), .val (.int p1)] [(.int p1)]))
  refine Go.of (fun _ k => XS.aloadN X1.here hx rfl (hb hby d1_9) rfl rfl k) ?_
  show Go p e below _ (T1.setTop (mkF m 10 #[.val (.ref o0), .val (.int p1)] [(.ref o0), (.int p1)]))
  obtain ⟨T2, X2, e2, st2⟩ := getF X1 hx hZ hown (host := "") (Or.inl (hw _ (List.mem_of_getElem? (i := 11) rfl))) Via.refl e1 F_o0_maxOperands (g := (mkF m 10 #[.val (.ref o0), .val (.int p1)] [(.ref o0), (.int p1)])) rfl rfl (hb hby d1_10)
  refine Go.of st2 ?_
  show Go p e below _ (T2.setTop (mkF m 13 #[.val (.ref o0), .val (.int p1)] [(.int f_o0_maxOperands), (.int p1)]))
  refine Go.of (fun _ k => XS.icmpYes X2.here hx rfl (pc0 := 13) (pc' := 20) rfl (hb hby d1_13) rfl (tlt hc13).2.2.1 (by decide) (by decide) k) ?_
  show Go p e below _ (T2.setTop (mkF m 20 #[.val (.ref o0), .val (.int p1)] []))
  refine Go.of (fun _ k => XS.iconst X2.here hx rfl (hb hby d1_20) k) ?_
  show Go p e below _ (T2.setTop (mkF m 21 #[.val (.ref o0), .val (.int p1)] [(.int (0 : Int32))]))
  obtain ⟨fs, hr, hrun, hended, hW, hsame⟩ := X2.leave (v := some (.int (0 : Int32))) (fun h => by rw [Bd.returns] at h; cases h)
  refine Go.mk _ _ ?_ hrun hended ⟨_, _, rfl, ?_, ⟨_, rfl⟩, hW, hsame.mono (by decide) (by decide)⟩
  · exact retN X2 hx (t := .boolean) Bd.returns (by simp) (hb hby d1_21) hr
  · show Q1_hi Z o0 p1 f_o0_minOperands f_o0_maxOperands h0 n0 _ T2.heap _
    rw [e2]
    exact ⟨rfl, N0, rfl⟩
theorem d1_16 : decode prog_26_method_12_code 16 = .ok (.iconst 1, 1) := by decide +kernel
theorem d1_17 : decode prog_26_method_12_code 17 = .ok (.goto 4, 3) := by decide +kernel
def Q1_ok (Z : State) (o0 : Addr) (p1 : Int32) (f_o0_minOperands : Int32) (f_o0_maxOperands : Int32) (h0 : Heap) (n0 : Nat) (v : Option Value) (h : Heap) (L : List Loc) : Prop := v = some (.int (1 : Int32)) ∧ Fr n0 L ∧ h = h0
set_option maxRecDepth 65536 in
set_option maxHeartbeats 40000000 in
theorem rm1_ok (l : Launch) (Z : State) (a0 : Array Value) (hw : ∀ d ∈ tables_1, d.before a0 Z = true) (ws : List Jvm.Cond) (o0 : Addr) (p1 : Int32) (f_o0_minOperands : Int32) (f_o0_maxOperands : Int32) (h0 : Heap) (n0 : Nat) (Z0 : n0 ≤ h0.size) (F_o0_minOperands : Fld Z h0 o0 "com/example/tallyset/tallyset/Operator" "minOperands" "I" (.int f_o0_minOperands)) (hc5 : ¬ (p1 < f_o0_minOperands)) (F_o0_maxOperands : Fld Z h0 o0 "com/example/tallyset/tallyset/Operator" "maxOperands" "I" (.int f_o0_maxOperands)) (hc13 : ¬ (f_o0_maxOperands < p1)) :
    MetFree l (⟨"com/example/tallyset/tallyset/Operator", "takes", "(I)Z"⟩ : MethodName) (head1 (Jvm.Cond.code (⟨"com/example/tallyset/tallyset/Operator", "takes", "(I)Z"⟩ : MethodName) prog_26_method_12_code 2 (some .boolean) :: ws) ({ frames := 0, cells := 0, slots := 0, locals := 0 } : Room)) (fun a U => a = #[(.ref o0), (.int p1)] ∧ Z.Warmed39 U.vm ∧ U.heap = h0) (fun _ _ _ _ _ => True) (fun _ U o U' => ∃ v L, o = .returned v ∧ Q1_ok Z o0 p1 f_o0_minOperands f_o0_maxOperands h0 n0 v U'.heap L ∧ FrameEnd U o U' L ({ frames := 0, cells := 0, slots := 0, locals := 0 } : Room).cells ({ frames := 0, cells := 0, slots := 0, locals := 0 } : Room).slots) := by
  refine MetFree.of_bodySF (plainFor_of_name pn_com_example_tallyset_tallyset_Operator) hisR ?_
  intro p e s m args below meth c s₁ Bd hml0 hP hK
  obtain ⟨rfl, hZ, hh⟩ := hP
  have hx := Bd.exec
  have hby := Bd.bytes
  have hml : c.maxLocals = 2 := hml0
  have hown : s.vm.findClass "com/example/tallyset/tallyset/Operator" = some m.cls := findClass_of_methodNamed Bd.named
  have hnm := (name_of_methodNamed Bd.named Bd.method).1
  have X0 : Stand p l e ({ frames := 0, cells := 0, slots := 0, locals := 0 } : Room) s m #[(.ref o0), (.int p1)] below meth c s₁ [] 0 0 := Stand.of_body Bd
  have e0 : s₁.heap = h0 := by rw [← hh, Bd.state]; rfl
  have N0 := Fr.nil n0
  show Go p e below (fun o U' => ∃ v L, o = .returned v ∧ Q1_ok Z o0 p1 f_o0_minOperands f_o0_maxOperands h0 n0 v U'.heap L ∧ FrameEnd s o U' L ({ frames := 0, cells := 0, slots := 0, locals := 0 } : Room).cells ({ frames := 0, cells := 0, slots := 0, locals := 0 } : Room).slots) (s₁.setTop (entryFrame m #[(.ref o0), (.int p1)] 2))
  refine Go.of (fun _ k => castTop (ef_1 m o0 p1) k) ?_
  show Go p e below _ (s₁.setTop (mkF m 0 #[.val (.ref o0), .val (.int p1)] []))
  refine Go.of (fun _ k => XS.iloadN X0.here hx rfl (hb hby d1_0) rfl  k) ?_
  show Go p e below _ (s₁.setTop (mkF m 1 #[.val (.ref o0), .val (.int p1)] [(.int p1)]))
  refine Go.of (fun _ k => XS.aloadN X0.here hx rfl (hb hby d1_1) rfl rfl k) ?_
  show Go p e below _ (s₁.setTop (mkF m 2 #[.val (.ref o0), .val (.int p1)] [(.ref o0), (.int p1)]))
  obtain ⟨T1, X1, e1, st1⟩ := getF X0 hx hZ hown (host := "") (Or.inl (hw _ (List.mem_of_getElem? (i := 9) rfl))) Via.refl e0 F_o0_minOperands (g := (mkF m 2 #[.val (.ref o0), .val (.int p1)] [(.ref o0), (.int p1)])) rfl rfl (hb hby d1_2)
  refine Go.of st1 ?_
  show Go p e below _ (T1.setTop (mkF m 5 #[.val (.ref o0), .val (.int p1)] [(.int f_o0_minOperands), (.int p1)]))
  refine Go.of (fun _ k => XS.icmpNo X1.here hx rfl (hb hby d1_5) rfl (flt hc5).1 k) ?_
  show Go p e below _ (T1.setTop (mkF m 8 #[.val (.ref o0), .val (.int p1)] []))
  refine Go.of (fun _ k => XS.iloadN X1.here hx rfl (hb hby d1_8) rfl  k) ?_
  show Go p e below _ (T1.setTop (mkF m 9 #[.val (.ref o0), .val (.int p1)] [(.int p1)]))
  refine Go.of (fun _ k => XS.aloadN X1.here hx rfl (hb hby d1_9) rfl rfl k) ?_
  show Go p e below _ (T1.setTop (mkF m 10 #[.val (.ref o0), .val (.int p1)] [(.ref o0), (.int p1)]))
  obtain ⟨T2, X2, e2, st2⟩ := getF X1 hx hZ hown (host := "") (Or.inl (hw _ (List.mem_of_getElem? (i := 11) rfl))) Via.refl e1 F_o0_maxOperands (g := (mkF m 10 #[.val (.ref o0), .val (.int p1)] [(.ref o0), (.int p1)])) rfl rfl (hb hby d1_10)
  refine Go.of st2 ?_
  show Go p e below _ (T2.setTop (mkF m 13 #[.val (.ref o0), .val (.int p1)] [(.int f_o0_maxOperands), (.int p1)]))
  refine Go.of (fun _ k => XS.icmpNo X2.here hx rfl (hb hby d1_13) rfl (flt hc13).2.2.1 k) ?_
  show Go p e below _ (T2.setTop (mkF m 16 #[.val (.ref o0), .val (.int p1)] []))
  refine Go.of (fun _ k => XS.iconst X2.here hx rfl (hb hby d1_16) k) ?_
  show Go p e below _ (T2.setTop (mkF m 17 #[.val (.ref o0), .val (.int p1)] [(.int (1 : Int32))]))
  refine Go.of (fun _ k => XS.goto X2.here hx rfl (pc0 := 17) (pc' := 21) rfl (hb hby d1_17) (by decide) (by decide) k) ?_
  show Go p e below _ (T2.setTop (mkF m 21 #[.val (.ref o0), .val (.int p1)] [(.int (1 : Int32))]))
  obtain ⟨fs, hr, hrun, hended, hW, hsame⟩ := X2.leave (v := some (.int (1 : Int32))) (fun h => by rw [Bd.returns] at h; cases h)
  refine Go.mk _ _ ?_ hrun hended ⟨_, _, rfl, ?_, ⟨_, rfl⟩, hW, hsame.mono (by decide) (by decide)⟩
  · exact retN X2 hx (t := .boolean) Bd.returns (by simp) (hb hby d1_21) hr
  · show Q1_ok Z o0 p1 f_o0_minOperands f_o0_maxOperands h0 n0 _ T2.heap _
    rw [e2]
    exact ⟨rfl, N0, rfl⟩
theorem pd_0 : parseMethodDescriptor "(I)Z" = some ⟨[.int], some .boolean⟩ := by decide +kernel
theorem own_i0 (p : Int32) (h0 : ¬ (p = (2 : Int32))) (h1 : ¬ (p = (3 : Int32))) (h2 : ¬ (p < (2 : Int32))) : (3 : Int32) < p := by
  simp only [Int32.lt_iff_toInt_lt, ← Int32.toInt_inj, Int32.reduceToInt] at *
  have := rng32 p
  omega
theorem own_i1 (p : Int32) (h0 : ¬ (p = (1 : Int32))) (h1 : ¬ (p < (1 : Int32))) : (1 : Int32) < p := by
  simp only [Int32.lt_iff_toInt_lt, ← Int32.toInt_inj, Int32.reduceToInt] at *
  have := rng32 p
  omega
theorem own_i2 (p : Int32) (h0 : ¬ (p < (1 : Int32))) : ¬ ((2147483647 : Int32) < p) := by
  simp only [Int32.lt_iff_toInt_lt, ← Int32.toInt_inj, Int32.reduceToInt] at *
  have := rng32 p
  omega
theorem pn_com_example_tallyset_tallyset_OperatorTakesPinLaw : plainName "com/example/tallyset/tallyset/OperatorTakesPinLaw" = true := by first | (simp [plainName, overriddenIn]; done) | decide +kernel
theorem ef_0 (m : MethodId) (x0 : Int32) (x1 : Int32) : entryFrame m #[(.int x0), (.int x1)] maxLocals = mkF m 0 #[.val (.int x0), .val (.int x1), .unset, .unset, .unset] [] := by first | (simp [entryFrame, mkF, argsToLocals, Value.category, maxLocals]; done) | rfl
def Q0 (Z : State) (p0 : Int32) (p1 : Int32) (w_SUBSTR : Addr) (w_UPPER : Addr) (w_LOWER : Addr) (w_LENGTH : Addr) (w_ABS : Addr) (w_COALESCE : Addr) (h0 : Heap) (n0 : Nat) (v : Option Value) (h : Heap) (L : List Loc) : Prop := v = some (.int (1 : Int32)) ∧ Fr n0 L
set_option maxRecDepth 65536 in
set_option maxHeartbeats 40000000 in
theorem rm0 (l : Launch) (Z : State) (a0 : Array Value) (hw : ∀ d ∈ tables_1, d.before a0 Z = true) (ws : List Jvm.Cond) (p0 : Int32) (p1 : Int32) (w_SUBSTR : Addr) (w_UPPER : Addr) (w_LOWER : Addr) (w_LENGTH : Addr) (w_ABS : Addr) (w_COALESCE : Addr) (h0 : Heap) (n0 : Nat) (Z0 : n0 ≤ h0.size) (S_SUBSTR : Sta Z h0 "com/example/tallyset/tallyset/Operator" "SUBSTR" "Lcom/example/tallyset/tallyset/Operator;" (.ref w_SUBSTR)) (F_w_SUBSTR_minOperands : Fld Z h0 w_SUBSTR "com/example/tallyset/tallyset/Operator" "minOperands" "I" (.int (2 : Int32))) (F_w_SUBSTR_maxOperands : Fld Z h0 w_SUBSTR "com/example/tallyset/tallyset/Operator" "maxOperands" "I" (.int (3 : Int32))) (E_w_SUBSTR : Exa Z h0 w_SUBSTR "com/example/tallyset/tallyset/Operator") (S_UPPER : Sta Z h0 "com/example/tallyset/tallyset/Operator" "UPPER" "Lcom/example/tallyset/tallyset/Operator;" (.ref w_UPPER)) (F_w_UPPER_minOperands : Fld Z h0 w_UPPER "com/example/tallyset/tallyset/Operator" "minOperands" "I" (.int (1 : Int32))) (F_w_UPPER_maxOperands : Fld Z h0 w_UPPER "com/example/tallyset/tallyset/Operator" "maxOperands" "I" (.int (1 : Int32))) (E_w_UPPER : Exa Z h0 w_UPPER "com/example/tallyset/tallyset/Operator") (S_LOWER : Sta Z h0 "com/example/tallyset/tallyset/Operator" "LOWER" "Lcom/example/tallyset/tallyset/Operator;" (.ref w_LOWER)) (F_w_LOWER_minOperands : Fld Z h0 w_LOWER "com/example/tallyset/tallyset/Operator" "minOperands" "I" (.int (1 : Int32))) (F_w_LOWER_maxOperands : Fld Z h0 w_LOWER "com/example/tallyset/tallyset/Operator" "maxOperands" "I" (.int (1 : Int32))) (E_w_LOWER : Exa Z h0 w_LOWER "com/example/tallyset/tallyset/Operator") (S_LENGTH : Sta Z h0 "com/example/tallyset/tallyset/Operator" "LENGTH" "Lcom/example/tallyset/tallyset/Operator;" (.ref w_LENGTH)) (F_w_LENGTH_minOperands : Fld Z h0 w_LENGTH "com/example/tallyset/tallyset/Operator" "minOperands" "I" (.int (1 : Int32))) (F_w_LENGTH_maxOperands : Fld Z h0 w_LENGTH "com/example/tallyset/tallyset/Operator" "maxOperands" "I" (.int (1 : Int32))) (E_w_LENGTH : Exa Z h0 w_LENGTH "com/example/tallyset/tallyset/Operator") (S_ABS : Sta Z h0 "com/example/tallyset/tallyset/Operator" "ABS" "Lcom/example/tallyset/tallyset/Operator;" (.ref w_ABS)) (F_w_ABS_minOperands : Fld Z h0 w_ABS "com/example/tallyset/tallyset/Operator" "minOperands" "I" (.int (1 : Int32))) (F_w_ABS_maxOperands : Fld Z h0 w_ABS "com/example/tallyset/tallyset/Operator" "maxOperands" "I" (.int (1 : Int32))) (E_w_ABS : Exa Z h0 w_ABS "com/example/tallyset/tallyset/Operator") (S_COALESCE : Sta Z h0 "com/example/tallyset/tallyset/Operator" "COALESCE" "Lcom/example/tallyset/tallyset/Operator;" (.ref w_COALESCE)) (F_w_COALESCE_minOperands : Fld Z h0 w_COALESCE "com/example/tallyset/tallyset/Operator" "minOperands" "I" (.int (1 : Int32))) (E_w_COALESCE : Exa Z h0 w_COALESCE "com/example/tallyset/tallyset/Operator") (F_w_COALESCE_maxOperands : Fld Z h0 w_COALESCE "com/example/tallyset/tallyset/Operator" "maxOperands" "I" (.int (2147483647 : Int32))) :
    MetFree l x (head1 (Jvm.Cond.code x code maxLocals ret :: ws) room_1) (fun a U => a = #[(.int p0), (.int p1)] ∧ Z.Warmed39 U.vm ∧ U.heap = h0) (fun _ _ _ _ _ => True) (fun _ U o U' => ∃ v L, o = .returned v ∧ Q0 Z p0 p1 w_SUBSTR w_UPPER w_LOWER w_LENGTH w_ABS w_COALESCE h0 n0 v U'.heap L ∧ FrameEnd U o U' L room_1.cells room_1.slots) := by
  refine MetFree.of_bodySF (plainFor_of_name pn_com_example_tallyset_tallyset_OperatorTakesPinLaw) hisR ?_
  intro p e s m args below meth c s₁ Bd hml0 hP hK
  obtain ⟨rfl, hZ, hh⟩ := hP
  have hx := Bd.exec
  have hby := Bd.bytes
  have hml : c.maxLocals = 5 := hml0
  have hown : s.vm.findClass "com/example/tallyset/tallyset/OperatorTakesPinLaw" = some m.cls := findClass_of_methodNamed Bd.named
  have hnm := (name_of_methodNamed Bd.named Bd.method).1
  have X0 : Stand p l e room_1 s m #[(.int p0), (.int p1)] below meth c s₁ [] 0 0 := Stand.of_body Bd
  have e0 : s₁.heap = h0 := by rw [← hh, Bd.state]; rfl
  have N0 := Fr.nil n0
  show Go p e below (fun o U' => ∃ v L, o = .returned v ∧ Q0 Z p0 p1 w_SUBSTR w_UPPER w_LOWER w_LENGTH w_ABS w_COALESCE h0 n0 v U'.heap L ∧ FrameEnd s o U' L room_1.cells room_1.slots) (s₁.setTop (entryFrame m #[(.int p0), (.int p1)] maxLocals))
  refine Go.of (fun _ k => castTop (ef_0 m p0 p1) k) ?_
  show Go p e below _ (s₁.setTop (mkF m 0 #[.val (.int p0), .val (.int p1), .unset, .unset, .unset] []))
  refine Go.of (fun _ k => XS.iloadN X0.here hx rfl (hb hby at_0) rfl  k) ?_
  show Go p e below _ (s₁.setTop (mkF m 1 #[.val (.int p0), .val (.int p1), .unset, .unset, .unset] [(.int p0)]))
  refine Go.of (fun _ k => X0.ldcInt hx hown (mvT hZ (hw _ (List.mem_of_getElem? (i := 0) rfl))) (g := (mkF m 1 #[.val (.int p0), .val (.int p1), .unset, .unset, .unset] [(.int p0)])) rfl (hb hby at_1) _ k) ?_
  show Go p e below _ (s₁.setTop (mkF m 3 #[.val (.int p0), .val (.int p1), .unset, .unset, .unset] [(.int (2147483647 : Int32)), (.int p0)]))
  refine Go.of (fun _ k => XS.iand X0.here hx rfl (hb hby at_3) rfl k) ?_
  show Go p e below _ (s₁.setTop (mkF m 4 #[.val (.int p0), .val (.int p1), .unset, .unset, .unset] [(.int (p0 &&& (2147483647 : Int32)))]))
  refine Go.of (fun _ k => XS.bipush X0.here hx rfl (hb hby at_4) k) ?_
  show Go p e below _ (s₁.setTop (mkF m 6 #[.val (.int p0), .val (.int p1), .unset, .unset, .unset] [(.int (6 : Int32)), (.int (p0 &&& (2147483647 : Int32)))]))
  refine Go.of (fun _ k => iremM X0 hx rfl (hb hby at_6) rfl (by decide) k) ?_
  show Go p e below _ (s₁.setTop (mkF m 7 #[.val (.int p0), .val (.int p1), .unset, .unset, .unset] [(.int ((p0 &&& (2147483647 : Int32)) % (6 : Int32)))]))
  refine Go.of (fun _ k => XS.istoreN X0.here hx rfl (hb hby at_7) rfl (l' := #[.val (.int p0), .val (.int p1), .val (.int ((p0 &&& (2147483647 : Int32)) % (6 : Int32))), .unset, .unset]) rfl k) ?_
  show Go p e below _ (s₁.setTop (mkF m 8 #[.val (.int p0), .val (.int p1), .val (.int ((p0 &&& (2147483647 : Int32)) % (6 : Int32))), .unset, .unset] []))
  refine Go.of (fun _ k => XS.iloadN X0.here hx rfl (hb hby at_8) rfl  k) ?_
  show Go p e below _ (s₁.setTop (mkF m 9 #[.val (.int p0), .val (.int p1), .val (.int ((p0 &&& (2147483647 : Int32)) % (6 : Int32))), .unset, .unset] [(.int ((p0 &&& (2147483647 : Int32)) % (6 : Int32)))]))
  by_cases hc1 : ((p0 &&& (2147483647 : Int32)) % (6 : Int32)) = (0 : Int32)
  ·
    refine Go.of (fun _ k => XS.ifNo X0.here hx rfl (hb hby at_9) rfl ((if0 _ _).trans (teq hc1).2) k) ?_
    show Go p e below _ (s₁.setTop (mkF m 12 #[.val (.int p0), .val (.int p1), .val (.int ((p0 &&& (2147483647 : Int32)) % (6 : Int32))), .unset, .unset] []))
    obtain ⟨T2, X2, e2, st2⟩ := getS2 X0 hx hZ hown (host := "") (Or.inl (hw _ (List.mem_of_getElem? (i := 1) rfl))) Via.refl e0 S_SUBSTR (g := (mkF m 12 #[.val (.int p0), .val (.int p1), .val (.int ((p0 &&& (2147483647 : Int32)) % (6 : Int32))), .unset, .unset] [])) rfl (hb hby at_12)
    refine Go.of st2 ?_
    show Go p e below _ (T2.setTop (mkF m 15 #[.val (.int p0), .val (.int p1), .val (.int ((p0 &&& (2147483647 : Int32)) % (6 : Int32))), .unset, .unset] [(.ref w_SUBSTR)]))
    refine Go.of (fun _ k => XS.astoreN X2.here hx rfl (hb hby at_15) rfl rfl (l' := #[.val (.int p0), .val (.int p1), .val (.int ((p0 &&& (2147483647 : Int32)) % (6 : Int32))), .val (.ref w_SUBSTR), .unset]) rfl k) ?_
    show Go p e below _ (T2.setTop (mkF m 16 #[.val (.int p0), .val (.int p1), .val (.int ((p0 &&& (2147483647 : Int32)) % (6 : Int32))), .val (.ref w_SUBSTR), .unset] []))
    refine Go.of (fun _ k => XS.iloadN X2.here hx rfl (hb hby at_16) rfl  k) ?_
    show Go p e below _ (T2.setTop (mkF m 17 #[.val (.int p0), .val (.int p1), .val (.int ((p0 &&& (2147483647 : Int32)) % (6 : Int32))), .val (.ref w_SUBSTR), .unset] [(.int p1)]))
    refine Go.of (fun _ k => XS.iconst X2.here hx rfl (hb hby at_17) k) ?_
    show Go p e below _ (T2.setTop (mkF m 18 #[.val (.int p0), .val (.int p1), .val (.int ((p0 &&& (2147483647 : Int32)) % (6 : Int32))), .val (.ref w_SUBSTR), .unset] [(.int (2 : Int32)), (.int p1)]))
    by_cases hc3 : p1 = (2 : Int32)
    ·
      refine Go.of (fun _ k => XS.icmpYes X2.here hx rfl (pc0 := 18) (pc' := 26) rfl (hb hby at_18) rfl (teq hc3).1 (by decide) (by decide) k) ?_
      show Go p e below _ (T2.setTop (mkF m 26 #[.val (.int p0), .val (.int p1), .val (.int ((p0 &&& (2147483647 : Int32)) % (6 : Int32))), .val (.ref w_SUBSTR), .unset] []))
      refine Go.of (fun _ k => XS.iconst X2.here hx rfl (hb hby at_26) k) ?_
      show Go p e below _ (T2.setTop (mkF m 27 #[.val (.int p0), .val (.int p1), .val (.int ((p0 &&& (2147483647 : Int32)) % (6 : Int32))), .val (.ref w_SUBSTR), .unset] [(.int (1 : Int32))]))
      refine Go.of (fun _ k => XS.goto X2.here hx rfl (pc0 := 27) (pc' := 31) rfl (hb hby at_27) (by decide) (by decide) k) ?_
      show Go p e below _ (T2.setTop (mkF m 31 #[.val (.int p0), .val (.int p1), .val (.int ((p0 &&& (2147483647 : Int32)) % (6 : Int32))), .val (.ref w_SUBSTR), .unset] [(.int (1 : Int32))]))
      refine Go.of (fun _ k => XS.istore X2.here hx rfl (hb hby at_31) rfl (l' := #[.val (.int p0), .val (.int p1), .val (.int ((p0 &&& (2147483647 : Int32)) % (6 : Int32))), .val (.ref w_SUBSTR), .val (.int (1 : Int32))]) rfl k) ?_
      show Go p e below _ (T2.setTop (mkF m 33 #[.val (.int p0), .val (.int p1), .val (.int ((p0 &&& (2147483647 : Int32)) % (6 : Int32))), .val (.ref w_SUBSTR), .val (.int (1 : Int32))] []))
      refine Go.of (fun _ k => XS.goto X2.here hx rfl (pc0 := 33) (pc' := 148) rfl (hb hby at_33) (by decide) (by decide) k) ?_
      show Go p e below _ (T2.setTop (mkF m 148 #[.val (.int p0), .val (.int p1), .val (.int ((p0 &&& (2147483647 : Int32)) % (6 : Int32))), .val (.ref w_SUBSTR), .val (.int (1 : Int32))] []))
      refine Go.of (fun _ k => XS.aloadN X2.here hx rfl (hb hby at_148) rfl rfl k) ?_
      show Go p e below _ (T2.setTop (mkF m 149 #[.val (.int p0), .val (.int p1), .val (.int ((p0 &&& (2147483647 : Int32)) % (6 : Int32))), .val (.ref w_SUBSTR), .val (.int (1 : Int32))] [(.ref w_SUBSTR)]))
      refine Go.of (fun _ k => XS.iloadN X2.here hx rfl (hb hby at_149) rfl  k) ?_
      show Go p e below _ (T2.setTop (mkF m 150 #[.val (.int p0), .val (.int p1), .val (.int ((p0 &&& (2147483647 : Int32)) % (6 : Int32))), .val (.ref w_SUBSTR), .val (.int (1 : Int32))] [(.int p1), (.ref w_SUBSTR)]))
      obtain ⟨cq4, kq4, q4a, q4b, q4c⟩ := isOf hZ e2 E_w_SUBSTR
      obtain ⟨_, _, ⟨T4, L4, k4, n4⟩, -, X4, ⟨Lc4, hQ4, l4, y4, z4⟩, st4⟩ := X2.virtualBack hx (y := (⟨"com/example/tallyset/tallyset/Operator", "takes", "(I)Z"⟩ : MethodName)) (z := (⟨"com/example/tallyset/tallyset/Operator", "takes", "(I)Z"⟩ : MethodName)) hown (mvT hZ (hw _ (List.mem_of_getElem? (i := 4) rfl))) (mvT hZ (hw _ (List.mem_of_getElem? (i := 5) rfl))) (notFace_of_selects (args := #[]) (mvT hZ (hw _ (List.mem_of_getElem? (i := 7) rfl)))) (mvT hZ (hw _ (List.mem_of_getElem? (i := 7) rfl))) (mvT hZ (hw _ (List.mem_of_getElem? (i := 6) rfl))) (by decide) (backOf (W := 0) (rm1_ok l Z a0 hw [] w_SUBSTR p1 (2 : Int32) (3 : Int32) h0 n0 Z0 F_w_SUBSTR_minOperands (by rw [hc3]; decide : ¬ (p1 < (2 : Int32))) F_w_SUBSTR_maxOperands (by rw [hc3]; decide : ¬ ((3 : Int32) < p1))) hZ (hw _ (List.mem_of_getElem? (i := 8) rfl)) (hw _ (List.mem_of_getElem? (i := 2) rfl)) (by decide) (by decide)) q4a q4c (g := (mkF m 150 #[.val (.int p0), .val (.int p1), .val (.int ((p0 &&& (2147483647 : Int32)) % (6 : Int32))), .val (.ref w_SUBSTR), .val (.int (1 : Int32))] [(.int p1), (.ref w_SUBSTR)])) rfl (by rw [hml]; rfl) (Steps.refl _) (argsL := [(.int p1)]) (rest := []) (lenOf pd_0 rfl) rfl (by show 2 * 0 + _ ≤ _; exact Nat.le_of_eq rfl) (hb hby at_150) (fun _ _ => ⟨rfl, e2, (by decide : 0 + 0 ≤ _), (by decide : 0 + 0 ≤ _)⟩)
      dsimp only [Pt.U, Pt.locs, Pt.cells, Pt.slots] at X4 l4 y4 z4 st4 hQ4
      subst l4 y4 z4
      obtain ⟨rfl, Nq4, q4_0⟩ := hQ4
      have N4 := Fr.app N0 Nq4
      refine Go.tr st4 ?_
      show Go p e below _ (T4.setTop (mkF m 153 #[.val (.int p0), .val (.int p1), .val (.int ((p0 &&& (2147483647 : Int32)) % (6 : Int32))), .val (.ref w_SUBSTR), .val (.int (1 : Int32))] [(.int (1 : Int32))]))
      refine Go.of (fun _ k => XS.iload X4.here hx rfl (hb hby at_153) rfl  k) ?_
      show Go p e below _ (T4.setTop (mkF m 155 #[.val (.int p0), .val (.int p1), .val (.int ((p0 &&& (2147483647 : Int32)) % (6 : Int32))), .val (.ref w_SUBSTR), .val (.int (1 : Int32))] [(.int (1 : Int32)), (.int (1 : Int32))]))
      refine Go.of (fun _ k => XS.icmpNo X4.here hx rfl (hb hby at_155) rfl (teq (by decide : (1 : Int32) = (1 : Int32))).2 k) ?_
      show Go p e below _ (T4.setTop (mkF m 158 #[.val (.int p0), .val (.int p1), .val (.int ((p0 &&& (2147483647 : Int32)) % (6 : Int32))), .val (.ref w_SUBSTR), .val (.int (1 : Int32))] []))
      refine Go.of (fun _ k => XS.iconst X4.here hx rfl (hb hby at_158) k) ?_
      show Go p e below _ (T4.setTop (mkF m 159 #[.val (.int p0), .val (.int p1), .val (.int ((p0 &&& (2147483647 : Int32)) % (6 : Int32))), .val (.ref w_SUBSTR), .val (.int (1 : Int32))] [(.int (1 : Int32))]))
      refine Go.of (fun _ k => XS.goto X4.here hx rfl (pc0 := 159) (pc' := 163) rfl (hb hby at_159) (by decide) (by decide) k) ?_
      show Go p e below _ (T4.setTop (mkF m 163 #[.val (.int p0), .val (.int p1), .val (.int ((p0 &&& (2147483647 : Int32)) % (6 : Int32))), .val (.ref w_SUBSTR), .val (.int (1 : Int32))] [(.int (1 : Int32))]))
      obtain ⟨fs, hr, hrun, hended, hW, hsame⟩ := X4.leave (v := some (.int (1 : Int32))) (fun h => by rw [Bd.returns] at h; cases h)
      refine Go.mk _ _ ?_ hrun hended ⟨_, _, rfl, ?_, ⟨_, rfl⟩, hW, hsame.mono (by decide) (by decide)⟩
      · exact retN X4 hx (t := .boolean) Bd.returns (by simp) (hb hby at_163) hr
      · show Q0 Z p0 p1 w_SUBSTR w_UPPER w_LOWER w_LENGTH w_ABS w_COALESCE h0 n0 _ T4.heap _
        rw [q4_0]
        exact ⟨rfl, N4⟩
    ·
      refine Go.of (fun _ k => XS.icmpNo X2.here hx rfl (hb hby at_18) rfl (feq hc3).1 k) ?_
      show Go p e below _ (T2.setTop (mkF m 21 #[.val (.int p0), .val (.int p1), .val (.int ((p0 &&& (2147483647 : Int32)) % (6 : Int32))), .val (.ref w_SUBSTR), .unset] []))
      refine Go.of (fun _ k => XS.iloadN X2.here hx rfl (hb hby at_21) rfl  k) ?_
      show Go p e below _ (T2.setTop (mkF m 22 #[.val (.int p0), .val (.int p1), .val (.int ((p0 &&& (2147483647 : Int32)) % (6 : Int32))), .val (.ref w_SUBSTR), .unset] [(.int p1)]))
      refine Go.of (fun _ k => XS.iconst X2.here hx rfl (hb hby at_22) k) ?_
      show Go p e below _ (T2.setTop (mkF m 23 #[.val (.int p0), .val (.int p1), .val (.int ((p0 &&& (2147483647 : Int32)) % (6 : Int32))), .val (.ref w_SUBSTR), .unset] [(.int (3 : Int32)), (.int p1)]))
      by_cases hc6 : p1 = (3 : Int32)
      ·
        refine Go.of (fun _ k => XS.icmpNo X2.here hx rfl (hb hby at_23) rfl (teq hc6).2 k) ?_
        show Go p e below _ (T2.setTop (mkF m 26 #[.val (.int p0), .val (.int p1), .val (.int ((p0 &&& (2147483647 : Int32)) % (6 : Int32))), .val (.ref w_SUBSTR), .unset] []))
        refine Go.of (fun _ k => XS.iconst X2.here hx rfl (hb hby at_26) k) ?_
        show Go p e below _ (T2.setTop (mkF m 27 #[.val (.int p0), .val (.int p1), .val (.int ((p0 &&& (2147483647 : Int32)) % (6 : Int32))), .val (.ref w_SUBSTR), .unset] [(.int (1 : Int32))]))
        refine Go.of (fun _ k => XS.goto X2.here hx rfl (pc0 := 27) (pc' := 31) rfl (hb hby at_27) (by decide) (by decide) k) ?_
        show Go p e below _ (T2.setTop (mkF m 31 #[.val (.int p0), .val (.int p1), .val (.int ((p0 &&& (2147483647 : Int32)) % (6 : Int32))), .val (.ref w_SUBSTR), .unset] [(.int (1 : Int32))]))
        refine Go.of (fun _ k => XS.istore X2.here hx rfl (hb hby at_31) rfl (l' := #[.val (.int p0), .val (.int p1), .val (.int ((p0 &&& (2147483647 : Int32)) % (6 : Int32))), .val (.ref w_SUBSTR), .val (.int (1 : Int32))]) rfl k) ?_
        show Go p e below _ (T2.setTop (mkF m 33 #[.val (.int p0), .val (.int p1), .val (.int ((p0 &&& (2147483647 : Int32)) % (6 : Int32))), .val (.ref w_SUBSTR), .val (.int (1 : Int32))] []))
        refine Go.of (fun _ k => XS.goto X2.here hx rfl (pc0 := 33) (pc' := 148) rfl (hb hby at_33) (by decide) (by decide) k) ?_
        show Go p e below _ (T2.setTop (mkF m 148 #[.val (.int p0), .val (.int p1), .val (.int ((p0 &&& (2147483647 : Int32)) % (6 : Int32))), .val (.ref w_SUBSTR), .val (.int (1 : Int32))] []))
        refine Go.of (fun _ k => XS.aloadN X2.here hx rfl (hb hby at_148) rfl rfl k) ?_
        show Go p e below _ (T2.setTop (mkF m 149 #[.val (.int p0), .val (.int p1), .val (.int ((p0 &&& (2147483647 : Int32)) % (6 : Int32))), .val (.ref w_SUBSTR), .val (.int (1 : Int32))] [(.ref w_SUBSTR)]))
        refine Go.of (fun _ k => XS.iloadN X2.here hx rfl (hb hby at_149) rfl  k) ?_
        show Go p e below _ (T2.setTop (mkF m 150 #[.val (.int p0), .val (.int p1), .val (.int ((p0 &&& (2147483647 : Int32)) % (6 : Int32))), .val (.ref w_SUBSTR), .val (.int (1 : Int32))] [(.int p1), (.ref w_SUBSTR)]))
        obtain ⟨cq7, kq7, q7a, q7b, q7c⟩ := isOf hZ e2 E_w_SUBSTR
        obtain ⟨_, _, ⟨T7, L7, k7, n7⟩, -, X7, ⟨Lc7, hQ7, l7, y7, z7⟩, st7⟩ := X2.virtualBack hx (y := (⟨"com/example/tallyset/tallyset/Operator", "takes", "(I)Z"⟩ : MethodName)) (z := (⟨"com/example/tallyset/tallyset/Operator", "takes", "(I)Z"⟩ : MethodName)) hown (mvT hZ (hw _ (List.mem_of_getElem? (i := 4) rfl))) (mvT hZ (hw _ (List.mem_of_getElem? (i := 5) rfl))) (notFace_of_selects (args := #[]) (mvT hZ (hw _ (List.mem_of_getElem? (i := 7) rfl)))) (mvT hZ (hw _ (List.mem_of_getElem? (i := 7) rfl))) (mvT hZ (hw _ (List.mem_of_getElem? (i := 6) rfl))) (by decide) (backOf (W := 0) (rm1_ok l Z a0 hw [] w_SUBSTR p1 (2 : Int32) (3 : Int32) h0 n0 Z0 F_w_SUBSTR_minOperands (by rw [hc6]; decide : ¬ (p1 < (2 : Int32))) F_w_SUBSTR_maxOperands (by rw [hc6]; decide : ¬ ((3 : Int32) < p1))) hZ (hw _ (List.mem_of_getElem? (i := 8) rfl)) (hw _ (List.mem_of_getElem? (i := 2) rfl)) (by decide) (by decide)) q7a q7c (g := (mkF m 150 #[.val (.int p0), .val (.int p1), .val (.int ((p0 &&& (2147483647 : Int32)) % (6 : Int32))), .val (.ref w_SUBSTR), .val (.int (1 : Int32))] [(.int p1), (.ref w_SUBSTR)])) rfl (by rw [hml]; rfl) (Steps.refl _) (argsL := [(.int p1)]) (rest := []) (lenOf pd_0 rfl) rfl (by show 2 * 0 + _ ≤ _; exact Nat.le_of_eq rfl) (hb hby at_150) (fun _ _ => ⟨rfl, e2, (by decide : 0 + 0 ≤ _), (by decide : 0 + 0 ≤ _)⟩)
        dsimp only [Pt.U, Pt.locs, Pt.cells, Pt.slots] at X7 l7 y7 z7 st7 hQ7
        subst l7 y7 z7
        obtain ⟨rfl, Nq7, q7_0⟩ := hQ7
        have N7 := Fr.app N0 Nq7
        refine Go.tr st7 ?_
        show Go p e below _ (T7.setTop (mkF m 153 #[.val (.int p0), .val (.int p1), .val (.int ((p0 &&& (2147483647 : Int32)) % (6 : Int32))), .val (.ref w_SUBSTR), .val (.int (1 : Int32))] [(.int (1 : Int32))]))
        refine Go.of (fun _ k => XS.iload X7.here hx rfl (hb hby at_153) rfl  k) ?_
        show Go p e below _ (T7.setTop (mkF m 155 #[.val (.int p0), .val (.int p1), .val (.int ((p0 &&& (2147483647 : Int32)) % (6 : Int32))), .val (.ref w_SUBSTR), .val (.int (1 : Int32))] [(.int (1 : Int32)), (.int (1 : Int32))]))
        refine Go.of (fun _ k => XS.icmpNo X7.here hx rfl (hb hby at_155) rfl (teq (by decide : (1 : Int32) = (1 : Int32))).2 k) ?_
        show Go p e below _ (T7.setTop (mkF m 158 #[.val (.int p0), .val (.int p1), .val (.int ((p0 &&& (2147483647 : Int32)) % (6 : Int32))), .val (.ref w_SUBSTR), .val (.int (1 : Int32))] []))
        refine Go.of (fun _ k => XS.iconst X7.here hx rfl (hb hby at_158) k) ?_
        show Go p e below _ (T7.setTop (mkF m 159 #[.val (.int p0), .val (.int p1), .val (.int ((p0 &&& (2147483647 : Int32)) % (6 : Int32))), .val (.ref w_SUBSTR), .val (.int (1 : Int32))] [(.int (1 : Int32))]))
        refine Go.of (fun _ k => XS.goto X7.here hx rfl (pc0 := 159) (pc' := 163) rfl (hb hby at_159) (by decide) (by decide) k) ?_
        show Go p e below _ (T7.setTop (mkF m 163 #[.val (.int p0), .val (.int p1), .val (.int ((p0 &&& (2147483647 : Int32)) % (6 : Int32))), .val (.ref w_SUBSTR), .val (.int (1 : Int32))] [(.int (1 : Int32))]))
        obtain ⟨fs, hr, hrun, hended, hW, hsame⟩ := X7.leave (v := some (.int (1 : Int32))) (fun h => by rw [Bd.returns] at h; cases h)
        refine Go.mk _ _ ?_ hrun hended ⟨_, _, rfl, ?_, ⟨_, rfl⟩, hW, hsame.mono (by decide) (by decide)⟩
        · exact retN X7 hx (t := .boolean) Bd.returns (by simp) (hb hby at_163) hr
        · show Q0 Z p0 p1 w_SUBSTR w_UPPER w_LOWER w_LENGTH w_ABS w_COALESCE h0 n0 _ T7.heap _
          rw [q7_0]
          exact ⟨rfl, N7⟩
      ·
        refine Go.of (fun _ k => XS.icmpYes X2.here hx rfl (pc0 := 23) (pc' := 30) rfl (hb hby at_23) rfl (feq hc6).2 (by decide) (by decide) k) ?_
        show Go p e below _ (T2.setTop (mkF m 30 #[.val (.int p0), .val (.int p1), .val (.int ((p0 &&& (2147483647 : Int32)) % (6 : Int32))), .val (.ref w_SUBSTR), .unset] []))
        refine Go.of (fun _ k => XS.iconst X2.here hx rfl (hb hby at_30) k) ?_
        show Go p e below _ (T2.setTop (mkF m 31 #[.val (.int p0), .val (.int p1), .val (.int ((p0 &&& (2147483647 : Int32)) % (6 : Int32))), .val (.ref w_SUBSTR), .unset] [(.int (0 : Int32))]))
        refine Go.of (fun _ k => XS.istore X2.here hx rfl (hb hby at_31) rfl (l' := #[.val (.int p0), .val (.int p1), .val (.int ((p0 &&& (2147483647 : Int32)) % (6 : Int32))), .val (.ref w_SUBSTR), .val (.int (0 : Int32))]) rfl k) ?_
        show Go p e below _ (T2.setTop (mkF m 33 #[.val (.int p0), .val (.int p1), .val (.int ((p0 &&& (2147483647 : Int32)) % (6 : Int32))), .val (.ref w_SUBSTR), .val (.int (0 : Int32))] []))
        refine Go.of (fun _ k => XS.goto X2.here hx rfl (pc0 := 33) (pc' := 148) rfl (hb hby at_33) (by decide) (by decide) k) ?_
        show Go p e below _ (T2.setTop (mkF m 148 #[.val (.int p0), .val (.int p1), .val (.int ((p0 &&& (2147483647 : Int32)) % (6 : Int32))), .val (.ref w_SUBSTR), .val (.int (0 : Int32))] []))
        refine Go.of (fun _ k => XS.aloadN X2.here hx rfl (hb hby at_148) rfl rfl k) ?_
        show Go p e below _ (T2.setTop (mkF m 149 #[.val (.int p0), .val (.int p1), .val (.int ((p0 &&& (2147483647 : Int32)) % (6 : Int32))), .val (.ref w_SUBSTR), .val (.int (0 : Int32))] [(.ref w_SUBSTR)]))
        refine Go.of (fun _ k => XS.iloadN X2.here hx rfl (hb hby at_149) rfl  k) ?_
        show Go p e below _ (T2.setTop (mkF m 150 #[.val (.int p0), .val (.int p1), .val (.int ((p0 &&& (2147483647 : Int32)) % (6 : Int32))), .val (.ref w_SUBSTR), .val (.int (0 : Int32))] [(.int p1), (.ref w_SUBSTR)]))
        by_cases hs9 : p1 < (2 : Int32)
        ·
          show Go p e below _ (T2.setTop (mkF m 150 #[.val (.int p0), .val (.int p1), .val (.int ((p0 &&& (2147483647 : Int32)) % (6 : Int32))), .val (.ref w_SUBSTR), .val (.int (0 : Int32))] [(.int p1), (.ref w_SUBSTR)]))
          obtain ⟨cq10, kq10, q10a, q10b, q10c⟩ := isOf hZ e2 E_w_SUBSTR
          obtain ⟨_, _, ⟨T10, L10, k10, n10⟩, -, X10, ⟨Lc10, hQ10, l10, y10, z10⟩, st10⟩ := X2.virtualBack hx (y := (⟨"com/example/tallyset/tallyset/Operator", "takes", "(I)Z"⟩ : MethodName)) (z := (⟨"com/example/tallyset/tallyset/Operator", "takes", "(I)Z"⟩ : MethodName)) hown (mvT hZ (hw _ (List.mem_of_getElem? (i := 4) rfl))) (mvT hZ (hw _ (List.mem_of_getElem? (i := 5) rfl))) (notFace_of_selects (args := #[]) (mvT hZ (hw _ (List.mem_of_getElem? (i := 7) rfl)))) (mvT hZ (hw _ (List.mem_of_getElem? (i := 7) rfl))) (mvT hZ (hw _ (List.mem_of_getElem? (i := 6) rfl))) (by decide) (backOf (W := 0) (rm1_lo l Z a0 hw [] w_SUBSTR p1 (2 : Int32) h0 n0 Z0 F_w_SUBSTR_minOperands hs9) hZ (hw _ (List.mem_of_getElem? (i := 8) rfl)) (hw _ (List.mem_of_getElem? (i := 2) rfl)) (by decide) (by decide)) q10a q10c (g := (mkF m 150 #[.val (.int p0), .val (.int p1), .val (.int ((p0 &&& (2147483647 : Int32)) % (6 : Int32))), .val (.ref w_SUBSTR), .val (.int (0 : Int32))] [(.int p1), (.ref w_SUBSTR)])) rfl (by rw [hml]; rfl) (Steps.refl _) (argsL := [(.int p1)]) (rest := []) (lenOf pd_0 rfl) rfl (by show 2 * 0 + _ ≤ _; exact Nat.le_of_eq rfl) (hb hby at_150) (fun _ _ => ⟨rfl, e2, (by decide : 0 + 0 ≤ _), (by decide : 0 + 0 ≤ _)⟩)
          dsimp only [Pt.U, Pt.locs, Pt.cells, Pt.slots] at X10 l10 y10 z10 st10 hQ10
          subst l10 y10 z10
          obtain ⟨rfl, Nq10, q10_0⟩ := hQ10
          have N10 := Fr.app N0 Nq10
          refine Go.tr st10 ?_
          show Go p e below _ (T10.setTop (mkF m 153 #[.val (.int p0), .val (.int p1), .val (.int ((p0 &&& (2147483647 : Int32)) % (6 : Int32))), .val (.ref w_SUBSTR), .val (.int (0 : Int32))] [(.int (0 : Int32))]))
          refine Go.of (fun _ k => XS.iload X10.here hx rfl (hb hby at_153) rfl  k) ?_
          show Go p e below _ (T10.setTop (mkF m 155 #[.val (.int p0), .val (.int p1), .val (.int ((p0 &&& (2147483647 : Int32)) % (6 : Int32))), .val (.ref w_SUBSTR), .val (.int (0 : Int32))] [(.int (0 : Int32)), (.int (0 : Int32))]))
          refine Go.of (fun _ k => XS.icmpNo X10.here hx rfl (hb hby at_155) rfl (teq (by decide : (0 : Int32) = (0 : Int32))).2 k) ?_
          show Go p e below _ (T10.setTop (mkF m 158 #[.val (.int p0), .val (.int p1), .val (.int ((p0 &&& (2147483647 : Int32)) % (6 : Int32))), .val (.ref w_SUBSTR), .val (.int (0 : Int32))] []))
          refine Go.of (fun _ k => XS.iconst X10.here hx rfl (hb hby at_158) k) ?_
          show Go p e below _ (T10.setTop (mkF m 159 #[.val (.int p0), .val (.int p1), .val (.int ((p0 &&& (2147483647 : Int32)) % (6 : Int32))), .val (.ref w_SUBSTR), .val (.int (0 : Int32))] [(.int (1 : Int32))]))
          refine Go.of (fun _ k => XS.goto X10.here hx rfl (pc0 := 159) (pc' := 163) rfl (hb hby at_159) (by decide) (by decide) k) ?_
          show Go p e below _ (T10.setTop (mkF m 163 #[.val (.int p0), .val (.int p1), .val (.int ((p0 &&& (2147483647 : Int32)) % (6 : Int32))), .val (.ref w_SUBSTR), .val (.int (0 : Int32))] [(.int (1 : Int32))]))
          obtain ⟨fs, hr, hrun, hended, hW, hsame⟩ := X10.leave (v := some (.int (1 : Int32))) (fun h => by rw [Bd.returns] at h; cases h)
          refine Go.mk _ _ ?_ hrun hended ⟨_, _, rfl, ?_, ⟨_, rfl⟩, hW, hsame.mono (by decide) (by decide)⟩
          · exact retN X10 hx (t := .boolean) Bd.returns (by simp) (hb hby at_163) hr
          · show Q0 Z p0 p1 w_SUBSTR w_UPPER w_LOWER w_LENGTH w_ABS w_COALESCE h0 n0 _ T10.heap _
            rw [q10_0]
            exact ⟨rfl, N10⟩
        ·
          show Go p e below _ (T2.setTop (mkF m 150 #[.val (.int p0), .val (.int p1), .val (.int ((p0 &&& (2147483647 : Int32)) % (6 : Int32))), .val (.ref w_SUBSTR), .val (.int (0 : Int32))] [(.int p1), (.ref w_SUBSTR)]))
          obtain ⟨cq12, kq12, q12a, q12b, q12c⟩ := isOf hZ e2 E_w_SUBSTR
          obtain ⟨_, _, ⟨T12, L12, k12, n12⟩, -, X12, ⟨Lc12, hQ12, l12, y12, z12⟩, st12⟩ := X2.virtualBack hx (y := (⟨"com/example/tallyset/tallyset/Operator", "takes", "(I)Z"⟩ : MethodName)) (z := (⟨"com/example/tallyset/tallyset/Operator", "takes", "(I)Z"⟩ : MethodName)) hown (mvT hZ (hw _ (List.mem_of_getElem? (i := 4) rfl))) (mvT hZ (hw _ (List.mem_of_getElem? (i := 5) rfl))) (notFace_of_selects (args := #[]) (mvT hZ (hw _ (List.mem_of_getElem? (i := 7) rfl)))) (mvT hZ (hw _ (List.mem_of_getElem? (i := 7) rfl))) (mvT hZ (hw _ (List.mem_of_getElem? (i := 6) rfl))) (by decide) (backOf (W := 0) (rm1_hi l Z a0 hw [] w_SUBSTR p1 (2 : Int32) (3 : Int32) h0 n0 Z0 F_w_SUBSTR_minOperands hs9 F_w_SUBSTR_maxOperands (own_i0 p1 hc3 hc6 hs9)) hZ (hw _ (List.mem_of_getElem? (i := 8) rfl)) (hw _ (List.mem_of_getElem? (i := 2) rfl)) (by decide) (by decide)) q12a q12c (g := (mkF m 150 #[.val (.int p0), .val (.int p1), .val (.int ((p0 &&& (2147483647 : Int32)) % (6 : Int32))), .val (.ref w_SUBSTR), .val (.int (0 : Int32))] [(.int p1), (.ref w_SUBSTR)])) rfl (by rw [hml]; rfl) (Steps.refl _) (argsL := [(.int p1)]) (rest := []) (lenOf pd_0 rfl) rfl (by show 2 * 0 + _ ≤ _; exact Nat.le_of_eq rfl) (hb hby at_150) (fun _ _ => ⟨rfl, e2, (by decide : 0 + 0 ≤ _), (by decide : 0 + 0 ≤ _)⟩)
          dsimp only [Pt.U, Pt.locs, Pt.cells, Pt.slots] at X12 l12 y12 z12 st12 hQ12
          subst l12 y12 z12
          obtain ⟨rfl, Nq12, q12_0⟩ := hQ12
          have N12 := Fr.app N0 Nq12
          refine Go.tr st12 ?_
          show Go p e below _ (T12.setTop (mkF m 153 #[.val (.int p0), .val (.int p1), .val (.int ((p0 &&& (2147483647 : Int32)) % (6 : Int32))), .val (.ref w_SUBSTR), .val (.int (0 : Int32))] [(.int (0 : Int32))]))
          refine Go.of (fun _ k => XS.iload X12.here hx rfl (hb hby at_153) rfl  k) ?_
          show Go p e below _ (T12.setTop (mkF m 155 #[.val (.int p0), .val (.int p1), .val (.int ((p0 &&& (2147483647 : Int32)) % (6 : Int32))), .val (.ref w_SUBSTR), .val (.int (0 : Int32))] [(.int (0 : Int32)), (.int (0 : Int32))]))
          refine Go.of (fun _ k => XS.icmpNo X12.here hx rfl (hb hby at_155) rfl (teq (by decide : (0 : Int32) = (0 : Int32))).2 k) ?_
          show Go p e below _ (T12.setTop (mkF m 158 #[.val (.int p0), .val (.int p1), .val (.int ((p0 &&& (2147483647 : Int32)) % (6 : Int32))), .val (.ref w_SUBSTR), .val (.int (0 : Int32))] []))
          refine Go.of (fun _ k => XS.iconst X12.here hx rfl (hb hby at_158) k) ?_
          show Go p e below _ (T12.setTop (mkF m 159 #[.val (.int p0), .val (.int p1), .val (.int ((p0 &&& (2147483647 : Int32)) % (6 : Int32))), .val (.ref w_SUBSTR), .val (.int (0 : Int32))] [(.int (1 : Int32))]))
          refine Go.of (fun _ k => XS.goto X12.here hx rfl (pc0 := 159) (pc' := 163) rfl (hb hby at_159) (by decide) (by decide) k) ?_
          show Go p e below _ (T12.setTop (mkF m 163 #[.val (.int p0), .val (.int p1), .val (.int ((p0 &&& (2147483647 : Int32)) % (6 : Int32))), .val (.ref w_SUBSTR), .val (.int (0 : Int32))] [(.int (1 : Int32))]))
          obtain ⟨fs, hr, hrun, hended, hW, hsame⟩ := X12.leave (v := some (.int (1 : Int32))) (fun h => by rw [Bd.returns] at h; cases h)
          refine Go.mk _ _ ?_ hrun hended ⟨_, _, rfl, ?_, ⟨_, rfl⟩, hW, hsame.mono (by decide) (by decide)⟩
          · exact retN X12 hx (t := .boolean) Bd.returns (by simp) (hb hby at_163) hr
          · show Q0 Z p0 p1 w_SUBSTR w_UPPER w_LOWER w_LENGTH w_ABS w_COALESCE h0 n0 _ T12.heap _
            rw [q12_0]
            exact ⟨rfl, N12⟩
  ·
    refine Go.of (fun _ k => XS.ifYes X0.here hx rfl (pc0 := 9) (pc' := 36) rfl (hb hby at_9) rfl ((if0 _ _).trans (feq hc1).2) (by decide) (by decide) k) ?_
    show Go p e below _ (s₁.setTop (mkF m 36 #[.val (.int p0), .val (.int p1), .val (.int ((p0 &&& (2147483647 : Int32)) % (6 : Int32))), .unset, .unset] []))
    refine Go.of (fun _ k => XS.iloadN X0.here hx rfl (hb hby at_36) rfl  k) ?_
    show Go p e below _ (s₁.setTop (mkF m 37 #[.val (.int p0), .val (.int p1), .val (.int ((p0 &&& (2147483647 : Int32)) % (6 : Int32))), .unset, .unset] [(.int ((p0 &&& (2147483647 : Int32)) % (6 : Int32)))]))
    refine Go.of (fun _ k => XS.iconst X0.here hx rfl (hb hby at_37) k) ?_
    show Go p e below _ (s₁.setTop (mkF m 38 #[.val (.int p0), .val (.int p1), .val (.int ((p0 &&& (2147483647 : Int32)) % (6 : Int32))), .unset, .unset] [(.int (1 : Int32)), (.int ((p0 &&& (2147483647 : Int32)) % (6 : Int32)))]))
    by_cases hc14 : ((p0 &&& (2147483647 : Int32)) % (6 : Int32)) = (1 : Int32)
    ·
      refine Go.of (fun _ k => XS.icmpNo X0.here hx rfl (hb hby at_38) rfl (teq hc14).2 k) ?_
      show Go p e below _ (s₁.setTop (mkF m 41 #[.val (.int p0), .val (.int p1), .val (.int ((p0 &&& (2147483647 : Int32)) % (6 : Int32))), .unset, .unset] []))
      obtain ⟨T15, X15, e15, st15⟩ := getS2 X0 hx hZ hown (host := "") (Or.inl (hw _ (List.mem_of_getElem? (i := 17) rfl))) Via.refl e0 S_UPPER (g := (mkF m 41 #[.val (.int p0), .val (.int p1), .val (.int ((p0 &&& (2147483647 : Int32)) % (6 : Int32))), .unset, .unset] [])) rfl (hb hby at_41)
      refine Go.of st15 ?_
      show Go p e below _ (T15.setTop (mkF m 44 #[.val (.int p0), .val (.int p1), .val (.int ((p0 &&& (2147483647 : Int32)) % (6 : Int32))), .unset, .unset] [(.ref w_UPPER)]))
      refine Go.of (fun _ k => XS.astoreN X15.here hx rfl (hb hby at_44) rfl rfl (l' := #[.val (.int p0), .val (.int p1), .val (.int ((p0 &&& (2147483647 : Int32)) % (6 : Int32))), .val (.ref w_UPPER), .unset]) rfl k) ?_
      show Go p e below _ (T15.setTop (mkF m 45 #[.val (.int p0), .val (.int p1), .val (.int ((p0 &&& (2147483647 : Int32)) % (6 : Int32))), .val (.ref w_UPPER), .unset] []))
      refine Go.of (fun _ k => XS.iloadN X15.here hx rfl (hb hby at_45) rfl  k) ?_
      show Go p e below _ (T15.setTop (mkF m 46 #[.val (.int p0), .val (.int p1), .val (.int ((p0 &&& (2147483647 : Int32)) % (6 : Int32))), .val (.ref w_UPPER), .unset] [(.int p1)]))
      refine Go.of (fun _ k => XS.iconst X15.here hx rfl (hb hby at_46) k) ?_
      show Go p e below _ (T15.setTop (mkF m 47 #[.val (.int p0), .val (.int p1), .val (.int ((p0 &&& (2147483647 : Int32)) % (6 : Int32))), .val (.ref w_UPPER), .unset] [(.int (1 : Int32)), (.int p1)]))
      by_cases hc16 : p1 = (1 : Int32)
      ·
        refine Go.of (fun _ k => XS.icmpNo X15.here hx rfl (hb hby at_47) rfl (teq hc16).2 k) ?_
        show Go p e below _ (T15.setTop (mkF m 50 #[.val (.int p0), .val (.int p1), .val (.int ((p0 &&& (2147483647 : Int32)) % (6 : Int32))), .val (.ref w_UPPER), .unset] []))
        refine Go.of (fun _ k => XS.iconst X15.here hx rfl (hb hby at_50) k) ?_
        show Go p e below _ (T15.setTop (mkF m 51 #[.val (.int p0), .val (.int p1), .val (.int ((p0 &&& (2147483647 : Int32)) % (6 : Int32))), .val (.ref w_UPPER), .unset] [(.int (1 : Int32))]))
        refine Go.of (fun _ k => XS.goto X15.here hx rfl (pc0 := 51) (pc' := 55) rfl (hb hby at_51) (by decide) (by decide) k) ?_
        show Go p e below _ (T15.setTop (mkF m 55 #[.val (.int p0), .val (.int p1), .val (.int ((p0 &&& (2147483647 : Int32)) % (6 : Int32))), .val (.ref w_UPPER), .unset] [(.int (1 : Int32))]))
        refine Go.of (fun _ k => XS.istore X15.here hx rfl (hb hby at_55) rfl (l' := #[.val (.int p0), .val (.int p1), .val (.int ((p0 &&& (2147483647 : Int32)) % (6 : Int32))), .val (.ref w_UPPER), .val (.int (1 : Int32))]) rfl k) ?_
        show Go p e below _ (T15.setTop (mkF m 57 #[.val (.int p0), .val (.int p1), .val (.int ((p0 &&& (2147483647 : Int32)) % (6 : Int32))), .val (.ref w_UPPER), .val (.int (1 : Int32))] []))
        refine Go.of (fun _ k => XS.goto X15.here hx rfl (pc0 := 57) (pc' := 148) rfl (hb hby at_57) (by decide) (by decide) k) ?_
        show Go p e below _ (T15.setTop (mkF m 148 #[.val (.int p0), .val (.int p1), .val (.int ((p0 &&& (2147483647 : Int32)) % (6 : Int32))), .val (.ref w_UPPER), .val (.int (1 : Int32))] []))
        refine Go.of (fun _ k => XS.aloadN X15.here hx rfl (hb hby at_148) rfl rfl k) ?_
        show Go p e below _ (T15.setTop (mkF m 149 #[.val (.int p0), .val (.int p1), .val (.int ((p0 &&& (2147483647 : Int32)) % (6 : Int32))), .val (.ref w_UPPER), .val (.int (1 : Int32))] [(.ref w_UPPER)]))
        refine Go.of (fun _ k => XS.iloadN X15.here hx rfl (hb hby at_149) rfl  k) ?_
        show Go p e below _ (T15.setTop (mkF m 150 #[.val (.int p0), .val (.int p1), .val (.int ((p0 &&& (2147483647 : Int32)) % (6 : Int32))), .val (.ref w_UPPER), .val (.int (1 : Int32))] [(.int p1), (.ref w_UPPER)]))
        obtain ⟨cq17, kq17, q17a, q17b, q17c⟩ := isOf hZ e15 E_w_UPPER
        obtain ⟨_, _, ⟨T17, L17, k17, n17⟩, -, X17, ⟨Lc17, hQ17, l17, y17, z17⟩, st17⟩ := X15.virtualBack hx (y := (⟨"com/example/tallyset/tallyset/Operator", "takes", "(I)Z"⟩ : MethodName)) (z := (⟨"com/example/tallyset/tallyset/Operator", "takes", "(I)Z"⟩ : MethodName)) hown (mvT hZ (hw _ (List.mem_of_getElem? (i := 4) rfl))) (mvT hZ (hw _ (List.mem_of_getElem? (i := 5) rfl))) (notFace_of_selects (args := #[]) (mvT hZ (hw _ (List.mem_of_getElem? (i := 7) rfl)))) (mvT hZ (hw _ (List.mem_of_getElem? (i := 7) rfl))) (mvT hZ (hw _ (List.mem_of_getElem? (i := 6) rfl))) (by decide) (backOf (W := 0) (rm1_ok l Z a0 hw [] w_UPPER p1 (1 : Int32) (1 : Int32) h0 n0 Z0 F_w_UPPER_minOperands (by rw [hc16]; decide : ¬ (p1 < (1 : Int32))) F_w_UPPER_maxOperands (by rw [hc16]; decide : ¬ ((1 : Int32) < p1))) hZ (hw _ (List.mem_of_getElem? (i := 8) rfl)) (hw _ (List.mem_of_getElem? (i := 2) rfl)) (by decide) (by decide)) q17a q17c (g := (mkF m 150 #[.val (.int p0), .val (.int p1), .val (.int ((p0 &&& (2147483647 : Int32)) % (6 : Int32))), .val (.ref w_UPPER), .val (.int (1 : Int32))] [(.int p1), (.ref w_UPPER)])) rfl (by rw [hml]; rfl) (Steps.refl _) (argsL := [(.int p1)]) (rest := []) (lenOf pd_0 rfl) rfl (by show 2 * 0 + _ ≤ _; exact Nat.le_of_eq rfl) (hb hby at_150) (fun _ _ => ⟨rfl, e15, (by decide : 0 + 0 ≤ _), (by decide : 0 + 0 ≤ _)⟩)
        dsimp only [Pt.U, Pt.locs, Pt.cells, Pt.slots] at X17 l17 y17 z17 st17 hQ17
        subst l17 y17 z17
        obtain ⟨rfl, Nq17, q17_0⟩ := hQ17
        have N17 := Fr.app N0 Nq17
        refine Go.tr st17 ?_
        show Go p e below _ (T17.setTop (mkF m 153 #[.val (.int p0), .val (.int p1), .val (.int ((p0 &&& (2147483647 : Int32)) % (6 : Int32))), .val (.ref w_UPPER), .val (.int (1 : Int32))] [(.int (1 : Int32))]))
        refine Go.of (fun _ k => XS.iload X17.here hx rfl (hb hby at_153) rfl  k) ?_
        show Go p e below _ (T17.setTop (mkF m 155 #[.val (.int p0), .val (.int p1), .val (.int ((p0 &&& (2147483647 : Int32)) % (6 : Int32))), .val (.ref w_UPPER), .val (.int (1 : Int32))] [(.int (1 : Int32)), (.int (1 : Int32))]))
        refine Go.of (fun _ k => XS.icmpNo X17.here hx rfl (hb hby at_155) rfl (teq (by decide : (1 : Int32) = (1 : Int32))).2 k) ?_
        show Go p e below _ (T17.setTop (mkF m 158 #[.val (.int p0), .val (.int p1), .val (.int ((p0 &&& (2147483647 : Int32)) % (6 : Int32))), .val (.ref w_UPPER), .val (.int (1 : Int32))] []))
        refine Go.of (fun _ k => XS.iconst X17.here hx rfl (hb hby at_158) k) ?_
        show Go p e below _ (T17.setTop (mkF m 159 #[.val (.int p0), .val (.int p1), .val (.int ((p0 &&& (2147483647 : Int32)) % (6 : Int32))), .val (.ref w_UPPER), .val (.int (1 : Int32))] [(.int (1 : Int32))]))
        refine Go.of (fun _ k => XS.goto X17.here hx rfl (pc0 := 159) (pc' := 163) rfl (hb hby at_159) (by decide) (by decide) k) ?_
        show Go p e below _ (T17.setTop (mkF m 163 #[.val (.int p0), .val (.int p1), .val (.int ((p0 &&& (2147483647 : Int32)) % (6 : Int32))), .val (.ref w_UPPER), .val (.int (1 : Int32))] [(.int (1 : Int32))]))
        obtain ⟨fs, hr, hrun, hended, hW, hsame⟩ := X17.leave (v := some (.int (1 : Int32))) (fun h => by rw [Bd.returns] at h; cases h)
        refine Go.mk _ _ ?_ hrun hended ⟨_, _, rfl, ?_, ⟨_, rfl⟩, hW, hsame.mono (by decide) (by decide)⟩
        · exact retN X17 hx (t := .boolean) Bd.returns (by simp) (hb hby at_163) hr
        · show Q0 Z p0 p1 w_SUBSTR w_UPPER w_LOWER w_LENGTH w_ABS w_COALESCE h0 n0 _ T17.heap _
          rw [q17_0]
          exact ⟨rfl, N17⟩
      ·
        refine Go.of (fun _ k => XS.icmpYes X15.here hx rfl (pc0 := 47) (pc' := 54) rfl (hb hby at_47) rfl (feq hc16).2 (by decide) (by decide) k) ?_
        show Go p e below _ (T15.setTop (mkF m 54 #[.val (.int p0), .val (.int p1), .val (.int ((p0 &&& (2147483647 : Int32)) % (6 : Int32))), .val (.ref w_UPPER), .unset] []))
        refine Go.of (fun _ k => XS.iconst X15.here hx rfl (hb hby at_54) k) ?_
        show Go p e below _ (T15.setTop (mkF m 55 #[.val (.int p0), .val (.int p1), .val (.int ((p0 &&& (2147483647 : Int32)) % (6 : Int32))), .val (.ref w_UPPER), .unset] [(.int (0 : Int32))]))
        refine Go.of (fun _ k => XS.istore X15.here hx rfl (hb hby at_55) rfl (l' := #[.val (.int p0), .val (.int p1), .val (.int ((p0 &&& (2147483647 : Int32)) % (6 : Int32))), .val (.ref w_UPPER), .val (.int (0 : Int32))]) rfl k) ?_
        show Go p e below _ (T15.setTop (mkF m 57 #[.val (.int p0), .val (.int p1), .val (.int ((p0 &&& (2147483647 : Int32)) % (6 : Int32))), .val (.ref w_UPPER), .val (.int (0 : Int32))] []))
        refine Go.of (fun _ k => XS.goto X15.here hx rfl (pc0 := 57) (pc' := 148) rfl (hb hby at_57) (by decide) (by decide) k) ?_
        show Go p e below _ (T15.setTop (mkF m 148 #[.val (.int p0), .val (.int p1), .val (.int ((p0 &&& (2147483647 : Int32)) % (6 : Int32))), .val (.ref w_UPPER), .val (.int (0 : Int32))] []))
        refine Go.of (fun _ k => XS.aloadN X15.here hx rfl (hb hby at_148) rfl rfl k) ?_
        show Go p e below _ (T15.setTop (mkF m 149 #[.val (.int p0), .val (.int p1), .val (.int ((p0 &&& (2147483647 : Int32)) % (6 : Int32))), .val (.ref w_UPPER), .val (.int (0 : Int32))] [(.ref w_UPPER)]))
        refine Go.of (fun _ k => XS.iloadN X15.here hx rfl (hb hby at_149) rfl  k) ?_
        show Go p e below _ (T15.setTop (mkF m 150 #[.val (.int p0), .val (.int p1), .val (.int ((p0 &&& (2147483647 : Int32)) % (6 : Int32))), .val (.ref w_UPPER), .val (.int (0 : Int32))] [(.int p1), (.ref w_UPPER)]))
        by_cases hs19 : p1 < (1 : Int32)
        ·
          show Go p e below _ (T15.setTop (mkF m 150 #[.val (.int p0), .val (.int p1), .val (.int ((p0 &&& (2147483647 : Int32)) % (6 : Int32))), .val (.ref w_UPPER), .val (.int (0 : Int32))] [(.int p1), (.ref w_UPPER)]))
          obtain ⟨cq20, kq20, q20a, q20b, q20c⟩ := isOf hZ e15 E_w_UPPER
          obtain ⟨_, _, ⟨T20, L20, k20, n20⟩, -, X20, ⟨Lc20, hQ20, l20, y20, z20⟩, st20⟩ := X15.virtualBack hx (y := (⟨"com/example/tallyset/tallyset/Operator", "takes", "(I)Z"⟩ : MethodName)) (z := (⟨"com/example/tallyset/tallyset/Operator", "takes", "(I)Z"⟩ : MethodName)) hown (mvT hZ (hw _ (List.mem_of_getElem? (i := 4) rfl))) (mvT hZ (hw _ (List.mem_of_getElem? (i := 5) rfl))) (notFace_of_selects (args := #[]) (mvT hZ (hw _ (List.mem_of_getElem? (i := 7) rfl)))) (mvT hZ (hw _ (List.mem_of_getElem? (i := 7) rfl))) (mvT hZ (hw _ (List.mem_of_getElem? (i := 6) rfl))) (by decide) (backOf (W := 0) (rm1_lo l Z a0 hw [] w_UPPER p1 (1 : Int32) h0 n0 Z0 F_w_UPPER_minOperands hs19) hZ (hw _ (List.mem_of_getElem? (i := 8) rfl)) (hw _ (List.mem_of_getElem? (i := 2) rfl)) (by decide) (by decide)) q20a q20c (g := (mkF m 150 #[.val (.int p0), .val (.int p1), .val (.int ((p0 &&& (2147483647 : Int32)) % (6 : Int32))), .val (.ref w_UPPER), .val (.int (0 : Int32))] [(.int p1), (.ref w_UPPER)])) rfl (by rw [hml]; rfl) (Steps.refl _) (argsL := [(.int p1)]) (rest := []) (lenOf pd_0 rfl) rfl (by show 2 * 0 + _ ≤ _; exact Nat.le_of_eq rfl) (hb hby at_150) (fun _ _ => ⟨rfl, e15, (by decide : 0 + 0 ≤ _), (by decide : 0 + 0 ≤ _)⟩)
          dsimp only [Pt.U, Pt.locs, Pt.cells, Pt.slots] at X20 l20 y20 z20 st20 hQ20
          subst l20 y20 z20
          obtain ⟨rfl, Nq20, q20_0⟩ := hQ20
          have N20 := Fr.app N0 Nq20
          refine Go.tr st20 ?_
          show Go p e below _ (T20.setTop (mkF m 153 #[.val (.int p0), .val (.int p1), .val (.int ((p0 &&& (2147483647 : Int32)) % (6 : Int32))), .val (.ref w_UPPER), .val (.int (0 : Int32))] [(.int (0 : Int32))]))
          refine Go.of (fun _ k => XS.iload X20.here hx rfl (hb hby at_153) rfl  k) ?_
          show Go p e below _ (T20.setTop (mkF m 155 #[.val (.int p0), .val (.int p1), .val (.int ((p0 &&& (2147483647 : Int32)) % (6 : Int32))), .val (.ref w_UPPER), .val (.int (0 : Int32))] [(.int (0 : Int32)), (.int (0 : Int32))]))
          refine Go.of (fun _ k => XS.icmpNo X20.here hx rfl (hb hby at_155) rfl (teq (by decide : (0 : Int32) = (0 : Int32))).2 k) ?_
          show Go p e below _ (T20.setTop (mkF m 158 #[.val (.int p0), .val (.int p1), .val (.int ((p0 &&& (2147483647 : Int32)) % (6 : Int32))), .val (.ref w_UPPER), .val (.int (0 : Int32))] []))
          refine Go.of (fun _ k => XS.iconst X20.here hx rfl (hb hby at_158) k) ?_
          show Go p e below _ (T20.setTop (mkF m 159 #[.val (.int p0), .val (.int p1), .val (.int ((p0 &&& (2147483647 : Int32)) % (6 : Int32))), .val (.ref w_UPPER), .val (.int (0 : Int32))] [(.int (1 : Int32))]))
          refine Go.of (fun _ k => XS.goto X20.here hx rfl (pc0 := 159) (pc' := 163) rfl (hb hby at_159) (by decide) (by decide) k) ?_
          show Go p e below _ (T20.setTop (mkF m 163 #[.val (.int p0), .val (.int p1), .val (.int ((p0 &&& (2147483647 : Int32)) % (6 : Int32))), .val (.ref w_UPPER), .val (.int (0 : Int32))] [(.int (1 : Int32))]))
          obtain ⟨fs, hr, hrun, hended, hW, hsame⟩ := X20.leave (v := some (.int (1 : Int32))) (fun h => by rw [Bd.returns] at h; cases h)
          refine Go.mk _ _ ?_ hrun hended ⟨_, _, rfl, ?_, ⟨_, rfl⟩, hW, hsame.mono (by decide) (by decide)⟩
          · exact retN X20 hx (t := .boolean) Bd.returns (by simp) (hb hby at_163) hr
          · show Q0 Z p0 p1 w_SUBSTR w_UPPER w_LOWER w_LENGTH w_ABS w_COALESCE h0 n0 _ T20.heap _
            rw [q20_0]
            exact ⟨rfl, N20⟩
        ·
          show Go p e below _ (T15.setTop (mkF m 150 #[.val (.int p0), .val (.int p1), .val (.int ((p0 &&& (2147483647 : Int32)) % (6 : Int32))), .val (.ref w_UPPER), .val (.int (0 : Int32))] [(.int p1), (.ref w_UPPER)]))
          obtain ⟨cq22, kq22, q22a, q22b, q22c⟩ := isOf hZ e15 E_w_UPPER
          obtain ⟨_, _, ⟨T22, L22, k22, n22⟩, -, X22, ⟨Lc22, hQ22, l22, y22, z22⟩, st22⟩ := X15.virtualBack hx (y := (⟨"com/example/tallyset/tallyset/Operator", "takes", "(I)Z"⟩ : MethodName)) (z := (⟨"com/example/tallyset/tallyset/Operator", "takes", "(I)Z"⟩ : MethodName)) hown (mvT hZ (hw _ (List.mem_of_getElem? (i := 4) rfl))) (mvT hZ (hw _ (List.mem_of_getElem? (i := 5) rfl))) (notFace_of_selects (args := #[]) (mvT hZ (hw _ (List.mem_of_getElem? (i := 7) rfl)))) (mvT hZ (hw _ (List.mem_of_getElem? (i := 7) rfl))) (mvT hZ (hw _ (List.mem_of_getElem? (i := 6) rfl))) (by decide) (backOf (W := 0) (rm1_hi l Z a0 hw [] w_UPPER p1 (1 : Int32) (1 : Int32) h0 n0 Z0 F_w_UPPER_minOperands hs19 F_w_UPPER_maxOperands (own_i1 p1 hc16 hs19)) hZ (hw _ (List.mem_of_getElem? (i := 8) rfl)) (hw _ (List.mem_of_getElem? (i := 2) rfl)) (by decide) (by decide)) q22a q22c (g := (mkF m 150 #[.val (.int p0), .val (.int p1), .val (.int ((p0 &&& (2147483647 : Int32)) % (6 : Int32))), .val (.ref w_UPPER), .val (.int (0 : Int32))] [(.int p1), (.ref w_UPPER)])) rfl (by rw [hml]; rfl) (Steps.refl _) (argsL := [(.int p1)]) (rest := []) (lenOf pd_0 rfl) rfl (by show 2 * 0 + _ ≤ _; exact Nat.le_of_eq rfl) (hb hby at_150) (fun _ _ => ⟨rfl, e15, (by decide : 0 + 0 ≤ _), (by decide : 0 + 0 ≤ _)⟩)
          dsimp only [Pt.U, Pt.locs, Pt.cells, Pt.slots] at X22 l22 y22 z22 st22 hQ22
          subst l22 y22 z22
          obtain ⟨rfl, Nq22, q22_0⟩ := hQ22
          have N22 := Fr.app N0 Nq22
          refine Go.tr st22 ?_
          show Go p e below _ (T22.setTop (mkF m 153 #[.val (.int p0), .val (.int p1), .val (.int ((p0 &&& (2147483647 : Int32)) % (6 : Int32))), .val (.ref w_UPPER), .val (.int (0 : Int32))] [(.int (0 : Int32))]))
          refine Go.of (fun _ k => XS.iload X22.here hx rfl (hb hby at_153) rfl  k) ?_
          show Go p e below _ (T22.setTop (mkF m 155 #[.val (.int p0), .val (.int p1), .val (.int ((p0 &&& (2147483647 : Int32)) % (6 : Int32))), .val (.ref w_UPPER), .val (.int (0 : Int32))] [(.int (0 : Int32)), (.int (0 : Int32))]))
          refine Go.of (fun _ k => XS.icmpNo X22.here hx rfl (hb hby at_155) rfl (teq (by decide : (0 : Int32) = (0 : Int32))).2 k) ?_
          show Go p e below _ (T22.setTop (mkF m 158 #[.val (.int p0), .val (.int p1), .val (.int ((p0 &&& (2147483647 : Int32)) % (6 : Int32))), .val (.ref w_UPPER), .val (.int (0 : Int32))] []))
          refine Go.of (fun _ k => XS.iconst X22.here hx rfl (hb hby at_158) k) ?_
          show Go p e below _ (T22.setTop (mkF m 159 #[.val (.int p0), .val (.int p1), .val (.int ((p0 &&& (2147483647 : Int32)) % (6 : Int32))), .val (.ref w_UPPER), .val (.int (0 : Int32))] [(.int (1 : Int32))]))
          refine Go.of (fun _ k => XS.goto X22.here hx rfl (pc0 := 159) (pc' := 163) rfl (hb hby at_159) (by decide) (by decide) k) ?_
          show Go p e below _ (T22.setTop (mkF m 163 #[.val (.int p0), .val (.int p1), .val (.int ((p0 &&& (2147483647 : Int32)) % (6 : Int32))), .val (.ref w_UPPER), .val (.int (0 : Int32))] [(.int (1 : Int32))]))
          obtain ⟨fs, hr, hrun, hended, hW, hsame⟩ := X22.leave (v := some (.int (1 : Int32))) (fun h => by rw [Bd.returns] at h; cases h)
          refine Go.mk _ _ ?_ hrun hended ⟨_, _, rfl, ?_, ⟨_, rfl⟩, hW, hsame.mono (by decide) (by decide)⟩
          · exact retN X22 hx (t := .boolean) Bd.returns (by simp) (hb hby at_163) hr
          · show Q0 Z p0 p1 w_SUBSTR w_UPPER w_LOWER w_LENGTH w_ABS w_COALESCE h0 n0 _ T22.heap _
            rw [q22_0]
            exact ⟨rfl, N22⟩
    ·
      refine Go.of (fun _ k => XS.icmpYes X0.here hx rfl (pc0 := 38) (pc' := 60) rfl (hb hby at_38) rfl (feq hc14).2 (by decide) (by decide) k) ?_
      show Go p e below _ (s₁.setTop (mkF m 60 #[.val (.int p0), .val (.int p1), .val (.int ((p0 &&& (2147483647 : Int32)) % (6 : Int32))), .unset, .unset] []))
      refine Go.of (fun _ k => XS.iloadN X0.here hx rfl (hb hby at_60) rfl  k) ?_
      show Go p e below _ (s₁.setTop (mkF m 61 #[.val (.int p0), .val (.int p1), .val (.int ((p0 &&& (2147483647 : Int32)) % (6 : Int32))), .unset, .unset] [(.int ((p0 &&& (2147483647 : Int32)) % (6 : Int32)))]))
      refine Go.of (fun _ k => XS.iconst X0.here hx rfl (hb hby at_61) k) ?_
      show Go p e below _ (s₁.setTop (mkF m 62 #[.val (.int p0), .val (.int p1), .val (.int ((p0 &&& (2147483647 : Int32)) % (6 : Int32))), .unset, .unset] [(.int (2 : Int32)), (.int ((p0 &&& (2147483647 : Int32)) % (6 : Int32)))]))
      by_cases hc24 : ((p0 &&& (2147483647 : Int32)) % (6 : Int32)) = (2 : Int32)
      ·
        refine Go.of (fun _ k => XS.icmpNo X0.here hx rfl (hb hby at_62) rfl (teq hc24).2 k) ?_
        show Go p e below _ (s₁.setTop (mkF m 65 #[.val (.int p0), .val (.int p1), .val (.int ((p0 &&& (2147483647 : Int32)) % (6 : Int32))), .unset, .unset] []))
        obtain ⟨T25, X25, e25, st25⟩ := getS2 X0 hx hZ hown (host := "") (Or.inl (hw _ (List.mem_of_getElem? (i := 13) rfl))) Via.refl e0 S_LOWER (g := (mkF m 65 #[.val (.int p0), .val (.int p1), .val (.int ((p0 &&& (2147483647 : Int32)) % (6 : Int32))), .unset, .unset] [])) rfl (hb hby at_65)
        refine Go.of st25 ?_
        show Go p e below _ (T25.setTop (mkF m 68 #[.val (.int p0), .val (.int p1), .val (.int ((p0 &&& (2147483647 : Int32)) % (6 : Int32))), .unset, .unset] [(.ref w_LOWER)]))
        refine Go.of (fun _ k => XS.astoreN X25.here hx rfl (hb hby at_68) rfl rfl (l' := #[.val (.int p0), .val (.int p1), .val (.int ((p0 &&& (2147483647 : Int32)) % (6 : Int32))), .val (.ref w_LOWER), .unset]) rfl k) ?_
        show Go p e below _ (T25.setTop (mkF m 69 #[.val (.int p0), .val (.int p1), .val (.int ((p0 &&& (2147483647 : Int32)) % (6 : Int32))), .val (.ref w_LOWER), .unset] []))
        refine Go.of (fun _ k => XS.iloadN X25.here hx rfl (hb hby at_69) rfl  k) ?_
        show Go p e below _ (T25.setTop (mkF m 70 #[.val (.int p0), .val (.int p1), .val (.int ((p0 &&& (2147483647 : Int32)) % (6 : Int32))), .val (.ref w_LOWER), .unset] [(.int p1)]))
        refine Go.of (fun _ k => XS.iconst X25.here hx rfl (hb hby at_70) k) ?_
        show Go p e below _ (T25.setTop (mkF m 71 #[.val (.int p0), .val (.int p1), .val (.int ((p0 &&& (2147483647 : Int32)) % (6 : Int32))), .val (.ref w_LOWER), .unset] [(.int (1 : Int32)), (.int p1)]))
        by_cases hc26 : p1 = (1 : Int32)
        ·
          refine Go.of (fun _ k => XS.icmpNo X25.here hx rfl (hb hby at_71) rfl (teq hc26).2 k) ?_
          show Go p e below _ (T25.setTop (mkF m 74 #[.val (.int p0), .val (.int p1), .val (.int ((p0 &&& (2147483647 : Int32)) % (6 : Int32))), .val (.ref w_LOWER), .unset] []))
          refine Go.of (fun _ k => XS.iconst X25.here hx rfl (hb hby at_74) k) ?_
          show Go p e below _ (T25.setTop (mkF m 75 #[.val (.int p0), .val (.int p1), .val (.int ((p0 &&& (2147483647 : Int32)) % (6 : Int32))), .val (.ref w_LOWER), .unset] [(.int (1 : Int32))]))
          refine Go.of (fun _ k => XS.goto X25.here hx rfl (pc0 := 75) (pc' := 79) rfl (hb hby at_75) (by decide) (by decide) k) ?_
          show Go p e below _ (T25.setTop (mkF m 79 #[.val (.int p0), .val (.int p1), .val (.int ((p0 &&& (2147483647 : Int32)) % (6 : Int32))), .val (.ref w_LOWER), .unset] [(.int (1 : Int32))]))
          refine Go.of (fun _ k => XS.istore X25.here hx rfl (hb hby at_79) rfl (l' := #[.val (.int p0), .val (.int p1), .val (.int ((p0 &&& (2147483647 : Int32)) % (6 : Int32))), .val (.ref w_LOWER), .val (.int (1 : Int32))]) rfl k) ?_
          show Go p e below _ (T25.setTop (mkF m 81 #[.val (.int p0), .val (.int p1), .val (.int ((p0 &&& (2147483647 : Int32)) % (6 : Int32))), .val (.ref w_LOWER), .val (.int (1 : Int32))] []))
          refine Go.of (fun _ k => XS.goto X25.here hx rfl (pc0 := 81) (pc' := 148) rfl (hb hby at_81) (by decide) (by decide) k) ?_
          show Go p e below _ (T25.setTop (mkF m 148 #[.val (.int p0), .val (.int p1), .val (.int ((p0 &&& (2147483647 : Int32)) % (6 : Int32))), .val (.ref w_LOWER), .val (.int (1 : Int32))] []))
          refine Go.of (fun _ k => XS.aloadN X25.here hx rfl (hb hby at_148) rfl rfl k) ?_
          show Go p e below _ (T25.setTop (mkF m 149 #[.val (.int p0), .val (.int p1), .val (.int ((p0 &&& (2147483647 : Int32)) % (6 : Int32))), .val (.ref w_LOWER), .val (.int (1 : Int32))] [(.ref w_LOWER)]))
          refine Go.of (fun _ k => XS.iloadN X25.here hx rfl (hb hby at_149) rfl  k) ?_
          show Go p e below _ (T25.setTop (mkF m 150 #[.val (.int p0), .val (.int p1), .val (.int ((p0 &&& (2147483647 : Int32)) % (6 : Int32))), .val (.ref w_LOWER), .val (.int (1 : Int32))] [(.int p1), (.ref w_LOWER)]))
          obtain ⟨cq27, kq27, q27a, q27b, q27c⟩ := isOf hZ e25 E_w_LOWER
          obtain ⟨_, _, ⟨T27, L27, k27, n27⟩, -, X27, ⟨Lc27, hQ27, l27, y27, z27⟩, st27⟩ := X25.virtualBack hx (y := (⟨"com/example/tallyset/tallyset/Operator", "takes", "(I)Z"⟩ : MethodName)) (z := (⟨"com/example/tallyset/tallyset/Operator", "takes", "(I)Z"⟩ : MethodName)) hown (mvT hZ (hw _ (List.mem_of_getElem? (i := 4) rfl))) (mvT hZ (hw _ (List.mem_of_getElem? (i := 5) rfl))) (notFace_of_selects (args := #[]) (mvT hZ (hw _ (List.mem_of_getElem? (i := 7) rfl)))) (mvT hZ (hw _ (List.mem_of_getElem? (i := 7) rfl))) (mvT hZ (hw _ (List.mem_of_getElem? (i := 6) rfl))) (by decide) (backOf (W := 0) (rm1_ok l Z a0 hw [] w_LOWER p1 (1 : Int32) (1 : Int32) h0 n0 Z0 F_w_LOWER_minOperands (by rw [hc26]; decide : ¬ (p1 < (1 : Int32))) F_w_LOWER_maxOperands (by rw [hc26]; decide : ¬ ((1 : Int32) < p1))) hZ (hw _ (List.mem_of_getElem? (i := 8) rfl)) (hw _ (List.mem_of_getElem? (i := 2) rfl)) (by decide) (by decide)) q27a q27c (g := (mkF m 150 #[.val (.int p0), .val (.int p1), .val (.int ((p0 &&& (2147483647 : Int32)) % (6 : Int32))), .val (.ref w_LOWER), .val (.int (1 : Int32))] [(.int p1), (.ref w_LOWER)])) rfl (by rw [hml]; rfl) (Steps.refl _) (argsL := [(.int p1)]) (rest := []) (lenOf pd_0 rfl) rfl (by show 2 * 0 + _ ≤ _; exact Nat.le_of_eq rfl) (hb hby at_150) (fun _ _ => ⟨rfl, e25, (by decide : 0 + 0 ≤ _), (by decide : 0 + 0 ≤ _)⟩)
          dsimp only [Pt.U, Pt.locs, Pt.cells, Pt.slots] at X27 l27 y27 z27 st27 hQ27
          subst l27 y27 z27
          obtain ⟨rfl, Nq27, q27_0⟩ := hQ27
          have N27 := Fr.app N0 Nq27
          refine Go.tr st27 ?_
          show Go p e below _ (T27.setTop (mkF m 153 #[.val (.int p0), .val (.int p1), .val (.int ((p0 &&& (2147483647 : Int32)) % (6 : Int32))), .val (.ref w_LOWER), .val (.int (1 : Int32))] [(.int (1 : Int32))]))
          refine Go.of (fun _ k => XS.iload X27.here hx rfl (hb hby at_153) rfl  k) ?_
          show Go p e below _ (T27.setTop (mkF m 155 #[.val (.int p0), .val (.int p1), .val (.int ((p0 &&& (2147483647 : Int32)) % (6 : Int32))), .val (.ref w_LOWER), .val (.int (1 : Int32))] [(.int (1 : Int32)), (.int (1 : Int32))]))
          refine Go.of (fun _ k => XS.icmpNo X27.here hx rfl (hb hby at_155) rfl (teq (by decide : (1 : Int32) = (1 : Int32))).2 k) ?_
          show Go p e below _ (T27.setTop (mkF m 158 #[.val (.int p0), .val (.int p1), .val (.int ((p0 &&& (2147483647 : Int32)) % (6 : Int32))), .val (.ref w_LOWER), .val (.int (1 : Int32))] []))
          refine Go.of (fun _ k => XS.iconst X27.here hx rfl (hb hby at_158) k) ?_
          show Go p e below _ (T27.setTop (mkF m 159 #[.val (.int p0), .val (.int p1), .val (.int ((p0 &&& (2147483647 : Int32)) % (6 : Int32))), .val (.ref w_LOWER), .val (.int (1 : Int32))] [(.int (1 : Int32))]))
          refine Go.of (fun _ k => XS.goto X27.here hx rfl (pc0 := 159) (pc' := 163) rfl (hb hby at_159) (by decide) (by decide) k) ?_
          show Go p e below _ (T27.setTop (mkF m 163 #[.val (.int p0), .val (.int p1), .val (.int ((p0 &&& (2147483647 : Int32)) % (6 : Int32))), .val (.ref w_LOWER), .val (.int (1 : Int32))] [(.int (1 : Int32))]))
          obtain ⟨fs, hr, hrun, hended, hW, hsame⟩ := X27.leave (v := some (.int (1 : Int32))) (fun h => by rw [Bd.returns] at h; cases h)
          refine Go.mk _ _ ?_ hrun hended ⟨_, _, rfl, ?_, ⟨_, rfl⟩, hW, hsame.mono (by decide) (by decide)⟩
          · exact retN X27 hx (t := .boolean) Bd.returns (by simp) (hb hby at_163) hr
          · show Q0 Z p0 p1 w_SUBSTR w_UPPER w_LOWER w_LENGTH w_ABS w_COALESCE h0 n0 _ T27.heap _
            rw [q27_0]
            exact ⟨rfl, N27⟩
        ·
          refine Go.of (fun _ k => XS.icmpYes X25.here hx rfl (pc0 := 71) (pc' := 78) rfl (hb hby at_71) rfl (feq hc26).2 (by decide) (by decide) k) ?_
          show Go p e below _ (T25.setTop (mkF m 78 #[.val (.int p0), .val (.int p1), .val (.int ((p0 &&& (2147483647 : Int32)) % (6 : Int32))), .val (.ref w_LOWER), .unset] []))
          refine Go.of (fun _ k => XS.iconst X25.here hx rfl (hb hby at_78) k) ?_
          show Go p e below _ (T25.setTop (mkF m 79 #[.val (.int p0), .val (.int p1), .val (.int ((p0 &&& (2147483647 : Int32)) % (6 : Int32))), .val (.ref w_LOWER), .unset] [(.int (0 : Int32))]))
          refine Go.of (fun _ k => XS.istore X25.here hx rfl (hb hby at_79) rfl (l' := #[.val (.int p0), .val (.int p1), .val (.int ((p0 &&& (2147483647 : Int32)) % (6 : Int32))), .val (.ref w_LOWER), .val (.int (0 : Int32))]) rfl k) ?_
          show Go p e below _ (T25.setTop (mkF m 81 #[.val (.int p0), .val (.int p1), .val (.int ((p0 &&& (2147483647 : Int32)) % (6 : Int32))), .val (.ref w_LOWER), .val (.int (0 : Int32))] []))
          refine Go.of (fun _ k => XS.goto X25.here hx rfl (pc0 := 81) (pc' := 148) rfl (hb hby at_81) (by decide) (by decide) k) ?_
          show Go p e below _ (T25.setTop (mkF m 148 #[.val (.int p0), .val (.int p1), .val (.int ((p0 &&& (2147483647 : Int32)) % (6 : Int32))), .val (.ref w_LOWER), .val (.int (0 : Int32))] []))
          refine Go.of (fun _ k => XS.aloadN X25.here hx rfl (hb hby at_148) rfl rfl k) ?_
          show Go p e below _ (T25.setTop (mkF m 149 #[.val (.int p0), .val (.int p1), .val (.int ((p0 &&& (2147483647 : Int32)) % (6 : Int32))), .val (.ref w_LOWER), .val (.int (0 : Int32))] [(.ref w_LOWER)]))
          refine Go.of (fun _ k => XS.iloadN X25.here hx rfl (hb hby at_149) rfl  k) ?_
          show Go p e below _ (T25.setTop (mkF m 150 #[.val (.int p0), .val (.int p1), .val (.int ((p0 &&& (2147483647 : Int32)) % (6 : Int32))), .val (.ref w_LOWER), .val (.int (0 : Int32))] [(.int p1), (.ref w_LOWER)]))
          by_cases hs29 : p1 < (1 : Int32)
          ·
            show Go p e below _ (T25.setTop (mkF m 150 #[.val (.int p0), .val (.int p1), .val (.int ((p0 &&& (2147483647 : Int32)) % (6 : Int32))), .val (.ref w_LOWER), .val (.int (0 : Int32))] [(.int p1), (.ref w_LOWER)]))
            obtain ⟨cq30, kq30, q30a, q30b, q30c⟩ := isOf hZ e25 E_w_LOWER
            obtain ⟨_, _, ⟨T30, L30, k30, n30⟩, -, X30, ⟨Lc30, hQ30, l30, y30, z30⟩, st30⟩ := X25.virtualBack hx (y := (⟨"com/example/tallyset/tallyset/Operator", "takes", "(I)Z"⟩ : MethodName)) (z := (⟨"com/example/tallyset/tallyset/Operator", "takes", "(I)Z"⟩ : MethodName)) hown (mvT hZ (hw _ (List.mem_of_getElem? (i := 4) rfl))) (mvT hZ (hw _ (List.mem_of_getElem? (i := 5) rfl))) (notFace_of_selects (args := #[]) (mvT hZ (hw _ (List.mem_of_getElem? (i := 7) rfl)))) (mvT hZ (hw _ (List.mem_of_getElem? (i := 7) rfl))) (mvT hZ (hw _ (List.mem_of_getElem? (i := 6) rfl))) (by decide) (backOf (W := 0) (rm1_lo l Z a0 hw [] w_LOWER p1 (1 : Int32) h0 n0 Z0 F_w_LOWER_minOperands hs29) hZ (hw _ (List.mem_of_getElem? (i := 8) rfl)) (hw _ (List.mem_of_getElem? (i := 2) rfl)) (by decide) (by decide)) q30a q30c (g := (mkF m 150 #[.val (.int p0), .val (.int p1), .val (.int ((p0 &&& (2147483647 : Int32)) % (6 : Int32))), .val (.ref w_LOWER), .val (.int (0 : Int32))] [(.int p1), (.ref w_LOWER)])) rfl (by rw [hml]; rfl) (Steps.refl _) (argsL := [(.int p1)]) (rest := []) (lenOf pd_0 rfl) rfl (by show 2 * 0 + _ ≤ _; exact Nat.le_of_eq rfl) (hb hby at_150) (fun _ _ => ⟨rfl, e25, (by decide : 0 + 0 ≤ _), (by decide : 0 + 0 ≤ _)⟩)
            dsimp only [Pt.U, Pt.locs, Pt.cells, Pt.slots] at X30 l30 y30 z30 st30 hQ30
            subst l30 y30 z30
            obtain ⟨rfl, Nq30, q30_0⟩ := hQ30
            have N30 := Fr.app N0 Nq30
            refine Go.tr st30 ?_
            show Go p e below _ (T30.setTop (mkF m 153 #[.val (.int p0), .val (.int p1), .val (.int ((p0 &&& (2147483647 : Int32)) % (6 : Int32))), .val (.ref w_LOWER), .val (.int (0 : Int32))] [(.int (0 : Int32))]))
            refine Go.of (fun _ k => XS.iload X30.here hx rfl (hb hby at_153) rfl  k) ?_
            show Go p e below _ (T30.setTop (mkF m 155 #[.val (.int p0), .val (.int p1), .val (.int ((p0 &&& (2147483647 : Int32)) % (6 : Int32))), .val (.ref w_LOWER), .val (.int (0 : Int32))] [(.int (0 : Int32)), (.int (0 : Int32))]))
            refine Go.of (fun _ k => XS.icmpNo X30.here hx rfl (hb hby at_155) rfl (teq (by decide : (0 : Int32) = (0 : Int32))).2 k) ?_
            show Go p e below _ (T30.setTop (mkF m 158 #[.val (.int p0), .val (.int p1), .val (.int ((p0 &&& (2147483647 : Int32)) % (6 : Int32))), .val (.ref w_LOWER), .val (.int (0 : Int32))] []))
            refine Go.of (fun _ k => XS.iconst X30.here hx rfl (hb hby at_158) k) ?_
            show Go p e below _ (T30.setTop (mkF m 159 #[.val (.int p0), .val (.int p1), .val (.int ((p0 &&& (2147483647 : Int32)) % (6 : Int32))), .val (.ref w_LOWER), .val (.int (0 : Int32))] [(.int (1 : Int32))]))
            refine Go.of (fun _ k => XS.goto X30.here hx rfl (pc0 := 159) (pc' := 163) rfl (hb hby at_159) (by decide) (by decide) k) ?_
            show Go p e below _ (T30.setTop (mkF m 163 #[.val (.int p0), .val (.int p1), .val (.int ((p0 &&& (2147483647 : Int32)) % (6 : Int32))), .val (.ref w_LOWER), .val (.int (0 : Int32))] [(.int (1 : Int32))]))
            obtain ⟨fs, hr, hrun, hended, hW, hsame⟩ := X30.leave (v := some (.int (1 : Int32))) (fun h => by rw [Bd.returns] at h; cases h)
            refine Go.mk _ _ ?_ hrun hended ⟨_, _, rfl, ?_, ⟨_, rfl⟩, hW, hsame.mono (by decide) (by decide)⟩
            · exact retN X30 hx (t := .boolean) Bd.returns (by simp) (hb hby at_163) hr
            · show Q0 Z p0 p1 w_SUBSTR w_UPPER w_LOWER w_LENGTH w_ABS w_COALESCE h0 n0 _ T30.heap _
              rw [q30_0]
              exact ⟨rfl, N30⟩
          ·
            show Go p e below _ (T25.setTop (mkF m 150 #[.val (.int p0), .val (.int p1), .val (.int ((p0 &&& (2147483647 : Int32)) % (6 : Int32))), .val (.ref w_LOWER), .val (.int (0 : Int32))] [(.int p1), (.ref w_LOWER)]))
            obtain ⟨cq32, kq32, q32a, q32b, q32c⟩ := isOf hZ e25 E_w_LOWER
            obtain ⟨_, _, ⟨T32, L32, k32, n32⟩, -, X32, ⟨Lc32, hQ32, l32, y32, z32⟩, st32⟩ := X25.virtualBack hx (y := (⟨"com/example/tallyset/tallyset/Operator", "takes", "(I)Z"⟩ : MethodName)) (z := (⟨"com/example/tallyset/tallyset/Operator", "takes", "(I)Z"⟩ : MethodName)) hown (mvT hZ (hw _ (List.mem_of_getElem? (i := 4) rfl))) (mvT hZ (hw _ (List.mem_of_getElem? (i := 5) rfl))) (notFace_of_selects (args := #[]) (mvT hZ (hw _ (List.mem_of_getElem? (i := 7) rfl)))) (mvT hZ (hw _ (List.mem_of_getElem? (i := 7) rfl))) (mvT hZ (hw _ (List.mem_of_getElem? (i := 6) rfl))) (by decide) (backOf (W := 0) (rm1_hi l Z a0 hw [] w_LOWER p1 (1 : Int32) (1 : Int32) h0 n0 Z0 F_w_LOWER_minOperands hs29 F_w_LOWER_maxOperands (own_i1 p1 hc26 hs29)) hZ (hw _ (List.mem_of_getElem? (i := 8) rfl)) (hw _ (List.mem_of_getElem? (i := 2) rfl)) (by decide) (by decide)) q32a q32c (g := (mkF m 150 #[.val (.int p0), .val (.int p1), .val (.int ((p0 &&& (2147483647 : Int32)) % (6 : Int32))), .val (.ref w_LOWER), .val (.int (0 : Int32))] [(.int p1), (.ref w_LOWER)])) rfl (by rw [hml]; rfl) (Steps.refl _) (argsL := [(.int p1)]) (rest := []) (lenOf pd_0 rfl) rfl (by show 2 * 0 + _ ≤ _; exact Nat.le_of_eq rfl) (hb hby at_150) (fun _ _ => ⟨rfl, e25, (by decide : 0 + 0 ≤ _), (by decide : 0 + 0 ≤ _)⟩)
            dsimp only [Pt.U, Pt.locs, Pt.cells, Pt.slots] at X32 l32 y32 z32 st32 hQ32
            subst l32 y32 z32
            obtain ⟨rfl, Nq32, q32_0⟩ := hQ32
            have N32 := Fr.app N0 Nq32
            refine Go.tr st32 ?_
            show Go p e below _ (T32.setTop (mkF m 153 #[.val (.int p0), .val (.int p1), .val (.int ((p0 &&& (2147483647 : Int32)) % (6 : Int32))), .val (.ref w_LOWER), .val (.int (0 : Int32))] [(.int (0 : Int32))]))
            refine Go.of (fun _ k => XS.iload X32.here hx rfl (hb hby at_153) rfl  k) ?_
            show Go p e below _ (T32.setTop (mkF m 155 #[.val (.int p0), .val (.int p1), .val (.int ((p0 &&& (2147483647 : Int32)) % (6 : Int32))), .val (.ref w_LOWER), .val (.int (0 : Int32))] [(.int (0 : Int32)), (.int (0 : Int32))]))
            refine Go.of (fun _ k => XS.icmpNo X32.here hx rfl (hb hby at_155) rfl (teq (by decide : (0 : Int32) = (0 : Int32))).2 k) ?_
            show Go p e below _ (T32.setTop (mkF m 158 #[.val (.int p0), .val (.int p1), .val (.int ((p0 &&& (2147483647 : Int32)) % (6 : Int32))), .val (.ref w_LOWER), .val (.int (0 : Int32))] []))
            refine Go.of (fun _ k => XS.iconst X32.here hx rfl (hb hby at_158) k) ?_
            show Go p e below _ (T32.setTop (mkF m 159 #[.val (.int p0), .val (.int p1), .val (.int ((p0 &&& (2147483647 : Int32)) % (6 : Int32))), .val (.ref w_LOWER), .val (.int (0 : Int32))] [(.int (1 : Int32))]))
            refine Go.of (fun _ k => XS.goto X32.here hx rfl (pc0 := 159) (pc' := 163) rfl (hb hby at_159) (by decide) (by decide) k) ?_
            show Go p e below _ (T32.setTop (mkF m 163 #[.val (.int p0), .val (.int p1), .val (.int ((p0 &&& (2147483647 : Int32)) % (6 : Int32))), .val (.ref w_LOWER), .val (.int (0 : Int32))] [(.int (1 : Int32))]))
            obtain ⟨fs, hr, hrun, hended, hW, hsame⟩ := X32.leave (v := some (.int (1 : Int32))) (fun h => by rw [Bd.returns] at h; cases h)
            refine Go.mk _ _ ?_ hrun hended ⟨_, _, rfl, ?_, ⟨_, rfl⟩, hW, hsame.mono (by decide) (by decide)⟩
            · exact retN X32 hx (t := .boolean) Bd.returns (by simp) (hb hby at_163) hr
            · show Q0 Z p0 p1 w_SUBSTR w_UPPER w_LOWER w_LENGTH w_ABS w_COALESCE h0 n0 _ T32.heap _
              rw [q32_0]
              exact ⟨rfl, N32⟩
      ·
        refine Go.of (fun _ k => XS.icmpYes X0.here hx rfl (pc0 := 62) (pc' := 84) rfl (hb hby at_62) rfl (feq hc24).2 (by decide) (by decide) k) ?_
        show Go p e below _ (s₁.setTop (mkF m 84 #[.val (.int p0), .val (.int p1), .val (.int ((p0 &&& (2147483647 : Int32)) % (6 : Int32))), .unset, .unset] []))
        refine Go.of (fun _ k => XS.iloadN X0.here hx rfl (hb hby at_84) rfl  k) ?_
        show Go p e below _ (s₁.setTop (mkF m 85 #[.val (.int p0), .val (.int p1), .val (.int ((p0 &&& (2147483647 : Int32)) % (6 : Int32))), .unset, .unset] [(.int ((p0 &&& (2147483647 : Int32)) % (6 : Int32)))]))
        refine Go.of (fun _ k => XS.iconst X0.here hx rfl (hb hby at_85) k) ?_
        show Go p e below _ (s₁.setTop (mkF m 86 #[.val (.int p0), .val (.int p1), .val (.int ((p0 &&& (2147483647 : Int32)) % (6 : Int32))), .unset, .unset] [(.int (3 : Int32)), (.int ((p0 &&& (2147483647 : Int32)) % (6 : Int32)))]))
        by_cases hc34 : ((p0 &&& (2147483647 : Int32)) % (6 : Int32)) = (3 : Int32)
        ·
          refine Go.of (fun _ k => XS.icmpNo X0.here hx rfl (hb hby at_86) rfl (teq hc34).2 k) ?_
          show Go p e below _ (s₁.setTop (mkF m 89 #[.val (.int p0), .val (.int p1), .val (.int ((p0 &&& (2147483647 : Int32)) % (6 : Int32))), .unset, .unset] []))
          obtain ⟨T35, X35, e35, st35⟩ := getS2 X0 hx hZ hown (host := "") (Or.inl (hw _ (List.mem_of_getElem? (i := 21) rfl))) Via.refl e0 S_LENGTH (g := (mkF m 89 #[.val (.int p0), .val (.int p1), .val (.int ((p0 &&& (2147483647 : Int32)) % (6 : Int32))), .unset, .unset] [])) rfl (hb hby at_89)
          refine Go.of st35 ?_
          show Go p e below _ (T35.setTop (mkF m 92 #[.val (.int p0), .val (.int p1), .val (.int ((p0 &&& (2147483647 : Int32)) % (6 : Int32))), .unset, .unset] [(.ref w_LENGTH)]))
          refine Go.of (fun _ k => XS.astoreN X35.here hx rfl (hb hby at_92) rfl rfl (l' := #[.val (.int p0), .val (.int p1), .val (.int ((p0 &&& (2147483647 : Int32)) % (6 : Int32))), .val (.ref w_LENGTH), .unset]) rfl k) ?_
          show Go p e below _ (T35.setTop (mkF m 93 #[.val (.int p0), .val (.int p1), .val (.int ((p0 &&& (2147483647 : Int32)) % (6 : Int32))), .val (.ref w_LENGTH), .unset] []))
          refine Go.of (fun _ k => XS.iloadN X35.here hx rfl (hb hby at_93) rfl  k) ?_
          show Go p e below _ (T35.setTop (mkF m 94 #[.val (.int p0), .val (.int p1), .val (.int ((p0 &&& (2147483647 : Int32)) % (6 : Int32))), .val (.ref w_LENGTH), .unset] [(.int p1)]))
          refine Go.of (fun _ k => XS.iconst X35.here hx rfl (hb hby at_94) k) ?_
          show Go p e below _ (T35.setTop (mkF m 95 #[.val (.int p0), .val (.int p1), .val (.int ((p0 &&& (2147483647 : Int32)) % (6 : Int32))), .val (.ref w_LENGTH), .unset] [(.int (1 : Int32)), (.int p1)]))
          by_cases hc36 : p1 = (1 : Int32)
          ·
            refine Go.of (fun _ k => XS.icmpNo X35.here hx rfl (hb hby at_95) rfl (teq hc36).2 k) ?_
            show Go p e below _ (T35.setTop (mkF m 98 #[.val (.int p0), .val (.int p1), .val (.int ((p0 &&& (2147483647 : Int32)) % (6 : Int32))), .val (.ref w_LENGTH), .unset] []))
            refine Go.of (fun _ k => XS.iconst X35.here hx rfl (hb hby at_98) k) ?_
            show Go p e below _ (T35.setTop (mkF m 99 #[.val (.int p0), .val (.int p1), .val (.int ((p0 &&& (2147483647 : Int32)) % (6 : Int32))), .val (.ref w_LENGTH), .unset] [(.int (1 : Int32))]))
            refine Go.of (fun _ k => XS.goto X35.here hx rfl (pc0 := 99) (pc' := 103) rfl (hb hby at_99) (by decide) (by decide) k) ?_
            show Go p e below _ (T35.setTop (mkF m 103 #[.val (.int p0), .val (.int p1), .val (.int ((p0 &&& (2147483647 : Int32)) % (6 : Int32))), .val (.ref w_LENGTH), .unset] [(.int (1 : Int32))]))
            refine Go.of (fun _ k => XS.istore X35.here hx rfl (hb hby at_103) rfl (l' := #[.val (.int p0), .val (.int p1), .val (.int ((p0 &&& (2147483647 : Int32)) % (6 : Int32))), .val (.ref w_LENGTH), .val (.int (1 : Int32))]) rfl k) ?_
            show Go p e below _ (T35.setTop (mkF m 105 #[.val (.int p0), .val (.int p1), .val (.int ((p0 &&& (2147483647 : Int32)) % (6 : Int32))), .val (.ref w_LENGTH), .val (.int (1 : Int32))] []))
            refine Go.of (fun _ k => XS.goto X35.here hx rfl (pc0 := 105) (pc' := 148) rfl (hb hby at_105) (by decide) (by decide) k) ?_
            show Go p e below _ (T35.setTop (mkF m 148 #[.val (.int p0), .val (.int p1), .val (.int ((p0 &&& (2147483647 : Int32)) % (6 : Int32))), .val (.ref w_LENGTH), .val (.int (1 : Int32))] []))
            refine Go.of (fun _ k => XS.aloadN X35.here hx rfl (hb hby at_148) rfl rfl k) ?_
            show Go p e below _ (T35.setTop (mkF m 149 #[.val (.int p0), .val (.int p1), .val (.int ((p0 &&& (2147483647 : Int32)) % (6 : Int32))), .val (.ref w_LENGTH), .val (.int (1 : Int32))] [(.ref w_LENGTH)]))
            refine Go.of (fun _ k => XS.iloadN X35.here hx rfl (hb hby at_149) rfl  k) ?_
            show Go p e below _ (T35.setTop (mkF m 150 #[.val (.int p0), .val (.int p1), .val (.int ((p0 &&& (2147483647 : Int32)) % (6 : Int32))), .val (.ref w_LENGTH), .val (.int (1 : Int32))] [(.int p1), (.ref w_LENGTH)]))
            obtain ⟨cq37, kq37, q37a, q37b, q37c⟩ := isOf hZ e35 E_w_LENGTH
            obtain ⟨_, _, ⟨T37, L37, k37, n37⟩, -, X37, ⟨Lc37, hQ37, l37, y37, z37⟩, st37⟩ := X35.virtualBack hx (y := (⟨"com/example/tallyset/tallyset/Operator", "takes", "(I)Z"⟩ : MethodName)) (z := (⟨"com/example/tallyset/tallyset/Operator", "takes", "(I)Z"⟩ : MethodName)) hown (mvT hZ (hw _ (List.mem_of_getElem? (i := 4) rfl))) (mvT hZ (hw _ (List.mem_of_getElem? (i := 5) rfl))) (notFace_of_selects (args := #[]) (mvT hZ (hw _ (List.mem_of_getElem? (i := 7) rfl)))) (mvT hZ (hw _ (List.mem_of_getElem? (i := 7) rfl))) (mvT hZ (hw _ (List.mem_of_getElem? (i := 6) rfl))) (by decide) (backOf (W := 0) (rm1_ok l Z a0 hw [] w_LENGTH p1 (1 : Int32) (1 : Int32) h0 n0 Z0 F_w_LENGTH_minOperands (by rw [hc36]; decide : ¬ (p1 < (1 : Int32))) F_w_LENGTH_maxOperands (by rw [hc36]; decide : ¬ ((1 : Int32) < p1))) hZ (hw _ (List.mem_of_getElem? (i := 8) rfl)) (hw _ (List.mem_of_getElem? (i := 2) rfl)) (by decide) (by decide)) q37a q37c (g := (mkF m 150 #[.val (.int p0), .val (.int p1), .val (.int ((p0 &&& (2147483647 : Int32)) % (6 : Int32))), .val (.ref w_LENGTH), .val (.int (1 : Int32))] [(.int p1), (.ref w_LENGTH)])) rfl (by rw [hml]; rfl) (Steps.refl _) (argsL := [(.int p1)]) (rest := []) (lenOf pd_0 rfl) rfl (by show 2 * 0 + _ ≤ _; exact Nat.le_of_eq rfl) (hb hby at_150) (fun _ _ => ⟨rfl, e35, (by decide : 0 + 0 ≤ _), (by decide : 0 + 0 ≤ _)⟩)
            dsimp only [Pt.U, Pt.locs, Pt.cells, Pt.slots] at X37 l37 y37 z37 st37 hQ37
            subst l37 y37 z37
            obtain ⟨rfl, Nq37, q37_0⟩ := hQ37
            have N37 := Fr.app N0 Nq37
            refine Go.tr st37 ?_
            show Go p e below _ (T37.setTop (mkF m 153 #[.val (.int p0), .val (.int p1), .val (.int ((p0 &&& (2147483647 : Int32)) % (6 : Int32))), .val (.ref w_LENGTH), .val (.int (1 : Int32))] [(.int (1 : Int32))]))
            refine Go.of (fun _ k => XS.iload X37.here hx rfl (hb hby at_153) rfl  k) ?_
            show Go p e below _ (T37.setTop (mkF m 155 #[.val (.int p0), .val (.int p1), .val (.int ((p0 &&& (2147483647 : Int32)) % (6 : Int32))), .val (.ref w_LENGTH), .val (.int (1 : Int32))] [(.int (1 : Int32)), (.int (1 : Int32))]))
            refine Go.of (fun _ k => XS.icmpNo X37.here hx rfl (hb hby at_155) rfl (teq (by decide : (1 : Int32) = (1 : Int32))).2 k) ?_
            show Go p e below _ (T37.setTop (mkF m 158 #[.val (.int p0), .val (.int p1), .val (.int ((p0 &&& (2147483647 : Int32)) % (6 : Int32))), .val (.ref w_LENGTH), .val (.int (1 : Int32))] []))
            refine Go.of (fun _ k => XS.iconst X37.here hx rfl (hb hby at_158) k) ?_
            show Go p e below _ (T37.setTop (mkF m 159 #[.val (.int p0), .val (.int p1), .val (.int ((p0 &&& (2147483647 : Int32)) % (6 : Int32))), .val (.ref w_LENGTH), .val (.int (1 : Int32))] [(.int (1 : Int32))]))
            refine Go.of (fun _ k => XS.goto X37.here hx rfl (pc0 := 159) (pc' := 163) rfl (hb hby at_159) (by decide) (by decide) k) ?_
            show Go p e below _ (T37.setTop (mkF m 163 #[.val (.int p0), .val (.int p1), .val (.int ((p0 &&& (2147483647 : Int32)) % (6 : Int32))), .val (.ref w_LENGTH), .val (.int (1 : Int32))] [(.int (1 : Int32))]))
            obtain ⟨fs, hr, hrun, hended, hW, hsame⟩ := X37.leave (v := some (.int (1 : Int32))) (fun h => by rw [Bd.returns] at h; cases h)
            refine Go.mk _ _ ?_ hrun hended ⟨_, _, rfl, ?_, ⟨_, rfl⟩, hW, hsame.mono (by decide) (by decide)⟩
            · exact retN X37 hx (t := .boolean) Bd.returns (by simp) (hb hby at_163) hr
            · show Q0 Z p0 p1 w_SUBSTR w_UPPER w_LOWER w_LENGTH w_ABS w_COALESCE h0 n0 _ T37.heap _
              rw [q37_0]
              exact ⟨rfl, N37⟩
          ·
            refine Go.of (fun _ k => XS.icmpYes X35.here hx rfl (pc0 := 95) (pc' := 102) rfl (hb hby at_95) rfl (feq hc36).2 (by decide) (by decide) k) ?_
            show Go p e below _ (T35.setTop (mkF m 102 #[.val (.int p0), .val (.int p1), .val (.int ((p0 &&& (2147483647 : Int32)) % (6 : Int32))), .val (.ref w_LENGTH), .unset] []))
            refine Go.of (fun _ k => XS.iconst X35.here hx rfl (hb hby at_102) k) ?_
            show Go p e below _ (T35.setTop (mkF m 103 #[.val (.int p0), .val (.int p1), .val (.int ((p0 &&& (2147483647 : Int32)) % (6 : Int32))), .val (.ref w_LENGTH), .unset] [(.int (0 : Int32))]))
            refine Go.of (fun _ k => XS.istore X35.here hx rfl (hb hby at_103) rfl (l' := #[.val (.int p0), .val (.int p1), .val (.int ((p0 &&& (2147483647 : Int32)) % (6 : Int32))), .val (.ref w_LENGTH), .val (.int (0 : Int32))]) rfl k) ?_
            show Go p e below _ (T35.setTop (mkF m 105 #[.val (.int p0), .val (.int p1), .val (.int ((p0 &&& (2147483647 : Int32)) % (6 : Int32))), .val (.ref w_LENGTH), .val (.int (0 : Int32))] []))
            refine Go.of (fun _ k => XS.goto X35.here hx rfl (pc0 := 105) (pc' := 148) rfl (hb hby at_105) (by decide) (by decide) k) ?_
            show Go p e below _ (T35.setTop (mkF m 148 #[.val (.int p0), .val (.int p1), .val (.int ((p0 &&& (2147483647 : Int32)) % (6 : Int32))), .val (.ref w_LENGTH), .val (.int (0 : Int32))] []))
            refine Go.of (fun _ k => XS.aloadN X35.here hx rfl (hb hby at_148) rfl rfl k) ?_
            show Go p e below _ (T35.setTop (mkF m 149 #[.val (.int p0), .val (.int p1), .val (.int ((p0 &&& (2147483647 : Int32)) % (6 : Int32))), .val (.ref w_LENGTH), .val (.int (0 : Int32))] [(.ref w_LENGTH)]))
            refine Go.of (fun _ k => XS.iloadN X35.here hx rfl (hb hby at_149) rfl  k) ?_
            show Go p e below _ (T35.setTop (mkF m 150 #[.val (.int p0), .val (.int p1), .val (.int ((p0 &&& (2147483647 : Int32)) % (6 : Int32))), .val (.ref w_LENGTH), .val (.int (0 : Int32))] [(.int p1), (.ref w_LENGTH)]))
            by_cases hs39 : p1 < (1 : Int32)
            ·
              show Go p e below _ (T35.setTop (mkF m 150 #[.val (.int p0), .val (.int p1), .val (.int ((p0 &&& (2147483647 : Int32)) % (6 : Int32))), .val (.ref w_LENGTH), .val (.int (0 : Int32))] [(.int p1), (.ref w_LENGTH)]))
              obtain ⟨cq40, kq40, q40a, q40b, q40c⟩ := isOf hZ e35 E_w_LENGTH
              obtain ⟨_, _, ⟨T40, L40, k40, n40⟩, -, X40, ⟨Lc40, hQ40, l40, y40, z40⟩, st40⟩ := X35.virtualBack hx (y := (⟨"com/example/tallyset/tallyset/Operator", "takes", "(I)Z"⟩ : MethodName)) (z := (⟨"com/example/tallyset/tallyset/Operator", "takes", "(I)Z"⟩ : MethodName)) hown (mvT hZ (hw _ (List.mem_of_getElem? (i := 4) rfl))) (mvT hZ (hw _ (List.mem_of_getElem? (i := 5) rfl))) (notFace_of_selects (args := #[]) (mvT hZ (hw _ (List.mem_of_getElem? (i := 7) rfl)))) (mvT hZ (hw _ (List.mem_of_getElem? (i := 7) rfl))) (mvT hZ (hw _ (List.mem_of_getElem? (i := 6) rfl))) (by decide) (backOf (W := 0) (rm1_lo l Z a0 hw [] w_LENGTH p1 (1 : Int32) h0 n0 Z0 F_w_LENGTH_minOperands hs39) hZ (hw _ (List.mem_of_getElem? (i := 8) rfl)) (hw _ (List.mem_of_getElem? (i := 2) rfl)) (by decide) (by decide)) q40a q40c (g := (mkF m 150 #[.val (.int p0), .val (.int p1), .val (.int ((p0 &&& (2147483647 : Int32)) % (6 : Int32))), .val (.ref w_LENGTH), .val (.int (0 : Int32))] [(.int p1), (.ref w_LENGTH)])) rfl (by rw [hml]; rfl) (Steps.refl _) (argsL := [(.int p1)]) (rest := []) (lenOf pd_0 rfl) rfl (by show 2 * 0 + _ ≤ _; exact Nat.le_of_eq rfl) (hb hby at_150) (fun _ _ => ⟨rfl, e35, (by decide : 0 + 0 ≤ _), (by decide : 0 + 0 ≤ _)⟩)
              dsimp only [Pt.U, Pt.locs, Pt.cells, Pt.slots] at X40 l40 y40 z40 st40 hQ40
              subst l40 y40 z40
              obtain ⟨rfl, Nq40, q40_0⟩ := hQ40
              have N40 := Fr.app N0 Nq40
              refine Go.tr st40 ?_
              show Go p e below _ (T40.setTop (mkF m 153 #[.val (.int p0), .val (.int p1), .val (.int ((p0 &&& (2147483647 : Int32)) % (6 : Int32))), .val (.ref w_LENGTH), .val (.int (0 : Int32))] [(.int (0 : Int32))]))
              refine Go.of (fun _ k => XS.iload X40.here hx rfl (hb hby at_153) rfl  k) ?_
              show Go p e below _ (T40.setTop (mkF m 155 #[.val (.int p0), .val (.int p1), .val (.int ((p0 &&& (2147483647 : Int32)) % (6 : Int32))), .val (.ref w_LENGTH), .val (.int (0 : Int32))] [(.int (0 : Int32)), (.int (0 : Int32))]))
              refine Go.of (fun _ k => XS.icmpNo X40.here hx rfl (hb hby at_155) rfl (teq (by decide : (0 : Int32) = (0 : Int32))).2 k) ?_
              show Go p e below _ (T40.setTop (mkF m 158 #[.val (.int p0), .val (.int p1), .val (.int ((p0 &&& (2147483647 : Int32)) % (6 : Int32))), .val (.ref w_LENGTH), .val (.int (0 : Int32))] []))
              refine Go.of (fun _ k => XS.iconst X40.here hx rfl (hb hby at_158) k) ?_
              show Go p e below _ (T40.setTop (mkF m 159 #[.val (.int p0), .val (.int p1), .val (.int ((p0 &&& (2147483647 : Int32)) % (6 : Int32))), .val (.ref w_LENGTH), .val (.int (0 : Int32))] [(.int (1 : Int32))]))
              refine Go.of (fun _ k => XS.goto X40.here hx rfl (pc0 := 159) (pc' := 163) rfl (hb hby at_159) (by decide) (by decide) k) ?_
              show Go p e below _ (T40.setTop (mkF m 163 #[.val (.int p0), .val (.int p1), .val (.int ((p0 &&& (2147483647 : Int32)) % (6 : Int32))), .val (.ref w_LENGTH), .val (.int (0 : Int32))] [(.int (1 : Int32))]))
              obtain ⟨fs, hr, hrun, hended, hW, hsame⟩ := X40.leave (v := some (.int (1 : Int32))) (fun h => by rw [Bd.returns] at h; cases h)
              refine Go.mk _ _ ?_ hrun hended ⟨_, _, rfl, ?_, ⟨_, rfl⟩, hW, hsame.mono (by decide) (by decide)⟩
              · exact retN X40 hx (t := .boolean) Bd.returns (by simp) (hb hby at_163) hr
              · show Q0 Z p0 p1 w_SUBSTR w_UPPER w_LOWER w_LENGTH w_ABS w_COALESCE h0 n0 _ T40.heap _
                rw [q40_0]
                exact ⟨rfl, N40⟩
            ·
              show Go p e below _ (T35.setTop (mkF m 150 #[.val (.int p0), .val (.int p1), .val (.int ((p0 &&& (2147483647 : Int32)) % (6 : Int32))), .val (.ref w_LENGTH), .val (.int (0 : Int32))] [(.int p1), (.ref w_LENGTH)]))
              obtain ⟨cq42, kq42, q42a, q42b, q42c⟩ := isOf hZ e35 E_w_LENGTH
              obtain ⟨_, _, ⟨T42, L42, k42, n42⟩, -, X42, ⟨Lc42, hQ42, l42, y42, z42⟩, st42⟩ := X35.virtualBack hx (y := (⟨"com/example/tallyset/tallyset/Operator", "takes", "(I)Z"⟩ : MethodName)) (z := (⟨"com/example/tallyset/tallyset/Operator", "takes", "(I)Z"⟩ : MethodName)) hown (mvT hZ (hw _ (List.mem_of_getElem? (i := 4) rfl))) (mvT hZ (hw _ (List.mem_of_getElem? (i := 5) rfl))) (notFace_of_selects (args := #[]) (mvT hZ (hw _ (List.mem_of_getElem? (i := 7) rfl)))) (mvT hZ (hw _ (List.mem_of_getElem? (i := 7) rfl))) (mvT hZ (hw _ (List.mem_of_getElem? (i := 6) rfl))) (by decide) (backOf (W := 0) (rm1_hi l Z a0 hw [] w_LENGTH p1 (1 : Int32) (1 : Int32) h0 n0 Z0 F_w_LENGTH_minOperands hs39 F_w_LENGTH_maxOperands (own_i1 p1 hc36 hs39)) hZ (hw _ (List.mem_of_getElem? (i := 8) rfl)) (hw _ (List.mem_of_getElem? (i := 2) rfl)) (by decide) (by decide)) q42a q42c (g := (mkF m 150 #[.val (.int p0), .val (.int p1), .val (.int ((p0 &&& (2147483647 : Int32)) % (6 : Int32))), .val (.ref w_LENGTH), .val (.int (0 : Int32))] [(.int p1), (.ref w_LENGTH)])) rfl (by rw [hml]; rfl) (Steps.refl _) (argsL := [(.int p1)]) (rest := []) (lenOf pd_0 rfl) rfl (by show 2 * 0 + _ ≤ _; exact Nat.le_of_eq rfl) (hb hby at_150) (fun _ _ => ⟨rfl, e35, (by decide : 0 + 0 ≤ _), (by decide : 0 + 0 ≤ _)⟩)
              dsimp only [Pt.U, Pt.locs, Pt.cells, Pt.slots] at X42 l42 y42 z42 st42 hQ42
              subst l42 y42 z42
              obtain ⟨rfl, Nq42, q42_0⟩ := hQ42
              have N42 := Fr.app N0 Nq42
              refine Go.tr st42 ?_
              show Go p e below _ (T42.setTop (mkF m 153 #[.val (.int p0), .val (.int p1), .val (.int ((p0 &&& (2147483647 : Int32)) % (6 : Int32))), .val (.ref w_LENGTH), .val (.int (0 : Int32))] [(.int (0 : Int32))]))
              refine Go.of (fun _ k => XS.iload X42.here hx rfl (hb hby at_153) rfl  k) ?_
              show Go p e below _ (T42.setTop (mkF m 155 #[.val (.int p0), .val (.int p1), .val (.int ((p0 &&& (2147483647 : Int32)) % (6 : Int32))), .val (.ref w_LENGTH), .val (.int (0 : Int32))] [(.int (0 : Int32)), (.int (0 : Int32))]))
              refine Go.of (fun _ k => XS.icmpNo X42.here hx rfl (hb hby at_155) rfl (teq (by decide : (0 : Int32) = (0 : Int32))).2 k) ?_
              show Go p e below _ (T42.setTop (mkF m 158 #[.val (.int p0), .val (.int p1), .val (.int ((p0 &&& (2147483647 : Int32)) % (6 : Int32))), .val (.ref w_LENGTH), .val (.int (0 : Int32))] []))
              refine Go.of (fun _ k => XS.iconst X42.here hx rfl (hb hby at_158) k) ?_
              show Go p e below _ (T42.setTop (mkF m 159 #[.val (.int p0), .val (.int p1), .val (.int ((p0 &&& (2147483647 : Int32)) % (6 : Int32))), .val (.ref w_LENGTH), .val (.int (0 : Int32))] [(.int (1 : Int32))]))
              refine Go.of (fun _ k => XS.goto X42.here hx rfl (pc0 := 159) (pc' := 163) rfl (hb hby at_159) (by decide) (by decide) k) ?_
              show Go p e below _ (T42.setTop (mkF m 163 #[.val (.int p0), .val (.int p1), .val (.int ((p0 &&& (2147483647 : Int32)) % (6 : Int32))), .val (.ref w_LENGTH), .val (.int (0 : Int32))] [(.int (1 : Int32))]))
              obtain ⟨fs, hr, hrun, hended, hW, hsame⟩ := X42.leave (v := some (.int (1 : Int32))) (fun h => by rw [Bd.returns] at h; cases h)
              refine Go.mk _ _ ?_ hrun hended ⟨_, _, rfl, ?_, ⟨_, rfl⟩, hW, hsame.mono (by decide) (by decide)⟩
              · exact retN X42 hx (t := .boolean) Bd.returns (by simp) (hb hby at_163) hr
              · show Q0 Z p0 p1 w_SUBSTR w_UPPER w_LOWER w_LENGTH w_ABS w_COALESCE h0 n0 _ T42.heap _
                rw [q42_0]
                exact ⟨rfl, N42⟩
        ·
          refine Go.of (fun _ k => XS.icmpYes X0.here hx rfl (pc0 := 86) (pc' := 108) rfl (hb hby at_86) rfl (feq hc34).2 (by decide) (by decide) k) ?_
          show Go p e below _ (s₁.setTop (mkF m 108 #[.val (.int p0), .val (.int p1), .val (.int ((p0 &&& (2147483647 : Int32)) % (6 : Int32))), .unset, .unset] []))
          refine Go.of (fun _ k => XS.iloadN X0.here hx rfl (hb hby at_108) rfl  k) ?_
          show Go p e below _ (s₁.setTop (mkF m 109 #[.val (.int p0), .val (.int p1), .val (.int ((p0 &&& (2147483647 : Int32)) % (6 : Int32))), .unset, .unset] [(.int ((p0 &&& (2147483647 : Int32)) % (6 : Int32)))]))
          refine Go.of (fun _ k => XS.iconst X0.here hx rfl (hb hby at_109) k) ?_
          show Go p e below _ (s₁.setTop (mkF m 110 #[.val (.int p0), .val (.int p1), .val (.int ((p0 &&& (2147483647 : Int32)) % (6 : Int32))), .unset, .unset] [(.int (4 : Int32)), (.int ((p0 &&& (2147483647 : Int32)) % (6 : Int32)))]))
          by_cases hc44 : ((p0 &&& (2147483647 : Int32)) % (6 : Int32)) = (4 : Int32)
          ·
            refine Go.of (fun _ k => XS.icmpNo X0.here hx rfl (hb hby at_110) rfl (teq hc44).2 k) ?_
            show Go p e below _ (s₁.setTop (mkF m 113 #[.val (.int p0), .val (.int p1), .val (.int ((p0 &&& (2147483647 : Int32)) % (6 : Int32))), .unset, .unset] []))
            obtain ⟨T45, X45, e45, st45⟩ := getS2 X0 hx hZ hown (host := "") (Or.inl (hw _ (List.mem_of_getElem? (i := 15) rfl))) Via.refl e0 S_ABS (g := (mkF m 113 #[.val (.int p0), .val (.int p1), .val (.int ((p0 &&& (2147483647 : Int32)) % (6 : Int32))), .unset, .unset] [])) rfl (hb hby at_113)
            refine Go.of st45 ?_
            show Go p e below _ (T45.setTop (mkF m 116 #[.val (.int p0), .val (.int p1), .val (.int ((p0 &&& (2147483647 : Int32)) % (6 : Int32))), .unset, .unset] [(.ref w_ABS)]))
            refine Go.of (fun _ k => XS.astoreN X45.here hx rfl (hb hby at_116) rfl rfl (l' := #[.val (.int p0), .val (.int p1), .val (.int ((p0 &&& (2147483647 : Int32)) % (6 : Int32))), .val (.ref w_ABS), .unset]) rfl k) ?_
            show Go p e below _ (T45.setTop (mkF m 117 #[.val (.int p0), .val (.int p1), .val (.int ((p0 &&& (2147483647 : Int32)) % (6 : Int32))), .val (.ref w_ABS), .unset] []))
            refine Go.of (fun _ k => XS.iloadN X45.here hx rfl (hb hby at_117) rfl  k) ?_
            show Go p e below _ (T45.setTop (mkF m 118 #[.val (.int p0), .val (.int p1), .val (.int ((p0 &&& (2147483647 : Int32)) % (6 : Int32))), .val (.ref w_ABS), .unset] [(.int p1)]))
            refine Go.of (fun _ k => XS.iconst X45.here hx rfl (hb hby at_118) k) ?_
            show Go p e below _ (T45.setTop (mkF m 119 #[.val (.int p0), .val (.int p1), .val (.int ((p0 &&& (2147483647 : Int32)) % (6 : Int32))), .val (.ref w_ABS), .unset] [(.int (1 : Int32)), (.int p1)]))
            by_cases hc46 : p1 = (1 : Int32)
            ·
              refine Go.of (fun _ k => XS.icmpNo X45.here hx rfl (hb hby at_119) rfl (teq hc46).2 k) ?_
              show Go p e below _ (T45.setTop (mkF m 122 #[.val (.int p0), .val (.int p1), .val (.int ((p0 &&& (2147483647 : Int32)) % (6 : Int32))), .val (.ref w_ABS), .unset] []))
              refine Go.of (fun _ k => XS.iconst X45.here hx rfl (hb hby at_122) k) ?_
              show Go p e below _ (T45.setTop (mkF m 123 #[.val (.int p0), .val (.int p1), .val (.int ((p0 &&& (2147483647 : Int32)) % (6 : Int32))), .val (.ref w_ABS), .unset] [(.int (1 : Int32))]))
              refine Go.of (fun _ k => XS.goto X45.here hx rfl (pc0 := 123) (pc' := 127) rfl (hb hby at_123) (by decide) (by decide) k) ?_
              show Go p e below _ (T45.setTop (mkF m 127 #[.val (.int p0), .val (.int p1), .val (.int ((p0 &&& (2147483647 : Int32)) % (6 : Int32))), .val (.ref w_ABS), .unset] [(.int (1 : Int32))]))
              refine Go.of (fun _ k => XS.istore X45.here hx rfl (hb hby at_127) rfl (l' := #[.val (.int p0), .val (.int p1), .val (.int ((p0 &&& (2147483647 : Int32)) % (6 : Int32))), .val (.ref w_ABS), .val (.int (1 : Int32))]) rfl k) ?_
              show Go p e below _ (T45.setTop (mkF m 129 #[.val (.int p0), .val (.int p1), .val (.int ((p0 &&& (2147483647 : Int32)) % (6 : Int32))), .val (.ref w_ABS), .val (.int (1 : Int32))] []))
              refine Go.of (fun _ k => XS.goto X45.here hx rfl (pc0 := 129) (pc' := 148) rfl (hb hby at_129) (by decide) (by decide) k) ?_
              show Go p e below _ (T45.setTop (mkF m 148 #[.val (.int p0), .val (.int p1), .val (.int ((p0 &&& (2147483647 : Int32)) % (6 : Int32))), .val (.ref w_ABS), .val (.int (1 : Int32))] []))
              refine Go.of (fun _ k => XS.aloadN X45.here hx rfl (hb hby at_148) rfl rfl k) ?_
              show Go p e below _ (T45.setTop (mkF m 149 #[.val (.int p0), .val (.int p1), .val (.int ((p0 &&& (2147483647 : Int32)) % (6 : Int32))), .val (.ref w_ABS), .val (.int (1 : Int32))] [(.ref w_ABS)]))
              refine Go.of (fun _ k => XS.iloadN X45.here hx rfl (hb hby at_149) rfl  k) ?_
              show Go p e below _ (T45.setTop (mkF m 150 #[.val (.int p0), .val (.int p1), .val (.int ((p0 &&& (2147483647 : Int32)) % (6 : Int32))), .val (.ref w_ABS), .val (.int (1 : Int32))] [(.int p1), (.ref w_ABS)]))
              obtain ⟨cq47, kq47, q47a, q47b, q47c⟩ := isOf hZ e45 E_w_ABS
              obtain ⟨_, _, ⟨T47, L47, k47, n47⟩, -, X47, ⟨Lc47, hQ47, l47, y47, z47⟩, st47⟩ := X45.virtualBack hx (y := (⟨"com/example/tallyset/tallyset/Operator", "takes", "(I)Z"⟩ : MethodName)) (z := (⟨"com/example/tallyset/tallyset/Operator", "takes", "(I)Z"⟩ : MethodName)) hown (mvT hZ (hw _ (List.mem_of_getElem? (i := 4) rfl))) (mvT hZ (hw _ (List.mem_of_getElem? (i := 5) rfl))) (notFace_of_selects (args := #[]) (mvT hZ (hw _ (List.mem_of_getElem? (i := 7) rfl)))) (mvT hZ (hw _ (List.mem_of_getElem? (i := 7) rfl))) (mvT hZ (hw _ (List.mem_of_getElem? (i := 6) rfl))) (by decide) (backOf (W := 0) (rm1_ok l Z a0 hw [] w_ABS p1 (1 : Int32) (1 : Int32) h0 n0 Z0 F_w_ABS_minOperands (by rw [hc46]; decide : ¬ (p1 < (1 : Int32))) F_w_ABS_maxOperands (by rw [hc46]; decide : ¬ ((1 : Int32) < p1))) hZ (hw _ (List.mem_of_getElem? (i := 8) rfl)) (hw _ (List.mem_of_getElem? (i := 2) rfl)) (by decide) (by decide)) q47a q47c (g := (mkF m 150 #[.val (.int p0), .val (.int p1), .val (.int ((p0 &&& (2147483647 : Int32)) % (6 : Int32))), .val (.ref w_ABS), .val (.int (1 : Int32))] [(.int p1), (.ref w_ABS)])) rfl (by rw [hml]; rfl) (Steps.refl _) (argsL := [(.int p1)]) (rest := []) (lenOf pd_0 rfl) rfl (by show 2 * 0 + _ ≤ _; exact Nat.le_of_eq rfl) (hb hby at_150) (fun _ _ => ⟨rfl, e45, (by decide : 0 + 0 ≤ _), (by decide : 0 + 0 ≤ _)⟩)
              dsimp only [Pt.U, Pt.locs, Pt.cells, Pt.slots] at X47 l47 y47 z47 st47 hQ47
              subst l47 y47 z47
              obtain ⟨rfl, Nq47, q47_0⟩ := hQ47
              have N47 := Fr.app N0 Nq47
              refine Go.tr st47 ?_
              show Go p e below _ (T47.setTop (mkF m 153 #[.val (.int p0), .val (.int p1), .val (.int ((p0 &&& (2147483647 : Int32)) % (6 : Int32))), .val (.ref w_ABS), .val (.int (1 : Int32))] [(.int (1 : Int32))]))
              refine Go.of (fun _ k => XS.iload X47.here hx rfl (hb hby at_153) rfl  k) ?_
              show Go p e below _ (T47.setTop (mkF m 155 #[.val (.int p0), .val (.int p1), .val (.int ((p0 &&& (2147483647 : Int32)) % (6 : Int32))), .val (.ref w_ABS), .val (.int (1 : Int32))] [(.int (1 : Int32)), (.int (1 : Int32))]))
              refine Go.of (fun _ k => XS.icmpNo X47.here hx rfl (hb hby at_155) rfl (teq (by decide : (1 : Int32) = (1 : Int32))).2 k) ?_
              show Go p e below _ (T47.setTop (mkF m 158 #[.val (.int p0), .val (.int p1), .val (.int ((p0 &&& (2147483647 : Int32)) % (6 : Int32))), .val (.ref w_ABS), .val (.int (1 : Int32))] []))
              refine Go.of (fun _ k => XS.iconst X47.here hx rfl (hb hby at_158) k) ?_
              show Go p e below _ (T47.setTop (mkF m 159 #[.val (.int p0), .val (.int p1), .val (.int ((p0 &&& (2147483647 : Int32)) % (6 : Int32))), .val (.ref w_ABS), .val (.int (1 : Int32))] [(.int (1 : Int32))]))
              refine Go.of (fun _ k => XS.goto X47.here hx rfl (pc0 := 159) (pc' := 163) rfl (hb hby at_159) (by decide) (by decide) k) ?_
              show Go p e below _ (T47.setTop (mkF m 163 #[.val (.int p0), .val (.int p1), .val (.int ((p0 &&& (2147483647 : Int32)) % (6 : Int32))), .val (.ref w_ABS), .val (.int (1 : Int32))] [(.int (1 : Int32))]))
              obtain ⟨fs, hr, hrun, hended, hW, hsame⟩ := X47.leave (v := some (.int (1 : Int32))) (fun h => by rw [Bd.returns] at h; cases h)
              refine Go.mk _ _ ?_ hrun hended ⟨_, _, rfl, ?_, ⟨_, rfl⟩, hW, hsame.mono (by decide) (by decide)⟩
              · exact retN X47 hx (t := .boolean) Bd.returns (by simp) (hb hby at_163) hr
              · show Q0 Z p0 p1 w_SUBSTR w_UPPER w_LOWER w_LENGTH w_ABS w_COALESCE h0 n0 _ T47.heap _
                rw [q47_0]
                exact ⟨rfl, N47⟩
            ·
              refine Go.of (fun _ k => XS.icmpYes X45.here hx rfl (pc0 := 119) (pc' := 126) rfl (hb hby at_119) rfl (feq hc46).2 (by decide) (by decide) k) ?_
              show Go p e below _ (T45.setTop (mkF m 126 #[.val (.int p0), .val (.int p1), .val (.int ((p0 &&& (2147483647 : Int32)) % (6 : Int32))), .val (.ref w_ABS), .unset] []))
              refine Go.of (fun _ k => XS.iconst X45.here hx rfl (hb hby at_126) k) ?_
              show Go p e below _ (T45.setTop (mkF m 127 #[.val (.int p0), .val (.int p1), .val (.int ((p0 &&& (2147483647 : Int32)) % (6 : Int32))), .val (.ref w_ABS), .unset] [(.int (0 : Int32))]))
              refine Go.of (fun _ k => XS.istore X45.here hx rfl (hb hby at_127) rfl (l' := #[.val (.int p0), .val (.int p1), .val (.int ((p0 &&& (2147483647 : Int32)) % (6 : Int32))), .val (.ref w_ABS), .val (.int (0 : Int32))]) rfl k) ?_
              show Go p e below _ (T45.setTop (mkF m 129 #[.val (.int p0), .val (.int p1), .val (.int ((p0 &&& (2147483647 : Int32)) % (6 : Int32))), .val (.ref w_ABS), .val (.int (0 : Int32))] []))
              refine Go.of (fun _ k => XS.goto X45.here hx rfl (pc0 := 129) (pc' := 148) rfl (hb hby at_129) (by decide) (by decide) k) ?_
              show Go p e below _ (T45.setTop (mkF m 148 #[.val (.int p0), .val (.int p1), .val (.int ((p0 &&& (2147483647 : Int32)) % (6 : Int32))), .val (.ref w_ABS), .val (.int (0 : Int32))] []))
              refine Go.of (fun _ k => XS.aloadN X45.here hx rfl (hb hby at_148) rfl rfl k) ?_
              show Go p e below _ (T45.setTop (mkF m 149 #[.val (.int p0), .val (.int p1), .val (.int ((p0 &&& (2147483647 : Int32)) % (6 : Int32))), .val (.ref w_ABS), .val (.int (0 : Int32))] [(.ref w_ABS)]))
              refine Go.of (fun _ k => XS.iloadN X45.here hx rfl (hb hby at_149) rfl  k) ?_
              show Go p e below _ (T45.setTop (mkF m 150 #[.val (.int p0), .val (.int p1), .val (.int ((p0 &&& (2147483647 : Int32)) % (6 : Int32))), .val (.ref w_ABS), .val (.int (0 : Int32))] [(.int p1), (.ref w_ABS)]))
              by_cases hs49 : p1 < (1 : Int32)
              ·
                show Go p e below _ (T45.setTop (mkF m 150 #[.val (.int p0), .val (.int p1), .val (.int ((p0 &&& (2147483647 : Int32)) % (6 : Int32))), .val (.ref w_ABS), .val (.int (0 : Int32))] [(.int p1), (.ref w_ABS)]))
                obtain ⟨cq50, kq50, q50a, q50b, q50c⟩ := isOf hZ e45 E_w_ABS
                obtain ⟨_, _, ⟨T50, L50, k50, n50⟩, -, X50, ⟨Lc50, hQ50, l50, y50, z50⟩, st50⟩ := X45.virtualBack hx (y := (⟨"com/example/tallyset/tallyset/Operator", "takes", "(I)Z"⟩ : MethodName)) (z := (⟨"com/example/tallyset/tallyset/Operator", "takes", "(I)Z"⟩ : MethodName)) hown (mvT hZ (hw _ (List.mem_of_getElem? (i := 4) rfl))) (mvT hZ (hw _ (List.mem_of_getElem? (i := 5) rfl))) (notFace_of_selects (args := #[]) (mvT hZ (hw _ (List.mem_of_getElem? (i := 7) rfl)))) (mvT hZ (hw _ (List.mem_of_getElem? (i := 7) rfl))) (mvT hZ (hw _ (List.mem_of_getElem? (i := 6) rfl))) (by decide) (backOf (W := 0) (rm1_lo l Z a0 hw [] w_ABS p1 (1 : Int32) h0 n0 Z0 F_w_ABS_minOperands hs49) hZ (hw _ (List.mem_of_getElem? (i := 8) rfl)) (hw _ (List.mem_of_getElem? (i := 2) rfl)) (by decide) (by decide)) q50a q50c (g := (mkF m 150 #[.val (.int p0), .val (.int p1), .val (.int ((p0 &&& (2147483647 : Int32)) % (6 : Int32))), .val (.ref w_ABS), .val (.int (0 : Int32))] [(.int p1), (.ref w_ABS)])) rfl (by rw [hml]; rfl) (Steps.refl _) (argsL := [(.int p1)]) (rest := []) (lenOf pd_0 rfl) rfl (by show 2 * 0 + _ ≤ _; exact Nat.le_of_eq rfl) (hb hby at_150) (fun _ _ => ⟨rfl, e45, (by decide : 0 + 0 ≤ _), (by decide : 0 + 0 ≤ _)⟩)
                dsimp only [Pt.U, Pt.locs, Pt.cells, Pt.slots] at X50 l50 y50 z50 st50 hQ50
                subst l50 y50 z50
                obtain ⟨rfl, Nq50, q50_0⟩ := hQ50
                have N50 := Fr.app N0 Nq50
                refine Go.tr st50 ?_
                show Go p e below _ (T50.setTop (mkF m 153 #[.val (.int p0), .val (.int p1), .val (.int ((p0 &&& (2147483647 : Int32)) % (6 : Int32))), .val (.ref w_ABS), .val (.int (0 : Int32))] [(.int (0 : Int32))]))
                refine Go.of (fun _ k => XS.iload X50.here hx rfl (hb hby at_153) rfl  k) ?_
                show Go p e below _ (T50.setTop (mkF m 155 #[.val (.int p0), .val (.int p1), .val (.int ((p0 &&& (2147483647 : Int32)) % (6 : Int32))), .val (.ref w_ABS), .val (.int (0 : Int32))] [(.int (0 : Int32)), (.int (0 : Int32))]))
                refine Go.of (fun _ k => XS.icmpNo X50.here hx rfl (hb hby at_155) rfl (teq (by decide : (0 : Int32) = (0 : Int32))).2 k) ?_
                show Go p e below _ (T50.setTop (mkF m 158 #[.val (.int p0), .val (.int p1), .val (.int ((p0 &&& (2147483647 : Int32)) % (6 : Int32))), .val (.ref w_ABS), .val (.int (0 : Int32))] []))
                refine Go.of (fun _ k => XS.iconst X50.here hx rfl (hb hby at_158) k) ?_
                show Go p e below _ (T50.setTop (mkF m 159 #[.val (.int p0), .val (.int p1), .val (.int ((p0 &&& (2147483647 : Int32)) % (6 : Int32))), .val (.ref w_ABS), .val (.int (0 : Int32))] [(.int (1 : Int32))]))
                refine Go.of (fun _ k => XS.goto X50.here hx rfl (pc0 := 159) (pc' := 163) rfl (hb hby at_159) (by decide) (by decide) k) ?_
                show Go p e below _ (T50.setTop (mkF m 163 #[.val (.int p0), .val (.int p1), .val (.int ((p0 &&& (2147483647 : Int32)) % (6 : Int32))), .val (.ref w_ABS), .val (.int (0 : Int32))] [(.int (1 : Int32))]))
                obtain ⟨fs, hr, hrun, hended, hW, hsame⟩ := X50.leave (v := some (.int (1 : Int32))) (fun h => by rw [Bd.returns] at h; cases h)
                refine Go.mk _ _ ?_ hrun hended ⟨_, _, rfl, ?_, ⟨_, rfl⟩, hW, hsame.mono (by decide) (by decide)⟩
                · exact retN X50 hx (t := .boolean) Bd.returns (by simp) (hb hby at_163) hr
                · show Q0 Z p0 p1 w_SUBSTR w_UPPER w_LOWER w_LENGTH w_ABS w_COALESCE h0 n0 _ T50.heap _
                  rw [q50_0]
                  exact ⟨rfl, N50⟩
              ·
                show Go p e below _ (T45.setTop (mkF m 150 #[.val (.int p0), .val (.int p1), .val (.int ((p0 &&& (2147483647 : Int32)) % (6 : Int32))), .val (.ref w_ABS), .val (.int (0 : Int32))] [(.int p1), (.ref w_ABS)]))
                obtain ⟨cq52, kq52, q52a, q52b, q52c⟩ := isOf hZ e45 E_w_ABS
                obtain ⟨_, _, ⟨T52, L52, k52, n52⟩, -, X52, ⟨Lc52, hQ52, l52, y52, z52⟩, st52⟩ := X45.virtualBack hx (y := (⟨"com/example/tallyset/tallyset/Operator", "takes", "(I)Z"⟩ : MethodName)) (z := (⟨"com/example/tallyset/tallyset/Operator", "takes", "(I)Z"⟩ : MethodName)) hown (mvT hZ (hw _ (List.mem_of_getElem? (i := 4) rfl))) (mvT hZ (hw _ (List.mem_of_getElem? (i := 5) rfl))) (notFace_of_selects (args := #[]) (mvT hZ (hw _ (List.mem_of_getElem? (i := 7) rfl)))) (mvT hZ (hw _ (List.mem_of_getElem? (i := 7) rfl))) (mvT hZ (hw _ (List.mem_of_getElem? (i := 6) rfl))) (by decide) (backOf (W := 0) (rm1_hi l Z a0 hw [] w_ABS p1 (1 : Int32) (1 : Int32) h0 n0 Z0 F_w_ABS_minOperands hs49 F_w_ABS_maxOperands (own_i1 p1 hc46 hs49)) hZ (hw _ (List.mem_of_getElem? (i := 8) rfl)) (hw _ (List.mem_of_getElem? (i := 2) rfl)) (by decide) (by decide)) q52a q52c (g := (mkF m 150 #[.val (.int p0), .val (.int p1), .val (.int ((p0 &&& (2147483647 : Int32)) % (6 : Int32))), .val (.ref w_ABS), .val (.int (0 : Int32))] [(.int p1), (.ref w_ABS)])) rfl (by rw [hml]; rfl) (Steps.refl _) (argsL := [(.int p1)]) (rest := []) (lenOf pd_0 rfl) rfl (by show 2 * 0 + _ ≤ _; exact Nat.le_of_eq rfl) (hb hby at_150) (fun _ _ => ⟨rfl, e45, (by decide : 0 + 0 ≤ _), (by decide : 0 + 0 ≤ _)⟩)
                dsimp only [Pt.U, Pt.locs, Pt.cells, Pt.slots] at X52 l52 y52 z52 st52 hQ52
                subst l52 y52 z52
                obtain ⟨rfl, Nq52, q52_0⟩ := hQ52
                have N52 := Fr.app N0 Nq52
                refine Go.tr st52 ?_
                show Go p e below _ (T52.setTop (mkF m 153 #[.val (.int p0), .val (.int p1), .val (.int ((p0 &&& (2147483647 : Int32)) % (6 : Int32))), .val (.ref w_ABS), .val (.int (0 : Int32))] [(.int (0 : Int32))]))
                refine Go.of (fun _ k => XS.iload X52.here hx rfl (hb hby at_153) rfl  k) ?_
                show Go p e below _ (T52.setTop (mkF m 155 #[.val (.int p0), .val (.int p1), .val (.int ((p0 &&& (2147483647 : Int32)) % (6 : Int32))), .val (.ref w_ABS), .val (.int (0 : Int32))] [(.int (0 : Int32)), (.int (0 : Int32))]))
                refine Go.of (fun _ k => XS.icmpNo X52.here hx rfl (hb hby at_155) rfl (teq (by decide : (0 : Int32) = (0 : Int32))).2 k) ?_
                show Go p e below _ (T52.setTop (mkF m 158 #[.val (.int p0), .val (.int p1), .val (.int ((p0 &&& (2147483647 : Int32)) % (6 : Int32))), .val (.ref w_ABS), .val (.int (0 : Int32))] []))
                refine Go.of (fun _ k => XS.iconst X52.here hx rfl (hb hby at_158) k) ?_
                show Go p e below _ (T52.setTop (mkF m 159 #[.val (.int p0), .val (.int p1), .val (.int ((p0 &&& (2147483647 : Int32)) % (6 : Int32))), .val (.ref w_ABS), .val (.int (0 : Int32))] [(.int (1 : Int32))]))
                refine Go.of (fun _ k => XS.goto X52.here hx rfl (pc0 := 159) (pc' := 163) rfl (hb hby at_159) (by decide) (by decide) k) ?_
                show Go p e below _ (T52.setTop (mkF m 163 #[.val (.int p0), .val (.int p1), .val (.int ((p0 &&& (2147483647 : Int32)) % (6 : Int32))), .val (.ref w_ABS), .val (.int (0 : Int32))] [(.int (1 : Int32))]))
                obtain ⟨fs, hr, hrun, hended, hW, hsame⟩ := X52.leave (v := some (.int (1 : Int32))) (fun h => by rw [Bd.returns] at h; cases h)
                refine Go.mk _ _ ?_ hrun hended ⟨_, _, rfl, ?_, ⟨_, rfl⟩, hW, hsame.mono (by decide) (by decide)⟩
                · exact retN X52 hx (t := .boolean) Bd.returns (by simp) (hb hby at_163) hr
                · show Q0 Z p0 p1 w_SUBSTR w_UPPER w_LOWER w_LENGTH w_ABS w_COALESCE h0 n0 _ T52.heap _
                  rw [q52_0]
                  exact ⟨rfl, N52⟩
          ·
            refine Go.of (fun _ k => XS.icmpYes X0.here hx rfl (pc0 := 110) (pc' := 132) rfl (hb hby at_110) rfl (feq hc44).2 (by decide) (by decide) k) ?_
            show Go p e below _ (s₁.setTop (mkF m 132 #[.val (.int p0), .val (.int p1), .val (.int ((p0 &&& (2147483647 : Int32)) % (6 : Int32))), .unset, .unset] []))
            obtain ⟨T54, X54, e54, st54⟩ := getS2 X0 hx hZ hown (host := "") (Or.inl (hw _ (List.mem_of_getElem? (i := 19) rfl))) Via.refl e0 S_COALESCE (g := (mkF m 132 #[.val (.int p0), .val (.int p1), .val (.int ((p0 &&& (2147483647 : Int32)) % (6 : Int32))), .unset, .unset] [])) rfl (hb hby at_132)
            refine Go.of st54 ?_
            show Go p e below _ (T54.setTop (mkF m 135 #[.val (.int p0), .val (.int p1), .val (.int ((p0 &&& (2147483647 : Int32)) % (6 : Int32))), .unset, .unset] [(.ref w_COALESCE)]))
            refine Go.of (fun _ k => XS.astoreN X54.here hx rfl (hb hby at_135) rfl rfl (l' := #[.val (.int p0), .val (.int p1), .val (.int ((p0 &&& (2147483647 : Int32)) % (6 : Int32))), .val (.ref w_COALESCE), .unset]) rfl k) ?_
            show Go p e below _ (T54.setTop (mkF m 136 #[.val (.int p0), .val (.int p1), .val (.int ((p0 &&& (2147483647 : Int32)) % (6 : Int32))), .val (.ref w_COALESCE), .unset] []))
            refine Go.of (fun _ k => XS.iloadN X54.here hx rfl (hb hby at_136) rfl  k) ?_
            show Go p e below _ (T54.setTop (mkF m 137 #[.val (.int p0), .val (.int p1), .val (.int ((p0 &&& (2147483647 : Int32)) % (6 : Int32))), .val (.ref w_COALESCE), .unset] [(.int p1)]))
            refine Go.of (fun _ k => XS.iconst X54.here hx rfl (hb hby at_137) k) ?_
            show Go p e below _ (T54.setTop (mkF m 138 #[.val (.int p0), .val (.int p1), .val (.int ((p0 &&& (2147483647 : Int32)) % (6 : Int32))), .val (.ref w_COALESCE), .unset] [(.int (1 : Int32)), (.int p1)]))
            by_cases hc55 : p1 < (1 : Int32)
            ·
              refine Go.of (fun _ k => XS.icmpYes X54.here hx rfl (pc0 := 138) (pc' := 145) rfl (hb hby at_138) rfl (tlt hc55).1 (by decide) (by decide) k) ?_
              show Go p e below _ (T54.setTop (mkF m 145 #[.val (.int p0), .val (.int p1), .val (.int ((p0 &&& (2147483647 : Int32)) % (6 : Int32))), .val (.ref w_COALESCE), .unset] []))
              refine Go.of (fun _ k => XS.iconst X54.here hx rfl (hb hby at_145) k) ?_
              show Go p e below _ (T54.setTop (mkF m 146 #[.val (.int p0), .val (.int p1), .val (.int ((p0 &&& (2147483647 : Int32)) % (6 : Int32))), .val (.ref w_COALESCE), .unset] [(.int (0 : Int32))]))
              refine Go.of (fun _ k => XS.istore X54.here hx rfl (hb hby at_146) rfl (l' := #[.val (.int p0), .val (.int p1), .val (.int ((p0 &&& (2147483647 : Int32)) % (6 : Int32))), .val (.ref w_COALESCE), .val (.int (0 : Int32))]) rfl k) ?_
              show Go p e below _ (T54.setTop (mkF m 148 #[.val (.int p0), .val (.int p1), .val (.int ((p0 &&& (2147483647 : Int32)) % (6 : Int32))), .val (.ref w_COALESCE), .val (.int (0 : Int32))] []))
              refine Go.of (fun _ k => XS.aloadN X54.here hx rfl (hb hby at_148) rfl rfl k) ?_
              show Go p e below _ (T54.setTop (mkF m 149 #[.val (.int p0), .val (.int p1), .val (.int ((p0 &&& (2147483647 : Int32)) % (6 : Int32))), .val (.ref w_COALESCE), .val (.int (0 : Int32))] [(.ref w_COALESCE)]))
              refine Go.of (fun _ k => XS.iloadN X54.here hx rfl (hb hby at_149) rfl  k) ?_
              show Go p e below _ (T54.setTop (mkF m 150 #[.val (.int p0), .val (.int p1), .val (.int ((p0 &&& (2147483647 : Int32)) % (6 : Int32))), .val (.ref w_COALESCE), .val (.int (0 : Int32))] [(.int p1), (.ref w_COALESCE)]))
              obtain ⟨cq56, kq56, q56a, q56b, q56c⟩ := isOf hZ e54 E_w_COALESCE
              obtain ⟨_, _, ⟨T56, L56, k56, n56⟩, -, X56, ⟨Lc56, hQ56, l56, y56, z56⟩, st56⟩ := X54.virtualBack hx (y := (⟨"com/example/tallyset/tallyset/Operator", "takes", "(I)Z"⟩ : MethodName)) (z := (⟨"com/example/tallyset/tallyset/Operator", "takes", "(I)Z"⟩ : MethodName)) hown (mvT hZ (hw _ (List.mem_of_getElem? (i := 4) rfl))) (mvT hZ (hw _ (List.mem_of_getElem? (i := 5) rfl))) (notFace_of_selects (args := #[]) (mvT hZ (hw _ (List.mem_of_getElem? (i := 7) rfl)))) (mvT hZ (hw _ (List.mem_of_getElem? (i := 7) rfl))) (mvT hZ (hw _ (List.mem_of_getElem? (i := 6) rfl))) (by decide) (backOf (W := 0) (rm1_lo l Z a0 hw [] w_COALESCE p1 (1 : Int32) h0 n0 Z0 F_w_COALESCE_minOperands hc55) hZ (hw _ (List.mem_of_getElem? (i := 8) rfl)) (hw _ (List.mem_of_getElem? (i := 2) rfl)) (by decide) (by decide)) q56a q56c (g := (mkF m 150 #[.val (.int p0), .val (.int p1), .val (.int ((p0 &&& (2147483647 : Int32)) % (6 : Int32))), .val (.ref w_COALESCE), .val (.int (0 : Int32))] [(.int p1), (.ref w_COALESCE)])) rfl (by rw [hml]; rfl) (Steps.refl _) (argsL := [(.int p1)]) (rest := []) (lenOf pd_0 rfl) rfl (by show 2 * 0 + _ ≤ _; exact Nat.le_of_eq rfl) (hb hby at_150) (fun _ _ => ⟨rfl, e54, (by decide : 0 + 0 ≤ _), (by decide : 0 + 0 ≤ _)⟩)
              dsimp only [Pt.U, Pt.locs, Pt.cells, Pt.slots] at X56 l56 y56 z56 st56 hQ56
              subst l56 y56 z56
              obtain ⟨rfl, Nq56, q56_0⟩ := hQ56
              have N56 := Fr.app N0 Nq56
              refine Go.tr st56 ?_
              show Go p e below _ (T56.setTop (mkF m 153 #[.val (.int p0), .val (.int p1), .val (.int ((p0 &&& (2147483647 : Int32)) % (6 : Int32))), .val (.ref w_COALESCE), .val (.int (0 : Int32))] [(.int (0 : Int32))]))
              refine Go.of (fun _ k => XS.iload X56.here hx rfl (hb hby at_153) rfl  k) ?_
              show Go p e below _ (T56.setTop (mkF m 155 #[.val (.int p0), .val (.int p1), .val (.int ((p0 &&& (2147483647 : Int32)) % (6 : Int32))), .val (.ref w_COALESCE), .val (.int (0 : Int32))] [(.int (0 : Int32)), (.int (0 : Int32))]))
              refine Go.of (fun _ k => XS.icmpNo X56.here hx rfl (hb hby at_155) rfl (teq (by decide : (0 : Int32) = (0 : Int32))).2 k) ?_
              show Go p e below _ (T56.setTop (mkF m 158 #[.val (.int p0), .val (.int p1), .val (.int ((p0 &&& (2147483647 : Int32)) % (6 : Int32))), .val (.ref w_COALESCE), .val (.int (0 : Int32))] []))
              refine Go.of (fun _ k => XS.iconst X56.here hx rfl (hb hby at_158) k) ?_
              show Go p e below _ (T56.setTop (mkF m 159 #[.val (.int p0), .val (.int p1), .val (.int ((p0 &&& (2147483647 : Int32)) % (6 : Int32))), .val (.ref w_COALESCE), .val (.int (0 : Int32))] [(.int (1 : Int32))]))
              refine Go.of (fun _ k => XS.goto X56.here hx rfl (pc0 := 159) (pc' := 163) rfl (hb hby at_159) (by decide) (by decide) k) ?_
              show Go p e below _ (T56.setTop (mkF m 163 #[.val (.int p0), .val (.int p1), .val (.int ((p0 &&& (2147483647 : Int32)) % (6 : Int32))), .val (.ref w_COALESCE), .val (.int (0 : Int32))] [(.int (1 : Int32))]))
              obtain ⟨fs, hr, hrun, hended, hW, hsame⟩ := X56.leave (v := some (.int (1 : Int32))) (fun h => by rw [Bd.returns] at h; cases h)
              refine Go.mk _ _ ?_ hrun hended ⟨_, _, rfl, ?_, ⟨_, rfl⟩, hW, hsame.mono (by decide) (by decide)⟩
              · exact retN X56 hx (t := .boolean) Bd.returns (by simp) (hb hby at_163) hr
              · show Q0 Z p0 p1 w_SUBSTR w_UPPER w_LOWER w_LENGTH w_ABS w_COALESCE h0 n0 _ T56.heap _
                rw [q56_0]
                exact ⟨rfl, N56⟩
            ·
              refine Go.of (fun _ k => XS.icmpNo X54.here hx rfl (hb hby at_138) rfl (flt hc55).1 k) ?_
              show Go p e below _ (T54.setTop (mkF m 141 #[.val (.int p0), .val (.int p1), .val (.int ((p0 &&& (2147483647 : Int32)) % (6 : Int32))), .val (.ref w_COALESCE), .unset] []))
              refine Go.of (fun _ k => XS.iconst X54.here hx rfl (hb hby at_141) k) ?_
              show Go p e below _ (T54.setTop (mkF m 142 #[.val (.int p0), .val (.int p1), .val (.int ((p0 &&& (2147483647 : Int32)) % (6 : Int32))), .val (.ref w_COALESCE), .unset] [(.int (1 : Int32))]))
              refine Go.of (fun _ k => XS.goto X54.here hx rfl (pc0 := 142) (pc' := 146) rfl (hb hby at_142) (by decide) (by decide) k) ?_
              show Go p e below _ (T54.setTop (mkF m 146 #[.val (.int p0), .val (.int p1), .val (.int ((p0 &&& (2147483647 : Int32)) % (6 : Int32))), .val (.ref w_COALESCE), .unset] [(.int (1 : Int32))]))
              refine Go.of (fun _ k => XS.istore X54.here hx rfl (hb hby at_146) rfl (l' := #[.val (.int p0), .val (.int p1), .val (.int ((p0 &&& (2147483647 : Int32)) % (6 : Int32))), .val (.ref w_COALESCE), .val (.int (1 : Int32))]) rfl k) ?_
              show Go p e below _ (T54.setTop (mkF m 148 #[.val (.int p0), .val (.int p1), .val (.int ((p0 &&& (2147483647 : Int32)) % (6 : Int32))), .val (.ref w_COALESCE), .val (.int (1 : Int32))] []))
              refine Go.of (fun _ k => XS.aloadN X54.here hx rfl (hb hby at_148) rfl rfl k) ?_
              show Go p e below _ (T54.setTop (mkF m 149 #[.val (.int p0), .val (.int p1), .val (.int ((p0 &&& (2147483647 : Int32)) % (6 : Int32))), .val (.ref w_COALESCE), .val (.int (1 : Int32))] [(.ref w_COALESCE)]))
              refine Go.of (fun _ k => XS.iloadN X54.here hx rfl (hb hby at_149) rfl  k) ?_
              show Go p e below _ (T54.setTop (mkF m 150 #[.val (.int p0), .val (.int p1), .val (.int ((p0 &&& (2147483647 : Int32)) % (6 : Int32))), .val (.ref w_COALESCE), .val (.int (1 : Int32))] [(.int p1), (.ref w_COALESCE)]))
              obtain ⟨cq58, kq58, q58a, q58b, q58c⟩ := isOf hZ e54 E_w_COALESCE
              obtain ⟨_, _, ⟨T58, L58, k58, n58⟩, -, X58, ⟨Lc58, hQ58, l58, y58, z58⟩, st58⟩ := X54.virtualBack hx (y := (⟨"com/example/tallyset/tallyset/Operator", "takes", "(I)Z"⟩ : MethodName)) (z := (⟨"com/example/tallyset/tallyset/Operator", "takes", "(I)Z"⟩ : MethodName)) hown (mvT hZ (hw _ (List.mem_of_getElem? (i := 4) rfl))) (mvT hZ (hw _ (List.mem_of_getElem? (i := 5) rfl))) (notFace_of_selects (args := #[]) (mvT hZ (hw _ (List.mem_of_getElem? (i := 7) rfl)))) (mvT hZ (hw _ (List.mem_of_getElem? (i := 7) rfl))) (mvT hZ (hw _ (List.mem_of_getElem? (i := 6) rfl))) (by decide) (backOf (W := 0) (rm1_ok l Z a0 hw [] w_COALESCE p1 (1 : Int32) (2147483647 : Int32) h0 n0 Z0 F_w_COALESCE_minOperands hc55 F_w_COALESCE_maxOperands (own_i2 p1 hc55)) hZ (hw _ (List.mem_of_getElem? (i := 8) rfl)) (hw _ (List.mem_of_getElem? (i := 2) rfl)) (by decide) (by decide)) q58a q58c (g := (mkF m 150 #[.val (.int p0), .val (.int p1), .val (.int ((p0 &&& (2147483647 : Int32)) % (6 : Int32))), .val (.ref w_COALESCE), .val (.int (1 : Int32))] [(.int p1), (.ref w_COALESCE)])) rfl (by rw [hml]; rfl) (Steps.refl _) (argsL := [(.int p1)]) (rest := []) (lenOf pd_0 rfl) rfl (by show 2 * 0 + _ ≤ _; exact Nat.le_of_eq rfl) (hb hby at_150) (fun _ _ => ⟨rfl, e54, (by decide : 0 + 0 ≤ _), (by decide : 0 + 0 ≤ _)⟩)
              dsimp only [Pt.U, Pt.locs, Pt.cells, Pt.slots] at X58 l58 y58 z58 st58 hQ58
              subst l58 y58 z58
              obtain ⟨rfl, Nq58, q58_0⟩ := hQ58
              have N58 := Fr.app N0 Nq58
              refine Go.tr st58 ?_
              show Go p e below _ (T58.setTop (mkF m 153 #[.val (.int p0), .val (.int p1), .val (.int ((p0 &&& (2147483647 : Int32)) % (6 : Int32))), .val (.ref w_COALESCE), .val (.int (1 : Int32))] [(.int (1 : Int32))]))
              refine Go.of (fun _ k => XS.iload X58.here hx rfl (hb hby at_153) rfl  k) ?_
              show Go p e below _ (T58.setTop (mkF m 155 #[.val (.int p0), .val (.int p1), .val (.int ((p0 &&& (2147483647 : Int32)) % (6 : Int32))), .val (.ref w_COALESCE), .val (.int (1 : Int32))] [(.int (1 : Int32)), (.int (1 : Int32))]))
              refine Go.of (fun _ k => XS.icmpNo X58.here hx rfl (hb hby at_155) rfl (teq (by decide : (1 : Int32) = (1 : Int32))).2 k) ?_
              show Go p e below _ (T58.setTop (mkF m 158 #[.val (.int p0), .val (.int p1), .val (.int ((p0 &&& (2147483647 : Int32)) % (6 : Int32))), .val (.ref w_COALESCE), .val (.int (1 : Int32))] []))
              refine Go.of (fun _ k => XS.iconst X58.here hx rfl (hb hby at_158) k) ?_
              show Go p e below _ (T58.setTop (mkF m 159 #[.val (.int p0), .val (.int p1), .val (.int ((p0 &&& (2147483647 : Int32)) % (6 : Int32))), .val (.ref w_COALESCE), .val (.int (1 : Int32))] [(.int (1 : Int32))]))
              refine Go.of (fun _ k => XS.goto X58.here hx rfl (pc0 := 159) (pc' := 163) rfl (hb hby at_159) (by decide) (by decide) k) ?_
              show Go p e below _ (T58.setTop (mkF m 163 #[.val (.int p0), .val (.int p1), .val (.int ((p0 &&& (2147483647 : Int32)) % (6 : Int32))), .val (.ref w_COALESCE), .val (.int (1 : Int32))] [(.int (1 : Int32))]))
              obtain ⟨fs, hr, hrun, hended, hW, hsame⟩ := X58.leave (v := some (.int (1 : Int32))) (fun h => by rw [Bd.returns] at h; cases h)
              refine Go.mk _ _ ?_ hrun hended ⟨_, _, rfl, ?_, ⟨_, rfl⟩, hW, hsame.mono (by decide) (by decide)⟩
              · exact retN X58 hx (t := .boolean) Bd.returns (by simp) (hb hby at_163) hr
              · show Q0 Z p0 p1 w_SUBSTR w_UPPER w_LOWER w_LENGTH w_ABS w_COALESCE h0 n0 _ T58.heap _
                rw [q58_0]
                exact ⟨rfl, N58⟩
set_option maxRecDepth 65536 in
set_option maxHeartbeats 40000000 in
theorem comes_1 {Post : Tables → Env → Array Value → State → Outcome → State → Prop} (hpost : ∀ tb e args s v u, (limb_1_1.after args s (.returned v) u = true ∧ limb_1_2.after args s (.returned v) u = true ∧ True) → FrameEnd s (.returned v) u (Jvm.fieldLocs frame_1_writes args s ++ Jvm.arrayLocs frame_1_arrays args s ++ Jvm.staticLocs frame_1_statics s) 0 0 → Post tb e args s (.returned v) u) :
    ArmFor flags0 classFile x code maxLocals ret World_1 tables_1 room_1 Calls_1 rest_1 Pre_1 Post := by
  intro l hfl _ _ p e ha hc hk s m args below hf hA hF happ hP
  obtain ⟨hcalls, hrest, hpre⟩ := hP
  obtain ⟨-, -, -, hnamed, -, -, -, hat⟩ := (Spec.applies_iff hf).mp happ
  obtain ⟨hg, hn⟩ := and_e (Cond.before_iff.mp (show (Jvm.Cond.and given_1 narrow_1).before args s = true from hpre))
  obtain ⟨g1, g2⟩ := and_e hg
  obtain ⟨g3, g4⟩ := and_e g2
  obtain ⟨w0, w1, rfl⟩ : ∃ w0 w1 : Value, args = #[w0, w1] := by
    have hs : args.size = 2 := by simpa [Cond.value, given_1] using g1
    obtain ⟨L⟩ := args
    match L, hs with
    | [w0, w1], _ => exact ⟨w0, w1, rfl⟩
  have hw := fun d (hd : d ∈ tables_1) => atoms_spec (ws := Jvm.Cond.code x code maxLocals ret :: tables_1) hat d (List.mem_cons_of_mem _ hd)
  have hfit : Fit s := fun {y c} hc i hi => by
    obtain ⟨ha, rfl⟩ := Array.getElem?_eq_some_iff.mp hc
    have q := List.all_eq_true.mp ((Array.all_eq_true_iff_forall_mem.mp hF) _ (Array.getElem_mem ha)) i (List.mem_range.mpr hi)
    simpa [Array.getElem?_eq_getElem hi] using q
  obtain ⟨i0, ei0⟩ := is_v g3
  obtain rfl : w0 = (.int i0) := Option.some.inj ei0
  obtain ⟨i1, ei1⟩ := is_v g4
  obtain rfl : w1 = (.int i1) := Option.some.inj ei1
  obtain ⟨g5, g6⟩ := and_e hn
  obtain ⟨g7, g8⟩ := and_e g6
  obtain ⟨g9, g10⟩ := and_e g8
  obtain ⟨g11, g12⟩ := and_e g10
  obtain ⟨g13, g14⟩ := and_e g12
  obtain ⟨g15, g16⟩ := and_e g14
  obtain ⟨g17, g18⟩ := and_e g16
  obtain ⟨g19, g20⟩ := and_e g18
  obtain ⟨g21, g22⟩ := and_e g20
  obtain ⟨g23, g24⟩ := and_e g22
  obtain ⟨g25, g26⟩ := and_e g24
  obtain ⟨g27, g28⟩ := and_e g26
  obtain ⟨g29, g30⟩ := and_e g28
  obtain ⟨g31, g32⟩ := and_e g30
  obtain ⟨g33, g34⟩ := and_e g32
  obtain ⟨g35, g36⟩ := and_e g34
  obtain ⟨g37, g38⟩ := and_e g36
  obtain ⟨w_SUBSTR, ev_SUBSTR, E_w_SUBSTR⟩ := own_sta g5
  have S_SUBSTR := Sta.start ev_SUBSTR (Or.inr ⟨(hw _ (List.mem_of_getElem? (i := 2) rfl)), (hw _ (List.mem_of_getElem? (i := 3) rfl))⟩)
  obtain ⟨w_LOWER, ev_LOWER, E_w_LOWER⟩ := own_sta g11
  have S_LOWER := Sta.start ev_LOWER (Or.inr ⟨(hw _ (List.mem_of_getElem? (i := 2) rfl)), (hw _ (List.mem_of_getElem? (i := 14) rfl))⟩)
  obtain ⟨w_ABS, ev_ABS, E_w_ABS⟩ := own_sta g17
  have S_ABS := Sta.start ev_ABS (Or.inr ⟨(hw _ (List.mem_of_getElem? (i := 2) rfl)), (hw _ (List.mem_of_getElem? (i := 16) rfl))⟩)
  obtain ⟨w_UPPER, ev_UPPER, E_w_UPPER⟩ := own_sta g21
  have S_UPPER := Sta.start ev_UPPER (Or.inr ⟨(hw _ (List.mem_of_getElem? (i := 2) rfl)), (hw _ (List.mem_of_getElem? (i := 18) rfl))⟩)
  obtain ⟨w_COALESCE, ev_COALESCE, E_w_COALESCE⟩ := own_sta g27
  have S_COALESCE := Sta.start ev_COALESCE (Or.inr ⟨(hw _ (List.mem_of_getElem? (i := 2) rfl)), (hw _ (List.mem_of_getElem? (i := 20) rfl))⟩)
  obtain ⟨w_LENGTH, ev_LENGTH, E_w_LENGTH⟩ := own_sta g33
  have S_LENGTH := Sta.start ev_LENGTH (Or.inr ⟨(hw _ (List.mem_of_getElem? (i := 2) rfl)), (hw _ (List.mem_of_getElem? (i := 22) rfl))⟩)
  have F_w_SUBSTR_minOperands := own_fldI ev_SUBSTR g7
  have F_w_SUBSTR_maxOperands := own_fldI ev_SUBSTR g9
  have F_w_LOWER_minOperands := own_fldI ev_LOWER g13
  have F_w_LOWER_maxOperands := own_fldI ev_LOWER g15
  have F_w_ABS_minOperands := own_fldI ev_ABS g19
  have F_w_UPPER_minOperands := own_fldI ev_UPPER g23
  have F_w_UPPER_maxOperands := own_fldI ev_UPPER g25
  have F_w_COALESCE_minOperands := own_fldI ev_COALESCE g29
  have F_w_COALESCE_maxOperands := own_fldI ev_COALESCE g31
  have F_w_LENGTH_minOperands := own_fldI ev_LENGTH g35
  have F_w_LENGTH_maxOperands := own_fldI ev_LENGTH g37
  have F_w_ABS_maxOperands := own_fldI ev_ABS g38
  obtain ⟨n, o, h1, h2, h3, _, L, rfl, ⟨rfl, N⟩, hq⟩ := rm0 l s _ hw tables_1 i0 i1 w_SUBSTR w_UPPER w_LOWER w_LENGTH w_ABS w_COALESCE s.heap s.heap.size (Nat.le_refl _) S_SUBSTR F_w_SUBSTR_minOperands F_w_SUBSTR_maxOperands E_w_SUBSTR S_UPPER F_w_UPPER_minOperands F_w_UPPER_maxOperands E_w_UPPER S_LOWER F_w_LOWER_minOperands F_w_LOWER_maxOperands E_w_LOWER S_LENGTH F_w_LENGTH_minOperands F_w_LENGTH_maxOperands E_w_LENGTH S_ABS F_w_ABS_minOperands F_w_ABS_maxOperands E_w_ABS S_COALESCE F_w_COALESCE_minOperands E_w_COALESCE F_w_COALESCE_maxOperands p e ha hc hk s m _ below hf ((Spec.applies_iff_loose hf).mp happ).1 ⟨rfl, State.Warmed39.refl s, rfl⟩ trivial
  refine ⟨n, _, h1, h2, h3, hpost _ _ _ _ _ _ ⟨Cond.after_iff.mpr rfl, Cond.after_iff.mpr (eq_i res_at (Term.int_eval (1)) rfl), trivial⟩ ⟨hq.1, hq.2.1, (hq.2.2.sift fun y hy => Or.inr (N y hy)).mono (by decide) (by decide)⟩⟩
theorem main_1_1 : Claimed_1_1 := comes_1 fun _ _ _ _ _ _ h hF => ⟨h.1, hF⟩
theorem main_1_2 : Claimed_1_2 := comes_1 fun _ _ _ _ _ _ h hF => ⟨h.2.1, hF⟩
end Jvm.Pilot.@@N@@
namespace Jvm.Pilot.@@N@@
open Jvm Jvm.ClassFile Sem Op Lib Jvm.Free Jvm.Stand Jvm.Pilot.@@N@@.Jvm.D
/-! MADE BY PROGRAM (witnessworld.py) out of the Statement's table words and the real class files: 12 classes; the members and pool entries that the words name. The judged class is class 1, her method 1. -/
namespace start1
open Jvm.ClassFile
def u (s : String) : CpInfo := .utf8 (stringToUtf16 s)
/-- a pool by its gaps: so many unusable entries, then the entry; so many at the end -/
def gap : Nat → List CpInfo → List CpInfo
  | 0, r => r
  | n + 1, r => .unusable :: gap n r
def poolList (es : List (Nat × CpInfo)) (last : Nat) : List CpInfo := es.foldr (fun e r => gap e.1 (e.2 :: r)) (gap last [])
def pool (es : List (Nat × CpInfo)) (last : Nat) : Array CpInfo := ⟨poolList es last⟩
def fileOf (pool : Array CpInfo) (this : Nat) (attrs : Array Attribute := #[]) (ms : Array MethodInfo := #[]) (fl : Nat := 33) (sup : Nat := 0) (ifs : Array Nat := #[]) (fds : Array FieldInfo := #[]) : ClassFile where
  minorVersion := 0
  majorVersion := 65
  constantPool := pool
  accessFlags := fl
  thisClass := this
  superClass := sup
  interfaces := ifs
  fields := fds
  methods := ms
  attributes := attrs
def plain (name : String) (sup : Option ClassId) : Class where
  name := name
  kind := .ordinary
  loader := none
  accessFlags := 33
  super := sup
  interfaces := #[]
  cf := none
  fields := #[]
  methods := #[]
  instanceTypes := #[]
  staticTypes := #[]
  resolved := #[]
  callSites := []
  init := .initialized
  statics := none
  mirror := none

def pool0 : Array CpInfo := pool [(5, u "<init>"), (0, u "()V"), (1, .class_ 10), (1, u "java/lang/Object")] 113

def k0m0 : Method := { name := "<init>", desc := "()V", sig := { parameters := [], returnType := none }, accessFlags := 1, code := none }
/-- java/lang/Object -/
def k0 : Class := { plain "java/lang/Object" none with
  accessFlags := 33
  interfaces := #[]
  cf := some (fileOf pool0 8 #[] #[{ accessFlags := 1, nameIndex := 5, descriptorIndex := 6, attributes := #[] }] 33 0 #[] #[])
  fields := #[]
  methods := #[k0m0]
  instanceTypes := #[]
  staticTypes := #[]
  resolved := Array.replicate 124 none
  statics := none }

def pool1 : Array CpInfo := pool [(2, .class_ 4), (1, u "java/lang/Object"), (0, u "<init>"), (0, u "()V"), (0, .integer 2147483647), (0, .fieldref 9 10), (0, .class_ 11), (0, .nameAndType 12 13), (0, u "com/example/tallyset/tallyset/Operator"), (0, u "SUBSTR"), (0, u "Lcom/example/tallyset/tallyset/Operator;"), (0, .fieldref 9 15), (0, .nameAndType 16 13), (0, u "UPPER"), (0, .fieldref 9 18), (0, .nameAndType 19 13), (0, u "LOWER"), (0, .fieldref 9 21), (0, .nameAndType 22 13), (0, u "LENGTH"), (0, .fieldref 9 24), (0, .nameAndType 25 13), (0, u "ABS"), (0, .fieldref 9 27), (0, .nameAndType 28 13), (0, u "COALESCE"), (0, .methodref 9 30), (0, .nameAndType 31 32), (0, u "takes"), (0, u "(I)Z"), (0, .class_ 34), (0, u "com/example/tallyset/tallyset/OperatorTakesPinLaw"), (2, u "law"), (0, u "(II)Z")] 3

def k1m0 : Method := { name := "<init>", desc := "()V", sig := { parameters := [], returnType := none }, accessFlags := 1, code := none }
def k1c1 : Code := { maxStack := 2, maxLocals := 5, code := code, exceptionTable := #[], attributes := #[] }
def k1m1 : Method := { name := "law", desc := "(II)Z", sig := { parameters := [.int, .int], returnType := some .boolean }, accessFlags := 9, code := some k1c1 }
/-- com/example/tallyset/tallyset/OperatorTakesPinLaw -/
def k1 : Class := { plain "com/example/tallyset/tallyset/OperatorTakesPinLaw" (some 0) with
  accessFlags := 49
  interfaces := #[]
  cf := some (fileOf pool1 33 #[] #[{ accessFlags := 1, nameIndex := 5, descriptorIndex := 6, attributes := #[] }, { accessFlags := 9, nameIndex := 37, descriptorIndex := 38, attributes := #[] }] 49 2 #[] #[])
  fields := #[]
  methods := #[k1m0, k1m1]
  instanceTypes := #[]
  staticTypes := #[]
  resolved := Array.replicate 42 none
  statics := none }

def pool2 : Array CpInfo := pool [(1, .class_ 2), (0, u "java/lang/constant/Constable"), (0, .class_ 4), (0, u "java/lang/Object")] 6

/-- java/lang/constant/Constable -/
def k2 : Class := { plain "java/lang/constant/Constable" (some 0) with
  accessFlags := 1537
  interfaces := #[]
  cf := some (fileOf pool2 1 #[] #[] 1537 3 #[] #[])
  fields := #[]
  methods := #[]
  instanceTypes := #[]
  staticTypes := #[]
  resolved := Array.replicate 11 none
  statics := none }

def pool3 : Array CpInfo := pool [(1, .class_ 2), (0, u "java/lang/Comparable"), (0, .class_ 4), (0, u "java/lang/Object")] 7

/-- java/lang/Comparable -/
def k3 : Class := { plain "java/lang/Comparable" (some 0) with
  accessFlags := 1537
  interfaces := #[]
  cf := some (fileOf pool3 1 #[] #[] 1537 3 #[] #[])
  fields := #[]
  methods := #[]
  instanceTypes := #[]
  staticTypes := #[]
  resolved := Array.replicate 12 none
  statics := none }

def pool4 : Array CpInfo := pool [(1, .class_ 2), (0, u "java/io/Serializable"), (0, .class_ 4), (0, u "java/lang/Object")] 2

/-- java/io/Serializable -/
def k4 : Class := { plain "java/io/Serializable" (some 0) with
  accessFlags := 1537
  interfaces := #[]
  cf := some (fileOf pool4 1 #[] #[] 1537 3 #[] #[])
  fields := #[]
  methods := #[]
  instanceTypes := #[]
  staticTypes := #[]
  resolved := Array.replicate 7 none
  statics := none }

def pool5 : Array CpInfo := pool [(2, .class_ 4), (1, u "java/lang/Enum"), (0, u "name"), (0, u "Ljava/lang/String;"), (2, u "ordinal"), (0, u "I"), (1, .class_ 14), (1, u "java/lang/Object"), (4, u "hash"), (86, .class_ 108), (1, u "java/lang/Enum$EnumDesc"), (2, .class_ 112), (0, u "java/lang/constant/Constable"), (0, .class_ 114), (0, u "java/lang/Comparable"), (0, .class_ 116), (0, u "java/io/Serializable")] 87

/-- java/lang/Enum -/
def k5 : Class := { plain "java/lang/Enum" (some 0) with
  accessFlags := 1057
  interfaces := #[2, 3, 4]
  cf := some (fileOf pool5 2 #[.nestMembers #[106]] #[] 1057 12 #[111, 113, 115] #[{ accessFlags := 18, nameIndex := 5, descriptorIndex := 6, attributes := #[] }, { accessFlags := 18, nameIndex := 9, descriptorIndex := 10, attributes := #[] }, { accessFlags := 2, nameIndex := 19, descriptorIndex := 10, attributes := #[] }])
  fields := #[{ name := "name", type := (.object "java/lang/String"), accessFlags := 18, slot := 0, constantValue := 0 }, { name := "ordinal", type := .int, accessFlags := 18, slot := 1, constantValue := 0 }, { name := "hash", type := .int, accessFlags := 2, slot := 2, constantValue := 0 }]
  methods := #[]
  instanceTypes := #[(.object "java/lang/String"), .int, .int]
  staticTypes := #[]
  resolved := Array.replicate 204 none
  statics := none }

def pool6 : Array CpInfo := pool [(1, .class_ 2), (0, u "com/example/tallyset/tallyset/Operator"), (2, u "ADD"), (0, u "Lcom/example/tallyset/tallyset/Operator;"), (2, u "SUBTRACT"), (2, u "MULTIPLY"), (2, u "DIVIDE"), (2, u "NEGATE"), (2, u "CONCAT"), (2, u "SUBSTR"), (2, u "UPPER"), (2, u "LOWER"), (2, u "LENGTH"), (2, u "ABS"), (2, u "COALESCE"), (2, u "EQUAL"), (2, u "NOT_EQUAL"), (2, u "LESS"), (2, u "LESS_OR_EQUAL"), (2, u "GREATER"), (2, u "GREATER_OR_EQUAL"), (2, u "IS_NULL"), (2, u "IS_NOT_NULL"), (2, u "IN"), (2, u "AND"), (2, u "OR"), (2, u "NOT"), (2, u "$VALUES"), (0, u "[Lcom/example/tallyset/tallyset/Operator;"), (6, .class_ 88), (1, u "java/lang/Enum"), (3, .class_ 94), (1, u "com/example/tallyset/tallyset/Operator$Type"), (1, u "Lcom/example/tallyset/tallyset/Operator$Type;"), (9, u "spelling"), (0, u "Ljava/lang/String;"), (2, u "type"), (0, .fieldref 1 112), (0, .nameAndType 113 114), (0, u "minOperands"), (0, u "I"), (0, .fieldref 1 116), (0, .nameAndType 117 114), (0, u "maxOperands"), (280, u "(I)Z"), (95, u "takes")] 131

def k6c0 : Code := { maxStack := 2, maxLocals := 2, code := prog_26_method_12_code, exceptionTable := #[], attributes := #[] }
def k6m0 : Method := { name := "takes", desc := "(I)Z", sig := { parameters := [.int], returnType := some .boolean }, accessFlags := 0, code := some k6c0 }
/-- com/example/tallyset/tallyset/Operator -/
def k6 : Class := { plain "com/example/tallyset/tallyset/Operator" (some 5) with
  accessFlags := 16432
  interfaces := #[]
  cf := some (fileOf pool6 1 #[.nestMembers #[92]] #[{ accessFlags := 0, nameIndex := 494, descriptorIndex := 398, attributes := #[] }] 16432 86 #[] #[{ accessFlags := 16409, nameIndex := 5, descriptorIndex := 6, attributes := #[] }, { accessFlags := 16409, nameIndex := 9, descriptorIndex := 6, attributes := #[] }, { accessFlags := 16409, nameIndex := 12, descriptorIndex := 6, attributes := #[] }, { accessFlags := 16409, nameIndex := 15, descriptorIndex := 6, attributes := #[] }, { accessFlags := 16409, nameIndex := 18, descriptorIndex := 6, attributes := #[] }, { accessFlags := 16409, nameIndex := 21, descriptorIndex := 6, attributes := #[] }, { accessFlags := 16409, nameIndex := 24, descriptorIndex := 6, attributes := #[] }, { accessFlags := 16409, nameIndex := 27, descriptorIndex := 6, attributes := #[] }, { accessFlags := 16409, nameIndex := 30, descriptorIndex := 6, attributes := #[] }, { accessFlags := 16409, nameIndex := 33, descriptorIndex := 6, attributes := #[] }, { accessFlags := 16409, nameIndex := 36, descriptorIndex := 6, attributes := #[] }, { accessFlags := 16409, nameIndex := 39, descriptorIndex := 6, attributes := #[] }, { accessFlags := 16409, nameIndex := 42, descriptorIndex := 6, attributes := #[] }, { accessFlags := 16409, nameIndex := 45, descriptorIndex := 6, attributes := #[] }, { accessFlags := 16409, nameIndex := 48, descriptorIndex := 6, attributes := #[] }, { accessFlags := 16409, nameIndex := 51, descriptorIndex := 6, attributes := #[] }, { accessFlags := 16409, nameIndex := 54, descriptorIndex := 6, attributes := #[] }, { accessFlags := 16409, nameIndex := 57, descriptorIndex := 6, attributes := #[] }, { accessFlags := 16409, nameIndex := 60, descriptorIndex := 6, attributes := #[] }, { accessFlags := 16409, nameIndex := 63, descriptorIndex := 6, attributes := #[] }, { accessFlags := 16409, nameIndex := 66, descriptorIndex := 6, attributes := #[] }, { accessFlags := 16409, nameIndex := 69, descriptorIndex := 6, attributes := #[] }, { accessFlags := 16409, nameIndex := 72, descriptorIndex := 6, attributes := #[] }, { accessFlags := 16409, nameIndex := 75, descriptorIndex := 6, attributes := #[] }, { accessFlags := 18, nameIndex := 106, descriptorIndex := 107, attributes := #[] }, { accessFlags := 18, nameIndex := 110, descriptorIndex := 96, attributes := #[] }, { accessFlags := 18, nameIndex := 113, descriptorIndex := 114, attributes := #[] }, { accessFlags := 18, nameIndex := 117, descriptorIndex := 114, attributes := #[] }, { accessFlags := 4122, nameIndex := 78, descriptorIndex := 79, attributes := #[] }])
  fields := #[{ name := "ADD", type := (.object "com/example/tallyset/tallyset/Operator"), accessFlags := 16409, slot := 0, constantValue := 0 }, { name := "SUBTRACT", type := (.object "com/example/tallyset/tallyset/Operator"), accessFlags := 16409, slot := 1, constantValue := 0 }, { name := "MULTIPLY", type := (.object "com/example/tallyset/tallyset/Operator"), accessFlags := 16409, slot := 2, constantValue := 0 }, { name := "DIVIDE", type := (.object "com/example/tallyset/tallyset/Operator"), accessFlags := 16409, slot := 3, constantValue := 0 }, { name := "NEGATE", type := (.object "com/example/tallyset/tallyset/Operator"), accessFlags := 16409, slot := 4, constantValue := 0 }, { name := "CONCAT", type := (.object "com/example/tallyset/tallyset/Operator"), accessFlags := 16409, slot := 5, constantValue := 0 }, { name := "SUBSTR", type := (.object "com/example/tallyset/tallyset/Operator"), accessFlags := 16409, slot := 6, constantValue := 0 }, { name := "UPPER", type := (.object "com/example/tallyset/tallyset/Operator"), accessFlags := 16409, slot := 7, constantValue := 0 }, { name := "LOWER", type := (.object "com/example/tallyset/tallyset/Operator"), accessFlags := 16409, slot := 8, constantValue := 0 }, { name := "LENGTH", type := (.object "com/example/tallyset/tallyset/Operator"), accessFlags := 16409, slot := 9, constantValue := 0 }, { name := "ABS", type := (.object "com/example/tallyset/tallyset/Operator"), accessFlags := 16409, slot := 10, constantValue := 0 }, { name := "COALESCE", type := (.object "com/example/tallyset/tallyset/Operator"), accessFlags := 16409, slot := 11, constantValue := 0 }, { name := "EQUAL", type := (.object "com/example/tallyset/tallyset/Operator"), accessFlags := 16409, slot := 12, constantValue := 0 }, { name := "NOT_EQUAL", type := (.object "com/example/tallyset/tallyset/Operator"), accessFlags := 16409, slot := 13, constantValue := 0 }, { name := "LESS", type := (.object "com/example/tallyset/tallyset/Operator"), accessFlags := 16409, slot := 14, constantValue := 0 }, { name := "LESS_OR_EQUAL", type := (.object "com/example/tallyset/tallyset/Operator"), accessFlags := 16409, slot := 15, constantValue := 0 }, { name := "GREATER", type := (.object "com/example/tallyset/tallyset/Operator"), accessFlags := 16409, slot := 16, constantValue := 0 }, { name := "GREATER_OR_EQUAL", type := (.object "com/example/tallyset/tallyset/Operator"), accessFlags := 16409, slot := 17, constantValue := 0 }, { name := "IS_NULL", type := (.object "com/example/tallyset/tallyset/Operator"), accessFlags := 16409, slot := 18, constantValue := 0 }, { name := "IS_NOT_NULL", type := (.object "com/example/tallyset/tallyset/Operator"), accessFlags := 16409, slot := 19, constantValue := 0 }, { name := "IN", type := (.object "com/example/tallyset/tallyset/Operator"), accessFlags := 16409, slot := 20, constantValue := 0 }, { name := "AND", type := (.object "com/example/tallyset/tallyset/Operator"), accessFlags := 16409, slot := 21, constantValue := 0 }, { name := "OR", type := (.object "com/example/tallyset/tallyset/Operator"), accessFlags := 16409, slot := 22, constantValue := 0 }, { name := "NOT", type := (.object "com/example/tallyset/tallyset/Operator"), accessFlags := 16409, slot := 23, constantValue := 0 }, { name := "spelling", type := (.object "java/lang/String"), accessFlags := 18, slot := 3, constantValue := 0 }, { name := "type", type := (.object "com/example/tallyset/tallyset/Operator$Type"), accessFlags := 18, slot := 4, constantValue := 0 }, { name := "minOperands", type := .int, accessFlags := 18, slot := 5, constantValue := 0 }, { name := "maxOperands", type := .int, accessFlags := 18, slot := 6, constantValue := 0 }, { name := "$VALUES", type := (.array (.object "com/example/tallyset/tallyset/Operator")), accessFlags := 4122, slot := 24, constantValue := 0 }]
  methods := #[k6m0]
  instanceTypes := #[(.object "java/lang/String"), .int, .int, (.object "java/lang/String"), (.object "com/example/tallyset/tallyset/Operator$Type"), .int, .int]
  staticTypes := #[(.object "com/example/tallyset/tallyset/Operator"), (.object "com/example/tallyset/tallyset/Operator"), (.object "com/example/tallyset/tallyset/Operator"), (.object "com/example/tallyset/tallyset/Operator"), (.object "com/example/tallyset/tallyset/Operator"), (.object "com/example/tallyset/tallyset/Operator"), (.object "com/example/tallyset/tallyset/Operator"), (.object "com/example/tallyset/tallyset/Operator"), (.object "com/example/tallyset/tallyset/Operator"), (.object "com/example/tallyset/tallyset/Operator"), (.object "com/example/tallyset/tallyset/Operator"), (.object "com/example/tallyset/tallyset/Operator"), (.object "com/example/tallyset/tallyset/Operator"), (.object "com/example/tallyset/tallyset/Operator"), (.object "com/example/tallyset/tallyset/Operator"), (.object "com/example/tallyset/tallyset/Operator"), (.object "com/example/tallyset/tallyset/Operator"), (.object "com/example/tallyset/tallyset/Operator"), (.object "com/example/tallyset/tallyset/Operator"), (.object "com/example/tallyset/tallyset/Operator"), (.object "com/example/tallyset/tallyset/Operator"), (.object "com/example/tallyset/tallyset/Operator"), (.object "com/example/tallyset/tallyset/Operator"), (.object "com/example/tallyset/tallyset/Operator"), (.array (.object "com/example/tallyset/tallyset/Operator"))]
  resolved := Array.replicate 626 none
  statics := some 0 }

def pool7 : Array CpInfo := pool [(1, u "java/lang/Cloneable"), (0, .class_ 1), (0, u "java/lang/Object"), (0, .class_ 3)] 3

/-- java/lang/Cloneable -/
def k7 : Class := { plain "java/lang/Cloneable" (some 0) with
  accessFlags := 1537
  interfaces := #[]
  cf := some (fileOf pool7 2 #[] #[] 1537 4 #[] #[])
  fields := #[]
  methods := #[]
  instanceTypes := #[]
  staticTypes := #[]
  resolved := Array.replicate 8 none
  statics := none }

/-- the primitive byte -/
def k8 : Class := { plain "byte" none with kind := .primitive 'B', accessFlags := 0x411 }
/-- [B -/
def k9 : Class := { plain "[B" (some 0) with kind := .array 8 .byte, interfaces := #[7, 4], accessFlags := 1041 }

/-- the primitive int -/
def k10 : Class := { plain "int" none with kind := .primitive 'I', accessFlags := 0x411 }
/-- [I -/
def k11 : Class := { plain "[I" (some 0) with kind := .array 10 .int, interfaces := #[7, 4], accessFlags := 1041 }

def heap : Heap := #[{ cls := 6, slots := #[.null, .null, .null, .null, .null, .null, .ref 1, .ref 4, .ref 2, .ref 6, .ref 3, .ref 5, .null, .null, .null, .null, .null, .null, .null, .null, .null, .null, .null, .null, .null], vm := .statics 6 },
  { cls := 6, slots := #[.null, .int 0, .int 0, .null, .null, .int 2, .int 3], vm := .none },
  { cls := 6, slots := #[.null, .int 0, .int 0, .null, .null, .int 1, .int 1], vm := .none },
  { cls := 6, slots := #[.null, .int 0, .int 0, .null, .null, .int 1, .int 1], vm := .none },
  { cls := 6, slots := #[.null, .int 0, .int 0, .null, .null, .int 1, .int 1], vm := .none },
  { cls := 6, slots := #[.null, .int 0, .int 0, .null, .null, .int 1, .int 2147483647], vm := .none },
  { cls := 6, slots := #[.null, .int 0, .int 0, .null, .null, .int 1, .int 1], vm := .none }]
def classes : Array Class := #[k0, k1, k2, k3, k4, k5, k6, k7, k8, k9, k10, k11]
def interned : List (Array UInt16 × Addr) := []
def slotsUsed : Nat := 67
def theMethod : MethodId := ⟨1, 1⟩
def args0 : Array Value := #[.int 5, .int 1]
def aboutOver (below : List Frame) : State where
  vm := { classes := classes, interned := interned.toArray }
  heap := heap
  slotsUsed := slotsUsed
  threads := #[{ frames := .invoking theMethod args0 :: below }]
def below0 : List Frame := [.native { method := ⟨0, 0⟩, args := #[] }]
def about1 : State := aboutOver below0
def p0 : Program := .bare "" "" ""
def e0 : Env := launch0.env 0 0 0
theorem w_frames : about1.frames = Frame.invoking theMethod args0 :: below0 := rfl
set_option maxRecDepth 65536 in
theorem w_args : argsFit about1.vm theMethod args0 = true := by decide +kernel
set_option maxRecDepth 65536 in
theorem w_heap : heapFits about1 = true := by decide +kernel
set_option maxRecDepth 65536 in
theorem w_runnable : about1.curStatus? = some .runnable := by decide +kernel
set_option maxRecDepth 65536 in
theorem w_alone : about1.alone = true := by decide +kernel
set_option maxRecDepth 65536 in
theorem w_named : about1.methodNamed? x = some theMethod := by decide +kernel
set_option maxRecDepth 65536 in
theorem w_hears : about1.hears theMethod below0 = true := by decide +kernel
set_option maxRecDepth 65536 in
theorem w_ripe : about1.ripe theMethod args0 below0 = true := by decide +kernel
theorem w_running : about1.status = .running := rfl
set_option maxRecDepth 65536 in
theorem w_room : about1.hasRoom e0.platform room_1 = true :=
  launch0.hasRoom_least _ room_1 (by decide +kernel) (by decide +kernel) (by decide +kernel) (by decide +kernel) (by decide +kernel) (by decide +kernel)
theorem allAtoms_all (ts : List Jvm.Cond) (a : Array Jvm.Value) (st : Jvm.State) : (allAtoms ts).before a st = ts.all (fun c => c.before a st) := by
  induction ts with
  | nil => rfl
  | cons c t ih =>
    show (Jvm.Cond.and c (allAtoms t)).before a st = _
    rw [Jvm.Cond.before_and, ih, List.all_cons]
def words1 : List Jvm.Cond := Jvm.Cond.code x code maxLocals ret :: tables_1
/-- a 'code' word, met by the world's own term for the bytes: nothing is compared byte by byte -/
theorem code_word {y : MethodName} {bytes : ByteArray} {mx : Nat} {rt : Option FieldType} {a : Array Value} {s : State} {m : MethodId} {meth : Method} {c : Code} (h1 : s.methodNamed? y = some m) (h2 : s.vm.method? m = some meth) (h3 : meth.code = some c) (h4 : c.code = bytes)
    (h5 : (c.maxLocals == mx && c.exceptionTable.isEmpty && decide (c.maxStack ≤ mostOperands) && decide (meth.sig.returnType = rt) && !meth.locks && decide (parseMethodDescriptor y.desc = some meth.sig)) = true) : (Jvm.Cond.code y bytes mx rt).before a s = true := by
  simp only [Bool.and_eq_true, beq_iff_eq, Bool.not_eq_true', decide_eq_true_eq] at h5
  obtain ⟨⟨⟨⟨⟨g1, g2⟩, g3⟩, g4⟩, g5⟩, g6⟩ := h5
  simp [Cond.before, Cond.holds, Cond.value, h1, h2, h3, h4, g1, g2, g3, g4, g5, g6]
def isCode : Jvm.Cond → Bool
  | .code _ _ _ _ => true
  | _ => false
theorem all_split {L : List Jvm.Cond} {P : Jvm.Cond → Bool} (h1 : L.all (fun c => isCode c || P c) = true) (h2 : ∀ c ∈ L.filter isCode, P c = true) : L.all P = true := by
  refine List.all_eq_true.mpr fun c hc => ?_
  have h := List.all_eq_true.mp h1 c hc
  rcases Bool.eq_false_or_eq_true (isCode c) with hi | hi
  · exact h2 c (List.mem_filter.mpr ⟨hc, hi⟩)
  · simpa [hi] using h
set_option maxRecDepth 65536 in
theorem w_c0 : (Jvm.Cond.code x code maxLocals ret).before args0 about1 = true := code_word (m := ⟨1, 1⟩) (meth := k1m1) (c := k1c1) (by decide +kernel) rfl rfl rfl (by decide +kernel)
set_option maxRecDepth 65536 in
theorem w_c1 : (Jvm.Cond.code ({ cls := "com/example/tallyset/tallyset/Operator", name := "takes", desc := "(I)Z" } : Jvm.MethodName) prog_26_method_12_code (2 : Nat) (Option.some Jvm.ClassFile.FieldType.boolean)).before args0 about1 = true := code_word (m := ⟨6, 0⟩) (meth := k6m0) (c := k6c0) (by decide +kernel) rfl rfl rfl (by decide +kernel)
def codes1 : List Jvm.Cond := [Jvm.Cond.code x code maxLocals ret, Jvm.Cond.code ({ cls := "com/example/tallyset/tallyset/Operator", name := "takes", desc := "(I)Z" } : Jvm.MethodName) prog_26_method_12_code (2 : Nat) (Option.some Jvm.ClassFile.FieldType.boolean)]
set_option maxRecDepth 65536 in
theorem codes_eq : words1.filter isCode = codes1 := rfl
theorem w_codes : ∀ c ∈ words1.filter isCode, c.before args0 about1 = true := by
  rw [codes_eq]
  intro c hc
  simp only [codes1, List.mem_cons, List.not_mem_nil, or_false] at hc
  rcases hc with rfl | rfl
  · exact w_c0
  · exact w_c1
set_option maxRecDepth 65536 in
theorem w_t1 : words1.all (fun c => isCode c || c.before args0 about1) = true := by decide +kernel
theorem w_tables : (allAtoms (Jvm.Cond.code x code maxLocals ret :: tables_1)).before args0 about1 = true := by
  rw [allAtoms_all]
  show words1.all (fun c => c.before args0 about1) = true
  refine all_split ?_ w_codes
  rw [w_t1]
set_option maxRecDepth 65536 in
theorem w_case : (Jvm.Cond.and given_1 narrow_1).before args0 about1 = true := by decide +kernel
theorem w_applies : (headSpec (Jvm.Cond.code x code maxLocals ret :: tables_1) room_1).applies x e0.platform about1 = true :=
  (Spec.applies_iff w_frames).mpr ⟨w_running, w_runnable, w_alone, w_named, w_hears, w_ripe, w_room, w_tables⟩
theorem atStart : AtStart classFile x code maxLocals ret World_1 tables_1 room_1 Calls_1 rest_1 Pre_1 launch0 p0 e0 about1 theMethod args0 below0 :=
  ⟨lists_1, trivial, launch0.admits_env _ _ _, launch0.least_env, fairChoices_fair.cas, fairChoices_fair.clock, w_frames, w_args, w_heap, w_applies, trivial, trivial, w_case⟩
end start1
theorem witness_1 : WitnessClaimed_1 := ⟨start1.p0, start1.e0, start1.about1, start1.theMethod, start1.args0, start1.below0, start1.atStart⟩
end Jvm.Pilot.@@N@@
