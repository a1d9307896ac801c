import JvmDerived
import JvmDerived.Pilot.@@N@@Statement
import JvmDerived.Pilot.@@N@@Code
set_option linter.unusedVariables false
set_option linter.unusedSimpArgs false
namespace Jvm.RoadKit
open Sem ClassFile Op Lib Jvm.Stand Jvm.Free Jvm.LawKit
section New
variable {p : Program} {l : Launch} {e : Env} {R : Room} {s : State} {m : MethodId} {args : Array Value} {below : List Frame} {meth : Method} {c : Code} {T : State} {locs : List Loc} {cells slots : Nat}
theorem retI (X : Stand p l e R s m args below meth c T locs cells slots) (hx : p.tables.exec = Jvm.exec) {pc : Nat} {Ls : Array Slot} {z : Int32} {rest : List Value} (hret : meth.sig.returnType = some .int) (hd : decode c.code pc = .ok (.ireturn, 1)) {fs : List Frame}
    (hl : ∀ (f : JFrame) (acts : List Action), f.method = m → f.locked = none → f.entered = [] → (doReturn e (T.setTop f) acts (some (.int z))).1 = T.setFrames fs) : Steps p.tables e below (T.setTop (mkF m pc Ls (.int z :: rest))) (T.setFrames fs) := by
  have hm' : T.vm.method? m = some meth := X.method'
  have hn : narrow .int (.int z) = .int z := rfl
  show Steps p.tables e below (T.setTop { method := m, pc := pc, locals := Ls, stack := _ :: rest, locked := none }) _
  jvm_step X.here [X.here.top, hx, hd, hm', hret, hn]
  first | (intro acts; rw [hl _ acts rfl rfl rfl]) | rw [hl _ _ rfl rfl rfl]
  exact Steps.refl _
end New
end Jvm.RoadKit
namespace Jvm.Pilot.@@N@@
open Jvm Jvm.ClassFile Sem Op Lib Jvm.Free Jvm.Stand Jvm.LawKit Jvm.RoadKit Bundle Jvm.Pilot.@@N@@.Jvm.D
/-- the run from U comes to an end of which P holds -/
def Go (p : Program) (e : Env) (below : List Frame) (P : Outcome → State → Prop) (U : State) : Prop := ∃ s₂ o, Steps p.tables e below U s₂ ∧ s₂.status = .running ∧ Ended s₂ below o ∧ P o s₂
theorem Go.mk {p : Program} {e : Env} {below : List Frame} {P : Outcome → State → Prop} {U : State} (s₂ : State) (o : Outcome) (h1 : Steps p.tables e below U s₂) (h2 : s₂.status = .running) (h3 : Ended s₂ below o) (h4 : P o s₂) : Go p e below P U := ⟨s₂, o, h1, h2, h3, h4⟩
theorem Go.of {p : Program} {e : Env} {below : List Frame} {P : Outcome → State → Prop} {U V : State} (st : ∀ t, Steps p.tables e below V t → Steps p.tables e below U t) (h : Go p e below P V) : Go p e below P U := by
  obtain ⟨s₂, o, h1, h⟩ := h
  exact ⟨s₂, o, st _ h1, h⟩
theorem Go.tr {p : Program} {e : Env} {below : List Frame} {P : Outcome → State → Prop} {U V : State} (st : Steps p.tables e below U V) (h : Go p e below P V) : Go p e below P U := by
  obtain ⟨s₂, o, h1, h⟩ := h
  exact ⟨s₂, o, st.trans h1, h⟩
theorem own_sta {args : Array Value} {s : State} {C n d K : String} (h : (Jvm.Cond.exactly (Term.static C n d) K).value args s none s [] = some true) : ∃ a, (Term.static C n d).eval args s none [] s = some (.ref a) ∧ Exa s s.heap a K := by
  obtain ⟨a, ev⟩ := exa_v h
  exact ⟨a, ev, Exa.start ev h⟩
theorem own_fldI {args : Array Value} {s : State} {t : Term} {a : Addr} {C n d : String} {k : Int32} (ev : t.eval args s none [] s = some (.ref a)) (h : (Jvm.Cond.eq (.field t C n d) (.int k)).value args s none s [] = some true) : Fld s s.heap a C n d (.int k) := by
  obtain ⟨x, y, h1, h2, k1, -⟩ := cmp_v (Or.inl h)
  cases h2
  obtain ⟨z, rfl⟩ : ∃ z, x = .int z := by cases x <;> simp [Kin, Value.isRef] at k1 ⊢
  have e : z = k := gotT (Cond.eq_ints h1 rfl) h
  subst e
  rw [fld_at ev] at h1
  exact Fld.start h1
theorem own_fldR {args : Array Value} {s : State} {t t2 : Term} {a b : Addr} {C n d : String} (ev : t.eval args s none [] s = some (.ref a)) (ev2 : t2.eval args s none [] s = some (.ref b)) (h : (Jvm.Cond.eq (.field t C n d) t2).value args s none s [] = some true) : Fld s s.heap a C n d (.ref b) := by
  obtain ⟨x, y, h1, h2, k1, k2⟩ := cmp_v (Or.inl h)
  cases ev2.symm.trans h2
  have e : x = .ref b := by
    have q := gotT (eq_R h1 h2 (by cases x <;> simp [Kin, Value.isRef] at k1 ⊢) rfl) h
    exact q
  subst e
  rw [fld_at ev] at h1
  exact Fld.start h1
theorem own_Sta_keep {Z : State} {h h' : Heap} {C n d : String} {v : Value} {ws : List Addr} (F : Sta Z h C n d v) (K : Keep h h' ws) (q : ∀ x ∈ ws, ∀ cell : Cell, h[x]? = some cell → cell.vm.isStatics = false) : Sta Z h' C n d v := by
  obtain ⟨cf, i, k, f, st, cell, h1, h2, h3, h4, h5, h6, h7⟩ := F
  exact ⟨cf, i, k, f, st, cell, h1, h2, h3, h4, K.2.1 _ _ h5 (fun z => by have := q st z cell h5; rw [h6] at this; cases this), h6, h7⟩
theorem own_Ins_keep {Z : State} {h h' : Heap} {C : String} {a : Addr} {b : Bool} {ws : List Addr} (F : Ins Z h a C b) (K : Keep h h' ws) : Ins Z h' a C b := by
  obtain ⟨cell, cT, h1, h2, h3⟩ := F
  obtain ⟨c', q1, q2, q3, -⟩ := K.2.2 _ _ h1
  exact ⟨c', cT, q1, h2, by rw [q2, q3]; exact h3⟩
theorem own_p0 {h : Heap} : ∀ x ∈ ([] : List Addr), ∀ cell : Cell, h[x]? = some cell → cell.vm.isStatics = false := fun _ q => nomatch q
theorem own_pS {h : Heap} {y : Addr} {L : List Addr} (q : ∀ cell : Cell, h[y]? = some cell → cell.vm.isStatics = false) (r : ∀ x ∈ L, ∀ cell : Cell, h[x]? = some cell → cell.vm.isStatics = false) : ∀ x ∈ y :: L, ∀ cell : Cell, h[x]? = some cell → cell.vm.isStatics = false := fun x z => (List.mem_cons.mp z).elim (fun u => u ▸ q) (r x)
theorem own_plainE {Z : State} {h : Heap} {a : Addr} {C : String} (F : Exa Z h a C) : ∀ cell : Cell, h[a]? = some cell → cell.vm.isStatics = false := fun cell hc => by
  obtain ⟨c', k, h1, -, -, h4, -⟩ := F
  cases hc.symm.trans h1
  exact h4
theorem own_plainF {Z : State} {h : Heap} {a : Addr} {C n d : String} {v : Value} (F : Fld Z h a C n d v) : ∀ cell : Cell, h[a]? = some cell → cell.vm.isStatics = false := old_plain F
theorem own_plainV {Z : State} {h : Heap} {a : Addr} {k : ClassId} {ty : FieldType} {z : Int32} {vs : List Value} {dv : Value} (F : Arv Z h a k ty z vs dv) : ∀ cell : Cell, h[a]? = some cell → cell.vm.isStatics = false := fun cell hc => by
  obtain ⟨c', A, -⟩ := F
  cases hc.symm.trans A.1
  exact A.plain
theorem own_selpriv {args : Array Value} {s : State} {C : String} {y : MethodName} (h : (Jvm.Cond.selects C y y).before args s = true) (hp : s.PrivateAt y) (hi : (Jvm.Cond.instanceMethod y).before args s = true) (hy : y.cls ≠ "java/lang/invoke/MethodHandle" ∧ y.cls ≠ "java/lang/invoke/VarHandle") : (Jvm.Cond.selects y.cls y y).before args s = true := by
  obtain ⟨c, r, m, -, -, q3, -, k, q4, q5⟩ := Cond.selects_spec h
  exact selects_self_of_private (findClass_of_methodNamed q3) q4 q5 hp hi hy
theorem own_same {args : Array Value} {s : State} {C : String} {x y z : MethodName} (h : (Jvm.Cond.selects C x z).before args s = true) (hc : z.cls = y.cls) (hi : (Jvm.Cond.instanceMethod y).before args s = true) (hy : y.cls ≠ "java/lang/invoke/MethodHandle" ∧ y.cls ≠ "java/lang/invoke/VarHandle") : (Jvm.Cond.sameMethod y.cls y.cls y.name y.desc).before args s = true := by
  obtain ⟨c, r, m, -, -, q3, -, k, q4, q5⟩ := Cond.selects_spec h
  obtain ⟨mk, methM, hnamed, -, -, -⟩ := Cond.instanceMethod_spec hi
  have hfound : s.methodFound? y.cls y.name y.desc = some mk := State.methodFound?_of_named hnamed hy
  have e1 := findClass_of_methodNamed hnamed
  have e2 := findClass_of_methodNamed q3
  rw [hc] at e2
  have e3 : m.cls = mk.cls := Option.some.inj (e2.symm.trans e1)
  rw [e3] at q4
  have hn' : s.methodNamed? ⟨y.cls, y.name, y.desc⟩ = some mk := hnamed
  simp [Cond.before, Cond.holds, Cond.value, e1, hfound, hn', q4, q5]
theorem own_nf {args : Array Value} {s : State} {C : String} {x y z : MethodName} (h : (Jvm.Cond.selects C x z).before args s = true) (hc : z.cls = y.cls) : NotFace s y := fun r0 h0 => by
  obtain ⟨c, r, m, -, -, q3, -, k, q4, q5⟩ := Cond.selects_spec h
  have e1 := findClass_of_methodNamed h0
  have e2 := findClass_of_methodNamed q3
  rw [hc] at e2
  have e3 : m.cls = r0.cls := Option.some.inj (e2.symm.trans e1)
  rw [e3] at q4
  exact ⟨k, q4, q5⟩
theorem own_short (x : Int32) : x.toInt16.toInt32 < (2147483647 : Int32) := by
  have h := c_i2s x
  rw [Int32.lt_iff_toInt_lt]
  have e : (2147483647 : Int32).toInt = 2147483647 := rfl
  omega
theorem d1_0 : decode method_2_code 0 = .ok (.iload_n 0, 1) := by decide +kernel
theorem d1_1 : decode method_2_code 1 = .ok (.ifCond .ne 7, 3) := by decide +kernel
theorem d1_4 : decode method_2_code 4 = .ok (.getstatic 7, 3) := by decide +kernel
theorem d1_7 : decode method_2_code 7 = .ok (.areturn, 1) := by decide +kernel
theorem pn_com_example_liveness_liveness_protocol_ApiIsFlexiblePinLaw : plainName "com/example/liveness/liveness/protocol/ApiIsFlexiblePinLaw" = true := by first | (simp [plainName, overriddenIn]; done) | decide +kernel
theorem ef_1 (m : MethodId) (x0 : Int32) : entryFrame m #[(.int x0)] 1 = mkF m 0 #[.val (.int x0)] [] := by first | (simp [entryFrame, mkF, argsToLocals, Value.category]; done) | rfl
def Q1_0 (Z : State) (p0 : Int32) (w_FETCH : Addr) (h0 : Heap) (n0 : Nat) (v : Option Value) (h : Heap) (L : List Loc) : Prop := v = some (.ref w_FETCH) ∧ Fr n0 L ∧ h = h0
set_option maxRecDepth 65536 in
set_option maxHeartbeats 40000000 in
theorem rm1_0 (l : Launch) (Z : State) (a0 : Array Value) (hw : ∀ d ∈ tables_1, d.before a0 Z = true) (ws : List Jvm.Cond) (p0 : Int32) (w_FETCH : Addr) (h0 : Heap) (n0 : Nat) (Z0 : n0 ≤ h0.size) (hc1 : p0 = (0 : Int32)) (S_FETCH : Sta Z h0 "com/example/liveness/liveness/protocol/Api" "FETCH" "Lcom/example/liveness/liveness/protocol/Api;" (.ref w_FETCH)) :
    MetFree l (⟨"com/example/liveness/liveness/protocol/ApiIsFlexiblePinLaw", "pick", "(I)Lcom/example/liveness/liveness/protocol/Api;"⟩ : MethodName) (head1 (Jvm.Cond.code (⟨"com/example/liveness/liveness/protocol/ApiIsFlexiblePinLaw", "pick", "(I)Lcom/example/liveness/liveness/protocol/Api;"⟩ : MethodName) method_2_code 1 (some (.object "com/example/liveness/liveness/protocol/Api")) :: ws) ({ frames := 0, cells := 0, slots := 0, locals := 0 } : Room)) (fun a U => a = #[(.int p0)] ∧ Z.Warmed39 U.vm ∧ U.heap = h0) (fun _ _ _ _ _ => True) (fun _ U o U' => ∃ v L, o = .returned v ∧ Q1_0 Z p0 w_FETCH h0 n0 v U'.heap L ∧ FrameEnd U o U' L ({ frames := 0, cells := 0, slots := 0, locals := 0 } : Room).cells ({ frames := 0, cells := 0, slots := 0, locals := 0 } : Room).slots) := by
  refine MetFree.of_bodySF (plainFor_of_name pn_com_example_liveness_liveness_protocol_ApiIsFlexiblePinLaw) hisR ?_
  intro p e s m args below meth c s₁ Bd hml0 hP hK
  obtain ⟨rfl, hZ, hh⟩ := hP
  have hx := Bd.exec
  have hby := Bd.bytes
  have hml : c.maxLocals = 1 := hml0
  have hown : s.vm.findClass "com/example/liveness/liveness/protocol/ApiIsFlexiblePinLaw" = some m.cls := findClass_of_methodNamed Bd.named
  have hnm := (name_of_methodNamed Bd.named Bd.method).1
  have X0 : Stand p l e ({ frames := 0, cells := 0, slots := 0, locals := 0 } : Room) s m #[(.int p0)] below meth c s₁ [] 0 0 := Stand.of_body Bd
  have e0 : s₁.heap = h0 := by rw [← hh, Bd.state]; rfl
  have N0 := Fr.nil n0
  show Go p e below (fun o U' => ∃ v L, o = .returned v ∧ Q1_0 Z p0 w_FETCH h0 n0 v U'.heap L ∧ FrameEnd s o U' L ({ frames := 0, cells := 0, slots := 0, locals := 0 } : Room).cells ({ frames := 0, cells := 0, slots := 0, locals := 0 } : Room).slots) (s₁.setTop (entryFrame m #[(.int p0)] 1))
  refine Go.of (fun _ k => castTop (ef_1 m p0) k) ?_
  show Go p e below _ (s₁.setTop (mkF m 0 #[.val (.int p0)] []))
  refine Go.of (fun _ k => XS.iloadN X0.here hx rfl (hb hby d1_0) rfl  k) ?_
  show Go p e below _ (s₁.setTop (mkF m 1 #[.val (.int p0)] [(.int p0)]))
  refine Go.of (fun _ k => XS.ifNo X0.here hx rfl (hb hby d1_1) rfl ((if0 _ _).trans (teq hc1).2) k) ?_
  show Go p e below _ (s₁.setTop (mkF m 4 #[.val (.int p0)] []))
  obtain ⟨T1, X1, e1, st1⟩ := getS2 X0 hx hZ hown (host := "") (Or.inl (hw _ (List.mem_of_getElem? (i := 5) rfl))) Via.refl e0 S_FETCH (g := (mkF m 4 #[.val (.int p0)] [])) rfl (hb hby d1_4)
  refine Go.of st1 ?_
  show Go p e below _ (T1.setTop (mkF m 7 #[.val (.int p0)] [(.ref w_FETCH)]))
  obtain ⟨fs, hr, hrun, hended, hW, hsame⟩ := X1.leave (v := some (.ref w_FETCH)) (fun h => by rw [Bd.returns] at h; cases h)
  refine Go.mk _ _ ?_ hrun hended ⟨_, _, rfl, ?_, ⟨_, rfl⟩, hW, hsame.mono (by decide) (by decide)⟩
  · exact retOut X1 hx Bd.returns rfl (Or.inr (Or.inr (Or.inr (Or.inr ⟨rfl, rfl, rfl⟩)))) (hb hby d1_7) hr
  · show Q1_0 Z p0 w_FETCH h0 n0 _ T1.heap _
    rw [e1]
    exact ⟨rfl, N0, rfl⟩
theorem d1_8 : decode method_2_code 8 = .ok (.iload_n 0, 1) := by decide +kernel
theorem d1_9 : decode method_2_code 9 = .ok (.iconst 1, 1) := by decide +kernel
theorem d1_10 : decode method_2_code 10 = .ok (.if_icmp .ne 7, 3) := by decide +kernel
theorem d1_13 : decode method_2_code 13 = .ok (.getstatic 13, 3) := by decide +kernel
theorem d1_16 : decode method_2_code 16 = .ok (.areturn, 1) := by decide +kernel
def Q1_1 (Z : State) (p0 : Int32) (w_LIST_OFFSETS : Addr) (h0 : Heap) (n0 : Nat) (v : Option Value) (h : Heap) (L : List Loc) : Prop := v = some (.ref w_LIST_OFFSETS) ∧ Fr n0 L ∧ h = h0
set_option maxRecDepth 65536 in
set_option maxHeartbeats 40000000 in
theorem rm1_1 (l : Launch) (Z : State) (a0 : Array Value) (hw : ∀ d ∈ tables_1, d.before a0 Z = true) (ws : List Jvm.Cond) (p0 : Int32) (w_LIST_OFFSETS : Addr) (h0 : Heap) (n0 : Nat) (Z0 : n0 ≤ h0.size) (hc1 : ¬ (p0 = (0 : Int32))) (hc10 : p0 = (1 : Int32)) (S_LIST_OFFSETS : Sta Z h0 "com/example/liveness/liveness/protocol/Api" "LIST_OFFSETS" "Lcom/example/liveness/liveness/protocol/Api;" (.ref w_LIST_OFFSETS)) :
    MetFree l (⟨"com/example/liveness/liveness/protocol/ApiIsFlexiblePinLaw", "pick", "(I)Lcom/example/liveness/liveness/protocol/Api;"⟩ : MethodName) (head1 (Jvm.Cond.code (⟨"com/example/liveness/liveness/protocol/ApiIsFlexiblePinLaw", "pick", "(I)Lcom/example/liveness/liveness/protocol/Api;"⟩ : MethodName) method_2_code 1 (some (.object "com/example/liveness/liveness/protocol/Api")) :: ws) ({ frames := 0, cells := 0, slots := 0, locals := 0 } : Room)) (fun a U => a = #[(.int p0)] ∧ Z.Warmed39 U.vm ∧ U.heap = h0) (fun _ _ _ _ _ => True) (fun _ U o U' => ∃ v L, o = .returned v ∧ Q1_1 Z p0 w_LIST_OFFSETS h0 n0 v U'.heap L ∧ FrameEnd U o U' L ({ frames := 0, cells := 0, slots := 0, locals := 0 } : Room).cells ({ frames := 0, cells := 0, slots := 0, locals := 0 } : Room).slots) := by
  refine MetFree.of_bodySF (plainFor_of_name pn_com_example_liveness_liveness_protocol_ApiIsFlexiblePinLaw) hisR ?_
  intro p e s m args below meth c s₁ Bd hml0 hP hK
  obtain ⟨rfl, hZ, hh⟩ := hP
  have hx := Bd.exec
  have hby := Bd.bytes
  have hml : c.maxLocals = 1 := hml0
  have hown : s.vm.findClass "com/example/liveness/liveness/protocol/ApiIsFlexiblePinLaw" = some m.cls := findClass_of_methodNamed Bd.named
  have hnm := (name_of_methodNamed Bd.named Bd.method).1
  have X0 : Stand p l e ({ frames := 0, cells := 0, slots := 0, locals := 0 } : Room) s m #[(.int p0)] below meth c s₁ [] 0 0 := Stand.of_body Bd
  have e0 : s₁.heap = h0 := by rw [← hh, Bd.state]; rfl
  have N0 := Fr.nil n0
  show Go p e below (fun o U' => ∃ v L, o = .returned v ∧ Q1_1 Z p0 w_LIST_OFFSETS h0 n0 v U'.heap L ∧ FrameEnd s o U' L ({ frames := 0, cells := 0, slots := 0, locals := 0 } : Room).cells ({ frames := 0, cells := 0, slots := 0, locals := 0 } : Room).slots) (s₁.setTop (entryFrame m #[(.int p0)] 1))
  refine Go.of (fun _ k => castTop (ef_1 m p0) k) ?_
  show Go p e below _ (s₁.setTop (mkF m 0 #[.val (.int p0)] []))
  refine Go.of (fun _ k => XS.iloadN X0.here hx rfl (hb hby d1_0) rfl  k) ?_
  show Go p e below _ (s₁.setTop (mkF m 1 #[.val (.int p0)] [(.int p0)]))
  refine Go.of (fun _ k => XS.ifYes X0.here hx rfl (pc0 := 1) (pc' := 8) rfl (hb hby d1_1) rfl ((if0 _ _).trans (feq hc1).2) (by decide) (by decide) k) ?_
  show Go p e below _ (s₁.setTop (mkF m 8 #[.val (.int p0)] []))
  refine Go.of (fun _ k => XS.iloadN X0.here hx rfl (hb hby d1_8) rfl  k) ?_
  show Go p e below _ (s₁.setTop (mkF m 9 #[.val (.int p0)] [(.int p0)]))
  refine Go.of (fun _ k => XS.iconst X0.here hx rfl (hb hby d1_9) k) ?_
  show Go p e below _ (s₁.setTop (mkF m 10 #[.val (.int p0)] [(.int (1 : Int32)), (.int p0)]))
  refine Go.of (fun _ k => XS.icmpNo X0.here hx rfl (hb hby d1_10) rfl (teq hc10).2 k) ?_
  show Go p e below _ (s₁.setTop (mkF m 13 #[.val (.int p0)] []))
  obtain ⟨T1, X1, e1, st1⟩ := getS2 X0 hx hZ hown (host := "") (Or.inl (hw _ (List.mem_of_getElem? (i := 33) rfl))) Via.refl e0 S_LIST_OFFSETS (g := (mkF m 13 #[.val (.int p0)] [])) rfl (hb hby d1_13)
  refine Go.of st1 ?_
  show Go p e below _ (T1.setTop (mkF m 16 #[.val (.int p0)] [(.ref w_LIST_OFFSETS)]))
  obtain ⟨fs, hr, hrun, hended, hW, hsame⟩ := X1.leave (v := some (.ref w_LIST_OFFSETS)) (fun h => by rw [Bd.returns] at h; cases h)
  refine Go.mk _ _ ?_ hrun hended ⟨_, _, rfl, ?_, ⟨_, rfl⟩, hW, hsame.mono (by decide) (by decide)⟩
  · exact retOut X1 hx Bd.returns rfl (Or.inr (Or.inr (Or.inr (Or.inr ⟨rfl, rfl, rfl⟩)))) (hb hby d1_16) hr
  · show Q1_1 Z p0 w_LIST_OFFSETS h0 n0 _ T1.heap _
    rw [e1]
    exact ⟨rfl, N0, rfl⟩
theorem d1_17 : decode method_2_code 17 = .ok (.iload_n 0, 1) := by decide +kernel
theorem d1_18 : decode method_2_code 18 = .ok (.iconst 2, 1) := by decide +kernel
theorem d1_19 : decode method_2_code 19 = .ok (.if_icmp .ne 7, 3) := by decide +kernel
theorem d1_22 : decode method_2_code 22 = .ok (.getstatic 16, 3) := by decide +kernel
theorem d1_25 : decode method_2_code 25 = .ok (.areturn, 1) := by decide +kernel
def Q1_2 (Z : State) (p0 : Int32) (w_METADATA : Addr) (h0 : Heap) (n0 : Nat) (v : Option Value) (h : Heap) (L : List Loc) : Prop := v = some (.ref w_METADATA) ∧ Fr n0 L ∧ h = h0
set_option maxRecDepth 65536 in
set_option maxHeartbeats 40000000 in
theorem rm1_2 (l : Launch) (Z : State) (a0 : Array Value) (hw : ∀ d ∈ tables_1, d.before a0 Z = true) (ws : List Jvm.Cond) (p0 : Int32) (w_METADATA : Addr) (h0 : Heap) (n0 : Nat) (Z0 : n0 ≤ h0.size) (hc1 : ¬ (p0 = (0 : Int32))) (hc10 : ¬ (p0 = (1 : Int32))) (hc19 : p0 = (2 : Int32)) (S_METADATA : Sta Z h0 "com/example/liveness/liveness/protocol/Api" "METADATA" "Lcom/example/liveness/liveness/protocol/Api;" (.ref w_METADATA)) :
    MetFree l (⟨"com/example/liveness/liveness/protocol/ApiIsFlexiblePinLaw", "pick", "(I)Lcom/example/liveness/liveness/protocol/Api;"⟩ : MethodName) (head1 (Jvm.Cond.code (⟨"com/example/liveness/liveness/protocol/ApiIsFlexiblePinLaw", "pick", "(I)Lcom/example/liveness/liveness/protocol/Api;"⟩ : MethodName) method_2_code 1 (some (.object "com/example/liveness/liveness/protocol/Api")) :: ws) ({ frames := 0, cells := 0, slots := 0, locals := 0 } : Room)) (fun a U => a = #[(.int p0)] ∧ Z.Warmed39 U.vm ∧ U.heap = h0) (fun _ _ _ _ _ => True) (fun _ U o U' => ∃ v L, o = .returned v ∧ Q1_2 Z p0 w_METADATA h0 n0 v U'.heap L ∧ FrameEnd U o U' L ({ frames := 0, cells := 0, slots := 0, locals := 0 } : Room).cells ({ frames := 0, cells := 0, slots := 0, locals := 0 } : Room).slots) := by
  refine MetFree.of_bodySF (plainFor_of_name pn_com_example_liveness_liveness_protocol_ApiIsFlexiblePinLaw) hisR ?_
  intro p e s m args below meth c s₁ Bd hml0 hP hK
  obtain ⟨rfl, hZ, hh⟩ := hP
  have hx := Bd.exec
  have hby := Bd.bytes
  have hml : c.maxLocals = 1 := hml0
  have hown : s.vm.findClass "com/example/liveness/liveness/protocol/ApiIsFlexiblePinLaw" = some m.cls := findClass_of_methodNamed Bd.named
  have hnm := (name_of_methodNamed Bd.named Bd.method).1
  have X0 : Stand p l e ({ frames := 0, cells := 0, slots := 0, locals := 0 } : Room) s m #[(.int p0)] below meth c s₁ [] 0 0 := Stand.of_body Bd
  have e0 : s₁.heap = h0 := by rw [← hh, Bd.state]; rfl
  have N0 := Fr.nil n0
  show Go p e below (fun o U' => ∃ v L, o = .returned v ∧ Q1_2 Z p0 w_METADATA h0 n0 v U'.heap L ∧ FrameEnd s o U' L ({ frames := 0, cells := 0, slots := 0, locals := 0 } : Room).cells ({ frames := 0, cells := 0, slots := 0, locals := 0 } : Room).slots) (s₁.setTop (entryFrame m #[(.int p0)] 1))
  refine Go.of (fun _ k => castTop (ef_1 m p0) k) ?_
  show Go p e below _ (s₁.setTop (mkF m 0 #[.val (.int p0)] []))
  refine Go.of (fun _ k => XS.iloadN X0.here hx rfl (hb hby d1_0) rfl  k) ?_
  show Go p e below _ (s₁.setTop (mkF m 1 #[.val (.int p0)] [(.int p0)]))
  refine Go.of (fun _ k => XS.ifYes X0.here hx rfl (pc0 := 1) (pc' := 8) rfl (hb hby d1_1) rfl ((if0 _ _).trans (feq hc1).2) (by decide) (by decide) k) ?_
  show Go p e below _ (s₁.setTop (mkF m 8 #[.val (.int p0)] []))
  refine Go.of (fun _ k => XS.iloadN X0.here hx rfl (hb hby d1_8) rfl  k) ?_
  show Go p e below _ (s₁.setTop (mkF m 9 #[.val (.int p0)] [(.int p0)]))
  refine Go.of (fun _ k => XS.iconst X0.here hx rfl (hb hby d1_9) k) ?_
  show Go p e below _ (s₁.setTop (mkF m 10 #[.val (.int p0)] [(.int (1 : Int32)), (.int p0)]))
  refine Go.of (fun _ k => XS.icmpYes X0.here hx rfl (pc0 := 10) (pc' := 17) rfl (hb hby d1_10) rfl (feq hc10).2 (by decide) (by decide) k) ?_
  show Go p e below _ (s₁.setTop (mkF m 17 #[.val (.int p0)] []))
  refine Go.of (fun _ k => XS.iloadN X0.here hx rfl (hb hby d1_17) rfl  k) ?_
  show Go p e below _ (s₁.setTop (mkF m 18 #[.val (.int p0)] [(.int p0)]))
  refine Go.of (fun _ k => XS.iconst X0.here hx rfl (hb hby d1_18) k) ?_
  show Go p e below _ (s₁.setTop (mkF m 19 #[.val (.int p0)] [(.int (2 : Int32)), (.int p0)]))
  refine Go.of (fun _ k => XS.icmpNo X0.here hx rfl (hb hby d1_19) rfl (teq hc19).2 k) ?_
  show Go p e below _ (s₁.setTop (mkF m 22 #[.val (.int p0)] []))
  obtain ⟨T1, X1, e1, st1⟩ := getS2 X0 hx hZ hown (host := "") (Or.inl (hw _ (List.mem_of_getElem? (i := 35) rfl))) Via.refl e0 S_METADATA (g := (mkF m 22 #[.val (.int p0)] [])) rfl (hb hby d1_22)
  refine Go.of st1 ?_
  show Go p e below _ (T1.setTop (mkF m 25 #[.val (.int p0)] [(.ref w_METADATA)]))
  obtain ⟨fs, hr, hrun, hended, hW, hsame⟩ := X1.leave (v := some (.ref w_METADATA)) (fun h => by rw [Bd.returns] at h; cases h)
  refine Go.mk _ _ ?_ hrun hended ⟨_, _, rfl, ?_, ⟨_, rfl⟩, hW, hsame.mono (by decide) (by decide)⟩
  · exact retOut X1 hx Bd.returns rfl (Or.inr (Or.inr (Or.inr (Or.inr ⟨rfl, rfl, rfl⟩)))) (hb hby d1_25) hr
  · show Q1_2 Z p0 w_METADATA h0 n0 _ T1.heap _
    rw [e1]
    exact ⟨rfl, N0, rfl⟩
theorem d1_26 : decode method_2_code 26 = .ok (.iload_n 0, 1) := by decide +kernel
theorem d1_27 : decode method_2_code 27 = .ok (.iconst 3, 1) := by decide +kernel
theorem d1_28 : decode method_2_code 28 = .ok (.if_icmp .ne 7, 3) := by decide +kernel
theorem d1_31 : decode method_2_code 31 = .ok (.getstatic 19, 3) := by decide +kernel
theorem d1_34 : decode method_2_code 34 = .ok (.areturn, 1) := by decide +kernel
def Q1_3 (Z : State) (p0 : Int32) (w_OFFSET_COMMIT : Addr) (h0 : Heap) (n0 : Nat) (v : Option Value) (h : Heap) (L : List Loc) : Prop := v = some (.ref w_OFFSET_COMMIT) ∧ Fr n0 L ∧ h = h0
set_option maxRecDepth 65536 in
set_option maxHeartbeats 40000000 in
theorem rm1_3 (l : Launch) (Z : State) (a0 : Array Value) (hw : ∀ d ∈ tables_1, d.before a0 Z = true) (ws : List Jvm.Cond) (p0 : Int32) (w_OFFSET_COMMIT : Addr) (h0 : Heap) (n0 : Nat) (Z0 : n0 ≤ h0.size) (hc1 : ¬ (p0 = (0 : Int32))) (hc10 : ¬ (p0 = (1 : Int32))) (hc19 : ¬ (p0 = (2 : Int32))) (hc28 : p0 = (3 : Int32)) (S_OFFSET_COMMIT : Sta Z h0 "com/example/liveness/liveness/protocol/Api" "OFFSET_COMMIT" "Lcom/example/liveness/liveness/protocol/Api;" (.ref w_OFFSET_COMMIT)) :
    MetFree l (⟨"com/example/liveness/liveness/protocol/ApiIsFlexiblePinLaw", "pick", "(I)Lcom/example/liveness/liveness/protocol/Api;"⟩ : MethodName) (head1 (Jvm.Cond.code (⟨"com/example/liveness/liveness/protocol/ApiIsFlexiblePinLaw", "pick", "(I)Lcom/example/liveness/liveness/protocol/Api;"⟩ : MethodName) method_2_code 1 (some (.object "com/example/liveness/liveness/protocol/Api")) :: ws) ({ frames := 0, cells := 0, slots := 0, locals := 0 } : Room)) (fun a U => a = #[(.int p0)] ∧ Z.Warmed39 U.vm ∧ U.heap = h0) (fun _ _ _ _ _ => True) (fun _ U o U' => ∃ v L, o = .returned v ∧ Q1_3 Z p0 w_OFFSET_COMMIT h0 n0 v U'.heap L ∧ FrameEnd U o U' L ({ frames := 0, cells := 0, slots := 0, locals := 0 } : Room).cells ({ frames := 0, cells := 0, slots := 0, locals := 0 } : Room).slots) := by
  refine MetFree.of_bodySF (plainFor_of_name pn_com_example_liveness_liveness_protocol_ApiIsFlexiblePinLaw) hisR ?_
  intro p e s m args below meth c s₁ Bd hml0 hP hK
  obtain ⟨rfl, hZ, hh⟩ := hP
  have hx := Bd.exec
  have hby := Bd.bytes
  have hml : c.maxLocals = 1 := hml0
  have hown : s.vm.findClass "com/example/liveness/liveness/protocol/ApiIsFlexiblePinLaw" = some m.cls := findClass_of_methodNamed Bd.named
  have hnm := (name_of_methodNamed Bd.named Bd.method).1
  have X0 : Stand p l e ({ frames := 0, cells := 0, slots := 0, locals := 0 } : Room) s m #[(.int p0)] below meth c s₁ [] 0 0 := Stand.of_body Bd
  have e0 : s₁.heap = h0 := by rw [← hh, Bd.state]; rfl
  have N0 := Fr.nil n0
  show Go p e below (fun o U' => ∃ v L, o = .returned v ∧ Q1_3 Z p0 w_OFFSET_COMMIT h0 n0 v U'.heap L ∧ FrameEnd s o U' L ({ frames := 0, cells := 0, slots := 0, locals := 0 } : Room).cells ({ frames := 0, cells := 0, slots := 0, locals := 0 } : Room).slots) (s₁.setTop (entryFrame m #[(.int p0)] 1))
  refine Go.of (fun _ k => castTop (ef_1 m p0) k) ?_
  show Go p e below _ (s₁.setTop (mkF m 0 #[.val (.int p0)] []))
  refine Go.of (fun _ k => XS.iloadN X0.here hx rfl (hb hby d1_0) rfl  k) ?_
  show Go p e below _ (s₁.setTop (mkF m 1 #[.val (.int p0)] [(.int p0)]))
  refine Go.of (fun _ k => XS.ifYes X0.here hx rfl (pc0 := 1) (pc' := 8) rfl (hb hby d1_1) rfl ((if0 _ _).trans (feq hc1).2) (by decide) (by decide) k) ?_
  show Go p e below _ (s₁.setTop (mkF m 8 #[.val (.int p0)] []))
  refine Go.of (fun _ k => XS.iloadN X0.here hx rfl (hb hby d1_8) rfl  k) ?_
  show Go p e below _ (s₁.setTop (mkF m 9 #[.val (.int p0)] [(.int p0)]))
  refine Go.of (fun _ k => XS.iconst X0.here hx rfl (hb hby d1_9) k) ?_
  show Go p e below _ (s₁.setTop (mkF m 10 #[.val (.int p0)] [(.int (1 : Int32)), (.int p0)]))
  refine Go.of (fun _ k => XS.icmpYes X0.here hx rfl (pc0 := 10) (pc' := 17) rfl (hb hby d1_10) rfl (feq hc10).2 (by decide) (by decide) k) ?_
  show Go p e below _ (s₁.setTop (mkF m 17 #[.val (.int p0)] []))
  refine Go.of (fun _ k => XS.iloadN X0.here hx rfl (hb hby d1_17) rfl  k) ?_
  show Go p e below _ (s₁.setTop (mkF m 18 #[.val (.int p0)] [(.int p0)]))
  refine Go.of (fun _ k => XS.iconst X0.here hx rfl (hb hby d1_18) k) ?_
  show Go p e below _ (s₁.setTop (mkF m 19 #[.val (.int p0)] [(.int (2 : Int32)), (.int p0)]))
  refine Go.of (fun _ k => XS.icmpYes X0.here hx rfl (pc0 := 19) (pc' := 26) rfl (hb hby d1_19) rfl (feq hc19).2 (by decide) (by decide) k) ?_
  show Go p e below _ (s₁.setTop (mkF m 26 #[.val (.int p0)] []))
  refine Go.of (fun _ k => XS.iloadN X0.here hx rfl (hb hby d1_26) rfl  k) ?_
  show Go p e below _ (s₁.setTop (mkF m 27 #[.val (.int p0)] [(.int p0)]))
  refine Go.of (fun _ k => XS.iconst X0.here hx rfl (hb hby d1_27) k) ?_
  show Go p e below _ (s₁.setTop (mkF m 28 #[.val (.int p0)] [(.int (3 : Int32)), (.int p0)]))
  refine Go.of (fun _ k => XS.icmpNo X0.here hx rfl (hb hby d1_28) rfl (teq hc28).2 k) ?_
  show Go p e below _ (s₁.setTop (mkF m 31 #[.val (.int p0)] []))
  obtain ⟨T1, X1, e1, st1⟩ := getS2 X0 hx hZ hown (host := "") (Or.inl (hw _ (List.mem_of_getElem? (i := 29) rfl))) Via.refl e0 S_OFFSET_COMMIT (g := (mkF m 31 #[.val (.int p0)] [])) rfl (hb hby d1_31)
  refine Go.of st1 ?_
  show Go p e below _ (T1.setTop (mkF m 34 #[.val (.int p0)] [(.ref w_OFFSET_COMMIT)]))
  obtain ⟨fs, hr, hrun, hended, hW, hsame⟩ := X1.leave (v := some (.ref w_OFFSET_COMMIT)) (fun h => by rw [Bd.returns] at h; cases h)
  refine Go.mk _ _ ?_ hrun hended ⟨_, _, rfl, ?_, ⟨_, rfl⟩, hW, hsame.mono (by decide) (by decide)⟩
  · exact retOut X1 hx Bd.returns rfl (Or.inr (Or.inr (Or.inr (Or.inr ⟨rfl, rfl, rfl⟩)))) (hb hby d1_34) hr
  · show Q1_3 Z p0 w_OFFSET_COMMIT h0 n0 _ T1.heap _
    rw [e1]
    exact ⟨rfl, N0, rfl⟩
theorem d1_35 : decode method_2_code 35 = .ok (.iload_n 0, 1) := by decide +kernel
theorem d1_36 : decode method_2_code 36 = .ok (.iconst 4, 1) := by decide +kernel
theorem d1_37 : decode method_2_code 37 = .ok (.if_icmp .ne 7, 3) := by decide +kernel
theorem d1_40 : decode method_2_code 40 = .ok (.getstatic 22, 3) := by decide +kernel
theorem d1_43 : decode method_2_code 43 = .ok (.areturn, 1) := by decide +kernel
def Q1_4 (Z : State) (p0 : Int32) (w_OFFSET_FETCH : Addr) (h0 : Heap) (n0 : Nat) (v : Option Value) (h : Heap) (L : List Loc) : Prop := v = some (.ref w_OFFSET_FETCH) ∧ Fr n0 L ∧ h = h0
set_option maxRecDepth 65536 in
set_option maxHeartbeats 40000000 in
theorem rm1_4 (l : Launch) (Z : State) (a0 : Array Value) (hw : ∀ d ∈ tables_1, d.before a0 Z = true) (ws : List Jvm.Cond) (p0 : Int32) (w_OFFSET_FETCH : Addr) (h0 : Heap) (n0 : Nat) (Z0 : n0 ≤ h0.size) (hc1 : ¬ (p0 = (0 : Int32))) (hc10 : ¬ (p0 = (1 : Int32))) (hc19 : ¬ (p0 = (2 : Int32))) (hc28 : ¬ (p0 = (3 : Int32))) (hc37 : p0 = (4 : Int32)) (S_OFFSET_FETCH : Sta Z h0 "com/example/liveness/liveness/protocol/Api" "OFFSET_FETCH" "Lcom/example/liveness/liveness/protocol/Api;" (.ref w_OFFSET_FETCH)) :
    MetFree l (⟨"com/example/liveness/liveness/protocol/ApiIsFlexiblePinLaw", "pick", "(I)Lcom/example/liveness/liveness/protocol/Api;"⟩ : MethodName) (head1 (Jvm.Cond.code (⟨"com/example/liveness/liveness/protocol/ApiIsFlexiblePinLaw", "pick", "(I)Lcom/example/liveness/liveness/protocol/Api;"⟩ : MethodName) method_2_code 1 (some (.object "com/example/liveness/liveness/protocol/Api")) :: ws) ({ frames := 0, cells := 0, slots := 0, locals := 0 } : Room)) (fun a U => a = #[(.int p0)] ∧ Z.Warmed39 U.vm ∧ U.heap = h0) (fun _ _ _ _ _ => True) (fun _ U o U' => ∃ v L, o = .returned v ∧ Q1_4 Z p0 w_OFFSET_FETCH h0 n0 v U'.heap L ∧ FrameEnd U o U' L ({ frames := 0, cells := 0, slots := 0, locals := 0 } : Room).cells ({ frames := 0, cells := 0, slots := 0, locals := 0 } : Room).slots) := by
  refine MetFree.of_bodySF (plainFor_of_name pn_com_example_liveness_liveness_protocol_ApiIsFlexiblePinLaw) hisR ?_
  intro p e s m args below meth c s₁ Bd hml0 hP hK
  obtain ⟨rfl, hZ, hh⟩ := hP
  have hx := Bd.exec
  have hby := Bd.bytes
  have hml : c.maxLocals = 1 := hml0
  have hown : s.vm.findClass "com/example/liveness/liveness/protocol/ApiIsFlexiblePinLaw" = some m.cls := findClass_of_methodNamed Bd.named
  have hnm := (name_of_methodNamed Bd.named Bd.method).1
  have X0 : Stand p l e ({ frames := 0, cells := 0, slots := 0, locals := 0 } : Room) s m #[(.int p0)] below meth c s₁ [] 0 0 := Stand.of_body Bd
  have e0 : s₁.heap = h0 := by rw [← hh, Bd.state]; rfl
  have N0 := Fr.nil n0
  show Go p e below (fun o U' => ∃ v L, o = .returned v ∧ Q1_4 Z p0 w_OFFSET_FETCH h0 n0 v U'.heap L ∧ FrameEnd s o U' L ({ frames := 0, cells := 0, slots := 0, locals := 0 } : Room).cells ({ frames := 0, cells := 0, slots := 0, locals := 0 } : Room).slots) (s₁.setTop (entryFrame m #[(.int p0)] 1))
  refine Go.of (fun _ k => castTop (ef_1 m p0) k) ?_
  show Go p e below _ (s₁.setTop (mkF m 0 #[.val (.int p0)] []))
  refine Go.of (fun _ k => XS.iloadN X0.here hx rfl (hb hby d1_0) rfl  k) ?_
  show Go p e below _ (s₁.setTop (mkF m 1 #[.val (.int p0)] [(.int p0)]))
  refine Go.of (fun _ k => XS.ifYes X0.here hx rfl (pc0 := 1) (pc' := 8) rfl (hb hby d1_1) rfl ((if0 _ _).trans (feq hc1).2) (by decide) (by decide) k) ?_
  show Go p e below _ (s₁.setTop (mkF m 8 #[.val (.int p0)] []))
  refine Go.of (fun _ k => XS.iloadN X0.here hx rfl (hb hby d1_8) rfl  k) ?_
  show Go p e below _ (s₁.setTop (mkF m 9 #[.val (.int p0)] [(.int p0)]))
  refine Go.of (fun _ k => XS.iconst X0.here hx rfl (hb hby d1_9) k) ?_
  show Go p e below _ (s₁.setTop (mkF m 10 #[.val (.int p0)] [(.int (1 : Int32)), (.int p0)]))
  refine Go.of (fun _ k => XS.icmpYes X0.here hx rfl (pc0 := 10) (pc' := 17) rfl (hb hby d1_10) rfl (feq hc10).2 (by decide) (by decide) k) ?_
  show Go p e below _ (s₁.setTop (mkF m 17 #[.val (.int p0)] []))
  refine Go.of (fun _ k => XS.iloadN X0.here hx rfl (hb hby d1_17) rfl  k) ?_
  show Go p e below _ (s₁.setTop (mkF m 18 #[.val (.int p0)] [(.int p0)]))
  refine Go.of (fun _ k => XS.iconst X0.here hx rfl (hb hby d1_18) k) ?_
  show Go p e below _ (s₁.setTop (mkF m 19 #[.val (.int p0)] [(.int (2 : Int32)), (.int p0)]))
  refine Go.of (fun _ k => XS.icmpYes X0.here hx rfl (pc0 := 19) (pc' := 26) rfl (hb hby d1_19) rfl (feq hc19).2 (by decide) (by decide) k) ?_
  show Go p e below _ (s₁.setTop (mkF m 26 #[.val (.int p0)] []))
  refine Go.of (fun _ k => XS.iloadN X0.here hx rfl (hb hby d1_26) rfl  k) ?_
  show Go p e below _ (s₁.setTop (mkF m 27 #[.val (.int p0)] [(.int p0)]))
  refine Go.of (fun _ k => XS.iconst X0.here hx rfl (hb hby d1_27) k) ?_
  show Go p e below _ (s₁.setTop (mkF m 28 #[.val (.int p0)] [(.int (3 : Int32)), (.int p0)]))
  refine Go.of (fun _ k => XS.icmpYes X0.here hx rfl (pc0 := 28) (pc' := 35) rfl (hb hby d1_28) rfl (feq hc28).2 (by decide) (by decide) k) ?_
  show Go p e below _ (s₁.setTop (mkF m 35 #[.val (.int p0)] []))
  refine Go.of (fun _ k => XS.iloadN X0.here hx rfl (hb hby d1_35) rfl  k) ?_
  show Go p e below _ (s₁.setTop (mkF m 36 #[.val (.int p0)] [(.int p0)]))
  refine Go.of (fun _ k => XS.iconst X0.here hx rfl (hb hby d1_36) k) ?_
  show Go p e below _ (s₁.setTop (mkF m 37 #[.val (.int p0)] [(.int (4 : Int32)), (.int p0)]))
  refine Go.of (fun _ k => XS.icmpNo X0.here hx rfl (hb hby d1_37) rfl (teq hc37).2 k) ?_
  show Go p e below _ (s₁.setTop (mkF m 40 #[.val (.int p0)] []))
  obtain ⟨T1, X1, e1, st1⟩ := getS2 X0 hx hZ hown (host := "") (Or.inl (hw _ (List.mem_of_getElem? (i := 21) rfl))) Via.refl e0 S_OFFSET_FETCH (g := (mkF m 40 #[.val (.int p0)] [])) rfl (hb hby d1_40)
  refine Go.of st1 ?_
  show Go p e below _ (T1.setTop (mkF m 43 #[.val (.int p0)] [(.ref w_OFFSET_FETCH)]))
  obtain ⟨fs, hr, hrun, hended, hW, hsame⟩ := X1.leave (v := some (.ref w_OFFSET_FETCH)) (fun h => by rw [Bd.returns] at h; cases h)
  refine Go.mk _ _ ?_ hrun hended ⟨_, _, rfl, ?_, ⟨_, rfl⟩, hW, hsame.mono (by decide) (by decide)⟩
  · exact retOut X1 hx Bd.returns rfl (Or.inr (Or.inr (Or.inr (Or.inr ⟨rfl, rfl, rfl⟩)))) (hb hby d1_43) hr
  · show Q1_4 Z p0 w_OFFSET_FETCH h0 n0 _ T1.heap _
    rw [e1]
    exact ⟨rfl, N0, rfl⟩
theorem d1_44 : decode method_2_code 44 = .ok (.iload_n 0, 1) := by decide +kernel
theorem d1_45 : decode method_2_code 45 = .ok (.iconst 5, 1) := by decide +kernel
theorem d1_46 : decode method_2_code 46 = .ok (.if_icmp .ne 7, 3) := by decide +kernel
theorem d1_49 : decode method_2_code 49 = .ok (.getstatic 25, 3) := by decide +kernel
theorem d1_52 : decode method_2_code 52 = .ok (.areturn, 1) := by decide +kernel
def Q1_5 (Z : State) (p0 : Int32) (w_FIND_COORDINATOR : Addr) (h0 : Heap) (n0 : Nat) (v : Option Value) (h : Heap) (L : List Loc) : Prop := v = some (.ref w_FIND_COORDINATOR) ∧ Fr n0 L ∧ h = h0
set_option maxRecDepth 65536 in
set_option maxHeartbeats 40000000 in
theorem rm1_5 (l : Launch) (Z : State) (a0 : Array Value) (hw : ∀ d ∈ tables_1, d.before a0 Z = true) (ws : List Jvm.Cond) (p0 : Int32) (w_FIND_COORDINATOR : Addr) (h0 : Heap) (n0 : Nat) (Z0 : n0 ≤ h0.size) (hc1 : ¬ (p0 = (0 : Int32))) (hc10 : ¬ (p0 = (1 : Int32))) (hc19 : ¬ (p0 = (2 : Int32))) (hc28 : ¬ (p0 = (3 : Int32))) (hc37 : ¬ (p0 = (4 : Int32))) (hc46 : p0 = (5 : Int32)) (S_FIND_COORDINATOR : Sta Z h0 "com/example/liveness/liveness/protocol/Api" "FIND_COORDINATOR" "Lcom/example/liveness/liveness/protocol/Api;" (.ref w_FIND_COORDINATOR)) :
    MetFree l (⟨"com/example/liveness/liveness/protocol/ApiIsFlexiblePinLaw", "pick", "(I)Lcom/example/liveness/liveness/protocol/Api;"⟩ : MethodName) (head1 (Jvm.Cond.code (⟨"com/example/liveness/liveness/protocol/ApiIsFlexiblePinLaw", "pick", "(I)Lcom/example/liveness/liveness/protocol/Api;"⟩ : MethodName) method_2_code 1 (some (.object "com/example/liveness/liveness/protocol/Api")) :: ws) ({ frames := 0, cells := 0, slots := 0, locals := 0 } : Room)) (fun a U => a = #[(.int p0)] ∧ Z.Warmed39 U.vm ∧ U.heap = h0) (fun _ _ _ _ _ => True) (fun _ U o U' => ∃ v L, o = .returned v ∧ Q1_5 Z p0 w_FIND_COORDINATOR h0 n0 v U'.heap L ∧ FrameEnd U o U' L ({ frames := 0, cells := 0, slots := 0, locals := 0 } : Room).cells ({ frames := 0, cells := 0, slots := 0, locals := 0 } : Room).slots) := by
  refine MetFree.of_bodySF (plainFor_of_name pn_com_example_liveness_liveness_protocol_ApiIsFlexiblePinLaw) hisR ?_
  intro p e s m args below meth c s₁ Bd hml0 hP hK
  obtain ⟨rfl, hZ, hh⟩ := hP
  have hx := Bd.exec
  have hby := Bd.bytes
  have hml : c.maxLocals = 1 := hml0
  have hown : s.vm.findClass "com/example/liveness/liveness/protocol/ApiIsFlexiblePinLaw" = some m.cls := findClass_of_methodNamed Bd.named
  have hnm := (name_of_methodNamed Bd.named Bd.method).1
  have X0 : Stand p l e ({ frames := 0, cells := 0, slots := 0, locals := 0 } : Room) s m #[(.int p0)] below meth c s₁ [] 0 0 := Stand.of_body Bd
  have e0 : s₁.heap = h0 := by rw [← hh, Bd.state]; rfl
  have N0 := Fr.nil n0
  show Go p e below (fun o U' => ∃ v L, o = .returned v ∧ Q1_5 Z p0 w_FIND_COORDINATOR h0 n0 v U'.heap L ∧ FrameEnd s o U' L ({ frames := 0, cells := 0, slots := 0, locals := 0 } : Room).cells ({ frames := 0, cells := 0, slots := 0, locals := 0 } : Room).slots) (s₁.setTop (entryFrame m #[(.int p0)] 1))
  refine Go.of (fun _ k => castTop (ef_1 m p0) k) ?_
  show Go p e below _ (s₁.setTop (mkF m 0 #[.val (.int p0)] []))
  refine Go.of (fun _ k => XS.iloadN X0.here hx rfl (hb hby d1_0) rfl  k) ?_
  show Go p e below _ (s₁.setTop (mkF m 1 #[.val (.int p0)] [(.int p0)]))
  refine Go.of (fun _ k => XS.ifYes X0.here hx rfl (pc0 := 1) (pc' := 8) rfl (hb hby d1_1) rfl ((if0 _ _).trans (feq hc1).2) (by decide) (by decide) k) ?_
  show Go p e below _ (s₁.setTop (mkF m 8 #[.val (.int p0)] []))
  refine Go.of (fun _ k => XS.iloadN X0.here hx rfl (hb hby d1_8) rfl  k) ?_
  show Go p e below _ (s₁.setTop (mkF m 9 #[.val (.int p0)] [(.int p0)]))
  refine Go.of (fun _ k => XS.iconst X0.here hx rfl (hb hby d1_9) k) ?_
  show Go p e below _ (s₁.setTop (mkF m 10 #[.val (.int p0)] [(.int (1 : Int32)), (.int p0)]))
  refine Go.of (fun _ k => XS.icmpYes X0.here hx rfl (pc0 := 10) (pc' := 17) rfl (hb hby d1_10) rfl (feq hc10).2 (by decide) (by decide) k) ?_
  show Go p e below _ (s₁.setTop (mkF m 17 #[.val (.int p0)] []))
  refine Go.of (fun _ k => XS.iloadN X0.here hx rfl (hb hby d1_17) rfl  k) ?_
  show Go p e below _ (s₁.setTop (mkF m 18 #[.val (.int p0)] [(.int p0)]))
  refine Go.of (fun _ k => XS.iconst X0.here hx rfl (hb hby d1_18) k) ?_
  show Go p e below _ (s₁.setTop (mkF m 19 #[.val (.int p0)] [(.int (2 : Int32)), (.int p0)]))
  refine Go.of (fun _ k => XS.icmpYes X0.here hx rfl (pc0 := 19) (pc' := 26) rfl (hb hby d1_19) rfl (feq hc19).2 (by decide) (by decide) k) ?_
  show Go p e below _ (s₁.setTop (mkF m 26 #[.val (.int p0)] []))
  refine Go.of (fun _ k => XS.iloadN X0.here hx rfl (hb hby d1_26) rfl  k) ?_
  show Go p e below _ (s₁.setTop (mkF m 27 #[.val (.int p0)] [(.int p0)]))
  refine Go.of (fun _ k => XS.iconst X0.here hx rfl (hb hby d1_27) k) ?_
  show Go p e below _ (s₁.setTop (mkF m 28 #[.val (.int p0)] [(.int (3 : Int32)), (.int p0)]))
  refine Go.of (fun _ k => XS.icmpYes X0.here hx rfl (pc0 := 28) (pc' := 35) rfl (hb hby d1_28) rfl (feq hc28).2 (by decide) (by decide) k) ?_
  show Go p e below _ (s₁.setTop (mkF m 35 #[.val (.int p0)] []))
  refine Go.of (fun _ k => XS.iloadN X0.here hx rfl (hb hby d1_35) rfl  k) ?_
  show Go p e below _ (s₁.setTop (mkF m 36 #[.val (.int p0)] [(.int p0)]))
  refine Go.of (fun _ k => XS.iconst X0.here hx rfl (hb hby d1_36) k) ?_
  show Go p e below _ (s₁.setTop (mkF m 37 #[.val (.int p0)] [(.int (4 : Int32)), (.int p0)]))
  refine Go.of (fun _ k => XS.icmpYes X0.here hx rfl (pc0 := 37) (pc' := 44) rfl (hb hby d1_37) rfl (feq hc37).2 (by decide) (by decide) k) ?_
  show Go p e below _ (s₁.setTop (mkF m 44 #[.val (.int p0)] []))
  refine Go.of (fun _ k => XS.iloadN X0.here hx rfl (hb hby d1_44) rfl  k) ?_
  show Go p e below _ (s₁.setTop (mkF m 45 #[.val (.int p0)] [(.int p0)]))
  refine Go.of (fun _ k => XS.iconst X0.here hx rfl (hb hby d1_45) k) ?_
  show Go p e below _ (s₁.setTop (mkF m 46 #[.val (.int p0)] [(.int (5 : Int32)), (.int p0)]))
  refine Go.of (fun _ k => XS.icmpNo X0.here hx rfl (hb hby d1_46) rfl (teq hc46).2 k) ?_
  show Go p e below _ (s₁.setTop (mkF m 49 #[.val (.int p0)] []))
  obtain ⟨T1, X1, e1, st1⟩ := getS2 X0 hx hZ hown (host := "") (Or.inl (hw _ (List.mem_of_getElem? (i := 31) rfl))) Via.refl e0 S_FIND_COORDINATOR (g := (mkF m 49 #[.val (.int p0)] [])) rfl (hb hby d1_49)
  refine Go.of st1 ?_
  show Go p e below _ (T1.setTop (mkF m 52 #[.val (.int p0)] [(.ref w_FIND_COORDINATOR)]))
  obtain ⟨fs, hr, hrun, hended, hW, hsame⟩ := X1.leave (v := some (.ref w_FIND_COORDINATOR)) (fun h => by rw [Bd.returns] at h; cases h)
  refine Go.mk _ _ ?_ hrun hended ⟨_, _, rfl, ?_, ⟨_, rfl⟩, hW, hsame.mono (by decide) (by decide)⟩
  · exact retOut X1 hx Bd.returns rfl (Or.inr (Or.inr (Or.inr (Or.inr ⟨rfl, rfl, rfl⟩)))) (hb hby d1_52) hr
  · show Q1_5 Z p0 w_FIND_COORDINATOR h0 n0 _ T1.heap _
    rw [e1]
    exact ⟨rfl, N0, rfl⟩
theorem d1_53 : decode method_2_code 53 = .ok (.iload_n 0, 1) := by decide +kernel
theorem d1_54 : decode method_2_code 54 = .ok (.bipush 6, 2) := by decide +kernel
theorem d1_56 : decode method_2_code 56 = .ok (.if_icmp .ne 7, 3) := by decide +kernel
theorem d1_59 : decode method_2_code 59 = .ok (.getstatic 28, 3) := by decide +kernel
theorem d1_62 : decode method_2_code 62 = .ok (.areturn, 1) := by decide +kernel
def Q1_6 (Z : State) (p0 : Int32) (w_JOIN_GROUP : Addr) (h0 : Heap) (n0 : Nat) (v : Option Value) (h : Heap) (L : List Loc) : Prop := v = some (.ref w_JOIN_GROUP) ∧ Fr n0 L ∧ h = h0
set_option maxRecDepth 65536 in
set_option maxHeartbeats 40000000 in
theorem rm1_6 (l : Launch) (Z : State) (a0 : Array Value) (hw : ∀ d ∈ tables_1, d.before a0 Z = true) (ws : List Jvm.Cond) (p0 : Int32) (w_JOIN_GROUP : Addr) (h0 : Heap) (n0 : Nat) (Z0 : n0 ≤ h0.size) (hc1 : ¬ (p0 = (0 : Int32))) (hc10 : ¬ (p0 = (1 : Int32))) (hc19 : ¬ (p0 = (2 : Int32))) (hc28 : ¬ (p0 = (3 : Int32))) (hc37 : ¬ (p0 = (4 : Int32))) (hc46 : ¬ (p0 = (5 : Int32))) (hc56 : p0 = (6 : Int32)) (S_JOIN_GROUP : Sta Z h0 "com/example/liveness/liveness/protocol/Api" "JOIN_GROUP" "Lcom/example/liveness/liveness/protocol/Api;" (.ref w_JOIN_GROUP)) :
    MetFree l (⟨"com/example/liveness/liveness/protocol/ApiIsFlexiblePinLaw", "pick", "(I)Lcom/example/liveness/liveness/protocol/Api;"⟩ : MethodName) (head1 (Jvm.Cond.code (⟨"com/example/liveness/liveness/protocol/ApiIsFlexiblePinLaw", "pick", "(I)Lcom/example/liveness/liveness/protocol/Api;"⟩ : MethodName) method_2_code 1 (some (.object "com/example/liveness/liveness/protocol/Api")) :: ws) ({ frames := 0, cells := 0, slots := 0, locals := 0 } : Room)) (fun a U => a = #[(.int p0)] ∧ Z.Warmed39 U.vm ∧ U.heap = h0) (fun _ _ _ _ _ => True) (fun _ U o U' => ∃ v L, o = .returned v ∧ Q1_6 Z p0 w_JOIN_GROUP h0 n0 v U'.heap L ∧ FrameEnd U o U' L ({ frames := 0, cells := 0, slots := 0, locals := 0 } : Room).cells ({ frames := 0, cells := 0, slots := 0, locals := 0 } : Room).slots) := by
  refine MetFree.of_bodySF (plainFor_of_name pn_com_example_liveness_liveness_protocol_ApiIsFlexiblePinLaw) hisR ?_
  intro p e s m args below meth c s₁ Bd hml0 hP hK
  obtain ⟨rfl, hZ, hh⟩ := hP
  have hx := Bd.exec
  have hby := Bd.bytes
  have hml : c.maxLocals = 1 := hml0
  have hown : s.vm.findClass "com/example/liveness/liveness/protocol/ApiIsFlexiblePinLaw" = some m.cls := findClass_of_methodNamed Bd.named
  have hnm := (name_of_methodNamed Bd.named Bd.method).1
  have X0 : Stand p l e ({ frames := 0, cells := 0, slots := 0, locals := 0 } : Room) s m #[(.int p0)] below meth c s₁ [] 0 0 := Stand.of_body Bd
  have e0 : s₁.heap = h0 := by rw [← hh, Bd.state]; rfl
  have N0 := Fr.nil n0
  show Go p e below (fun o U' => ∃ v L, o = .returned v ∧ Q1_6 Z p0 w_JOIN_GROUP h0 n0 v U'.heap L ∧ FrameEnd s o U' L ({ frames := 0, cells := 0, slots := 0, locals := 0 } : Room).cells ({ frames := 0, cells := 0, slots := 0, locals := 0 } : Room).slots) (s₁.setTop (entryFrame m #[(.int p0)] 1))
  refine Go.of (fun _ k => castTop (ef_1 m p0) k) ?_
  show Go p e below _ (s₁.setTop (mkF m 0 #[.val (.int p0)] []))
  refine Go.of (fun _ k => XS.iloadN X0.here hx rfl (hb hby d1_0) rfl  k) ?_
  show Go p e below _ (s₁.setTop (mkF m 1 #[.val (.int p0)] [(.int p0)]))
  refine Go.of (fun _ k => XS.ifYes X0.here hx rfl (pc0 := 1) (pc' := 8) rfl (hb hby d1_1) rfl ((if0 _ _).trans (feq hc1).2) (by decide) (by decide) k) ?_
  show Go p e below _ (s₁.setTop (mkF m 8 #[.val (.int p0)] []))
  refine Go.of (fun _ k => XS.iloadN X0.here hx rfl (hb hby d1_8) rfl  k) ?_
  show Go p e below _ (s₁.setTop (mkF m 9 #[.val (.int p0)] [(.int p0)]))
  refine Go.of (fun _ k => XS.iconst X0.here hx rfl (hb hby d1_9) k) ?_
  show Go p e below _ (s₁.setTop (mkF m 10 #[.val (.int p0)] [(.int (1 : Int32)), (.int p0)]))
  refine Go.of (fun _ k => XS.icmpYes X0.here hx rfl (pc0 := 10) (pc' := 17) rfl (hb hby d1_10) rfl (feq hc10).2 (by decide) (by decide) k) ?_
  show Go p e below _ (s₁.setTop (mkF m 17 #[.val (.int p0)] []))
  refine Go.of (fun _ k => XS.iloadN X0.here hx rfl (hb hby d1_17) rfl  k) ?_
  show Go p e below _ (s₁.setTop (mkF m 18 #[.val (.int p0)] [(.int p0)]))
  refine Go.of (fun _ k => XS.iconst X0.here hx rfl (hb hby d1_18) k) ?_
  show Go p e below _ (s₁.setTop (mkF m 19 #[.val (.int p0)] [(.int (2 : Int32)), (.int p0)]))
  refine Go.of (fun _ k => XS.icmpYes X0.here hx rfl (pc0 := 19) (pc' := 26) rfl (hb hby d1_19) rfl (feq hc19).2 (by decide) (by decide) k) ?_
  show Go p e below _ (s₁.setTop (mkF m 26 #[.val (.int p0)] []))
  refine Go.of (fun _ k => XS.iloadN X0.here hx rfl (hb hby d1_26) rfl  k) ?_
  show Go p e below _ (s₁.setTop (mkF m 27 #[.val (.int p0)] [(.int p0)]))
  refine Go.of (fun _ k => XS.iconst X0.here hx rfl (hb hby d1_27) k) ?_
  show Go p e below _ (s₁.setTop (mkF m 28 #[.val (.int p0)] [(.int (3 : Int32)), (.int p0)]))
  refine Go.of (fun _ k => XS.icmpYes X0.here hx rfl (pc0 := 28) (pc' := 35) rfl (hb hby d1_28) rfl (feq hc28).2 (by decide) (by decide) k) ?_
  show Go p e below _ (s₁.setTop (mkF m 35 #[.val (.int p0)] []))
  refine Go.of (fun _ k => XS.iloadN X0.here hx rfl (hb hby d1_35) rfl  k) ?_
  show Go p e below _ (s₁.setTop (mkF m 36 #[.val (.int p0)] [(.int p0)]))
  refine Go.of (fun _ k => XS.iconst X0.here hx rfl (hb hby d1_36) k) ?_
  show Go p e below _ (s₁.setTop (mkF m 37 #[.val (.int p0)] [(.int (4 : Int32)), (.int p0)]))
  refine Go.of (fun _ k => XS.icmpYes X0.here hx rfl (pc0 := 37) (pc' := 44) rfl (hb hby d1_37) rfl (feq hc37).2 (by decide) (by decide) k) ?_
  show Go p e below _ (s₁.setTop (mkF m 44 #[.val (.int p0)] []))
  refine Go.of (fun _ k => XS.iloadN X0.here hx rfl (hb hby d1_44) rfl  k) ?_
  show Go p e below _ (s₁.setTop (mkF m 45 #[.val (.int p0)] [(.int p0)]))
  refine Go.of (fun _ k => XS.iconst X0.here hx rfl (hb hby d1_45) k) ?_
  show Go p e below _ (s₁.setTop (mkF m 46 #[.val (.int p0)] [(.int (5 : Int32)), (.int p0)]))
  refine Go.of (fun _ k => XS.icmpYes X0.here hx rfl (pc0 := 46) (pc' := 53) rfl (hb hby d1_46) rfl (feq hc46).2 (by decide) (by decide) k) ?_
  show Go p e below _ (s₁.setTop (mkF m 53 #[.val (.int p0)] []))
  refine Go.of (fun _ k => XS.iloadN X0.here hx rfl (hb hby d1_53) rfl  k) ?_
  show Go p e below _ (s₁.setTop (mkF m 54 #[.val (.int p0)] [(.int p0)]))
  refine Go.of (fun _ k => XS.bipush X0.here hx rfl (hb hby d1_54) k) ?_
  show Go p e below _ (s₁.setTop (mkF m 56 #[.val (.int p0)] [(.int (6 : Int32)), (.int p0)]))
  refine Go.of (fun _ k => XS.icmpNo X0.here hx rfl (hb hby d1_56) rfl (teq hc56).2 k) ?_
  show Go p e below _ (s₁.setTop (mkF m 59 #[.val (.int p0)] []))
  obtain ⟨T1, X1, e1, st1⟩ := getS2 X0 hx hZ hown (host := "") (Or.inl (hw _ (List.mem_of_getElem? (i := 25) rfl))) Via.refl e0 S_JOIN_GROUP (g := (mkF m 59 #[.val (.int p0)] [])) rfl (hb hby d1_59)
  refine Go.of st1 ?_
  show Go p e below _ (T1.setTop (mkF m 62 #[.val (.int p0)] [(.ref w_JOIN_GROUP)]))
  obtain ⟨fs, hr, hrun, hended, hW, hsame⟩ := X1.leave (v := some (.ref w_JOIN_GROUP)) (fun h => by rw [Bd.returns] at h; cases h)
  refine Go.mk _ _ ?_ hrun hended ⟨_, _, rfl, ?_, ⟨_, rfl⟩, hW, hsame.mono (by decide) (by decide)⟩
  · exact retOut X1 hx Bd.returns rfl (Or.inr (Or.inr (Or.inr (Or.inr ⟨rfl, rfl, rfl⟩)))) (hb hby d1_62) hr
  · show Q1_6 Z p0 w_JOIN_GROUP h0 n0 _ T1.heap _
    rw [e1]
    exact ⟨rfl, N0, rfl⟩
theorem d1_63 : decode method_2_code 63 = .ok (.iload_n 0, 1) := by decide +kernel
theorem d1_64 : decode method_2_code 64 = .ok (.bipush 7, 2) := by decide +kernel
theorem d1_66 : decode method_2_code 66 = .ok (.if_icmp .ne 7, 3) := by decide +kernel
theorem d1_69 : decode method_2_code 69 = .ok (.getstatic 31, 3) := by decide +kernel
theorem d1_72 : decode method_2_code 72 = .ok (.areturn, 1) := by decide +kernel
def Q1_7 (Z : State) (p0 : Int32) (w_HEARTBEAT : Addr) (h0 : Heap) (n0 : Nat) (v : Option Value) (h : Heap) (L : List Loc) : Prop := v = some (.ref w_HEARTBEAT) ∧ Fr n0 L ∧ h = h0
set_option maxRecDepth 65536 in
set_option maxHeartbeats 40000000 in
theorem rm1_7 (l : Launch) (Z : State) (a0 : Array Value) (hw : ∀ d ∈ tables_1, d.before a0 Z = true) (ws : List Jvm.Cond) (p0 : Int32) (w_HEARTBEAT : Addr) (h0 : Heap) (n0 : Nat) (Z0 : n0 ≤ h0.size) (hc1 : ¬ (p0 = (0 : Int32))) (hc10 : ¬ (p0 = (1 : Int32))) (hc19 : ¬ (p0 = (2 : Int32))) (hc28 : ¬ (p0 = (3 : Int32))) (hc37 : ¬ (p0 = (4 : Int32))) (hc46 : ¬ (p0 = (5 : Int32))) (hc56 : ¬ (p0 = (6 : Int32))) (hc66 : p0 = (7 : Int32)) (S_HEARTBEAT : Sta Z h0 "com/example/liveness/liveness/protocol/Api" "HEARTBEAT" "Lcom/example/liveness/liveness/protocol/Api;" (.ref w_HEARTBEAT)) :
    MetFree l (⟨"com/example/liveness/liveness/protocol/ApiIsFlexiblePinLaw", "pick", "(I)Lcom/example/liveness/liveness/protocol/Api;"⟩ : MethodName) (head1 (Jvm.Cond.code (⟨"com/example/liveness/liveness/protocol/ApiIsFlexiblePinLaw", "pick", "(I)Lcom/example/liveness/liveness/protocol/Api;"⟩ : MethodName) method_2_code 1 (some (.object "com/example/liveness/liveness/protocol/Api")) :: ws) ({ frames := 0, cells := 0, slots := 0, locals := 0 } : Room)) (fun a U => a = #[(.int p0)] ∧ Z.Warmed39 U.vm ∧ U.heap = h0) (fun _ _ _ _ _ => True) (fun _ U o U' => ∃ v L, o = .returned v ∧ Q1_7 Z p0 w_HEARTBEAT h0 n0 v U'.heap L ∧ FrameEnd U o U' L ({ frames := 0, cells := 0, slots := 0, locals := 0 } : Room).cells ({ frames := 0, cells := 0, slots := 0, locals := 0 } : Room).slots) := by
  refine MetFree.of_bodySF (plainFor_of_name pn_com_example_liveness_liveness_protocol_ApiIsFlexiblePinLaw) hisR ?_
  intro p e s m args below meth c s₁ Bd hml0 hP hK
  obtain ⟨rfl, hZ, hh⟩ := hP
  have hx := Bd.exec
  have hby := Bd.bytes
  have hml : c.maxLocals = 1 := hml0
  have hown : s.vm.findClass "com/example/liveness/liveness/protocol/ApiIsFlexiblePinLaw" = some m.cls := findClass_of_methodNamed Bd.named
  have hnm := (name_of_methodNamed Bd.named Bd.method).1
  have X0 : Stand p l e ({ frames := 0, cells := 0, slots := 0, locals := 0 } : Room) s m #[(.int p0)] below meth c s₁ [] 0 0 := Stand.of_body Bd
  have e0 : s₁.heap = h0 := by rw [← hh, Bd.state]; rfl
  have N0 := Fr.nil n0
  show Go p e below (fun o U' => ∃ v L, o = .returned v ∧ Q1_7 Z p0 w_HEARTBEAT h0 n0 v U'.heap L ∧ FrameEnd s o U' L ({ frames := 0, cells := 0, slots := 0, locals := 0 } : Room).cells ({ frames := 0, cells := 0, slots := 0, locals := 0 } : Room).slots) (s₁.setTop (entryFrame m #[(.int p0)] 1))
  refine Go.of (fun _ k => castTop (ef_1 m p0) k) ?_
  show Go p e below _ (s₁.setTop (mkF m 0 #[.val (.int p0)] []))
  refine Go.of (fun _ k => XS.iloadN X0.here hx rfl (hb hby d1_0) rfl  k) ?_
  show Go p e below _ (s₁.setTop (mkF m 1 #[.val (.int p0)] [(.int p0)]))
  refine Go.of (fun _ k => XS.ifYes X0.here hx rfl (pc0 := 1) (pc' := 8) rfl (hb hby d1_1) rfl ((if0 _ _).trans (feq hc1).2) (by decide) (by decide) k) ?_
  show Go p e below _ (s₁.setTop (mkF m 8 #[.val (.int p0)] []))
  refine Go.of (fun _ k => XS.iloadN X0.here hx rfl (hb hby d1_8) rfl  k) ?_
  show Go p e below _ (s₁.setTop (mkF m 9 #[.val (.int p0)] [(.int p0)]))
  refine Go.of (fun _ k => XS.iconst X0.here hx rfl (hb hby d1_9) k) ?_
  show Go p e below _ (s₁.setTop (mkF m 10 #[.val (.int p0)] [(.int (1 : Int32)), (.int p0)]))
  refine Go.of (fun _ k => XS.icmpYes X0.here hx rfl (pc0 := 10) (pc' := 17) rfl (hb hby d1_10) rfl (feq hc10).2 (by decide) (by decide) k) ?_
  show Go p e below _ (s₁.setTop (mkF m 17 #[.val (.int p0)] []))
  refine Go.of (fun _ k => XS.iloadN X0.here hx rfl (hb hby d1_17) rfl  k) ?_
  show Go p e below _ (s₁.setTop (mkF m 18 #[.val (.int p0)] [(.int p0)]))
  refine Go.of (fun _ k => XS.iconst X0.here hx rfl (hb hby d1_18) k) ?_
  show Go p e below _ (s₁.setTop (mkF m 19 #[.val (.int p0)] [(.int (2 : Int32)), (.int p0)]))
  refine Go.of (fun _ k => XS.icmpYes X0.here hx rfl (pc0 := 19) (pc' := 26) rfl (hb hby d1_19) rfl (feq hc19).2 (by decide) (by decide) k) ?_
  show Go p e below _ (s₁.setTop (mkF m 26 #[.val (.int p0)] []))
  refine Go.of (fun _ k => XS.iloadN X0.here hx rfl (hb hby d1_26) rfl  k) ?_
  show Go p e below _ (s₁.setTop (mkF m 27 #[.val (.int p0)] [(.int p0)]))
  refine Go.of (fun _ k => XS.iconst X0.here hx rfl (hb hby d1_27) k) ?_
  show Go p e below _ (s₁.setTop (mkF m 28 #[.val (.int p0)] [(.int (3 : Int32)), (.int p0)]))
  refine Go.of (fun _ k => XS.icmpYes X0.here hx rfl (pc0 := 28) (pc' := 35) rfl (hb hby d1_28) rfl (feq hc28).2 (by decide) (by decide) k) ?_
  show Go p e below _ (s₁.setTop (mkF m 35 #[.val (.int p0)] []))
  refine Go.of (fun _ k => XS.iloadN X0.here hx rfl (hb hby d1_35) rfl  k) ?_
  show Go p e below _ (s₁.setTop (mkF m 36 #[.val (.int p0)] [(.int p0)]))
  refine Go.of (fun _ k => XS.iconst X0.here hx rfl (hb hby d1_36) k) ?_
  show Go p e below _ (s₁.setTop (mkF m 37 #[.val (.int p0)] [(.int (4 : Int32)), (.int p0)]))
  refine Go.of (fun _ k => XS.icmpYes X0.here hx rfl (pc0 := 37) (pc' := 44) rfl (hb hby d1_37) rfl (feq hc37).2 (by decide) (by decide) k) ?_
  show Go p e below _ (s₁.setTop (mkF m 44 #[.val (.int p0)] []))
  refine Go.of (fun _ k => XS.iloadN X0.here hx rfl (hb hby d1_44) rfl  k) ?_
  show Go p e below _ (s₁.setTop (mkF m 45 #[.val (.int p0)] [(.int p0)]))
  refine Go.of (fun _ k => XS.iconst X0.here hx rfl (hb hby d1_45) k) ?_
  show Go p e below _ (s₁.setTop (mkF m 46 #[.val (.int p0)] [(.int (5 : Int32)), (.int p0)]))
  refine Go.of (fun _ k => XS.icmpYes X0.here hx rfl (pc0 := 46) (pc' := 53) rfl (hb hby d1_46) rfl (feq hc46).2 (by decide) (by decide) k) ?_
  show Go p e below _ (s₁.setTop (mkF m 53 #[.val (.int p0)] []))
  refine Go.of (fun _ k => XS.iloadN X0.here hx rfl (hb hby d1_53) rfl  k) ?_
  show Go p e below _ (s₁.setTop (mkF m 54 #[.val (.int p0)] [(.int p0)]))
  refine Go.of (fun _ k => XS.bipush X0.here hx rfl (hb hby d1_54) k) ?_
  show Go p e below _ (s₁.setTop (mkF m 56 #[.val (.int p0)] [(.int (6 : Int32)), (.int p0)]))
  refine Go.of (fun _ k => XS.icmpYes X0.here hx rfl (pc0 := 56) (pc' := 63) rfl (hb hby d1_56) rfl (feq hc56).2 (by decide) (by decide) k) ?_
  show Go p e below _ (s₁.setTop (mkF m 63 #[.val (.int p0)] []))
  refine Go.of (fun _ k => XS.iloadN X0.here hx rfl (hb hby d1_63) rfl  k) ?_
  show Go p e below _ (s₁.setTop (mkF m 64 #[.val (.int p0)] [(.int p0)]))
  refine Go.of (fun _ k => XS.bipush X0.here hx rfl (hb hby d1_64) k) ?_
  show Go p e below _ (s₁.setTop (mkF m 66 #[.val (.int p0)] [(.int (7 : Int32)), (.int p0)]))
  refine Go.of (fun _ k => XS.icmpNo X0.here hx rfl (hb hby d1_66) rfl (teq hc66).2 k) ?_
  show Go p e below _ (s₁.setTop (mkF m 69 #[.val (.int p0)] []))
  obtain ⟨T1, X1, e1, st1⟩ := getS2 X0 hx hZ hown (host := "") (Or.inl (hw _ (List.mem_of_getElem? (i := 27) rfl))) Via.refl e0 S_HEARTBEAT (g := (mkF m 69 #[.val (.int p0)] [])) rfl (hb hby d1_69)
  refine Go.of st1 ?_
  show Go p e below _ (T1.setTop (mkF m 72 #[.val (.int p0)] [(.ref w_HEARTBEAT)]))
  obtain ⟨fs, hr, hrun, hended, hW, hsame⟩ := X1.leave (v := some (.ref w_HEARTBEAT)) (fun h => by rw [Bd.returns] at h; cases h)
  refine Go.mk _ _ ?_ hrun hended ⟨_, _, rfl, ?_, ⟨_, rfl⟩, hW, hsame.mono (by decide) (by decide)⟩
  · exact retOut X1 hx Bd.returns rfl (Or.inr (Or.inr (Or.inr (Or.inr ⟨rfl, rfl, rfl⟩)))) (hb hby d1_72) hr
  · show Q1_7 Z p0 w_HEARTBEAT h0 n0 _ T1.heap _
    rw [e1]
    exact ⟨rfl, N0, rfl⟩
theorem d1_73 : decode method_2_code 73 = .ok (.iload_n 0, 1) := by decide +kernel
theorem d1_74 : decode method_2_code 74 = .ok (.bipush 8, 2) := by decide +kernel
theorem d1_76 : decode method_2_code 76 = .ok (.if_icmp .ne 7, 3) := by decide +kernel
theorem d1_79 : decode method_2_code 79 = .ok (.getstatic 34, 3) := by decide +kernel
theorem d1_82 : decode method_2_code 82 = .ok (.areturn, 1) := by decide +kernel
def Q1_8 (Z : State) (p0 : Int32) (w_LEAVE_GROUP : Addr) (h0 : Heap) (n0 : Nat) (v : Option Value) (h : Heap) (L : List Loc) : Prop := v = some (.ref w_LEAVE_GROUP) ∧ Fr n0 L ∧ h = h0
set_option maxRecDepth 65536 in
set_option maxHeartbeats 40000000 in
theorem rm1_8 (l : Launch) (Z : State) (a0 : Array Value) (hw : ∀ d ∈ tables_1, d.before a0 Z = true) (ws : List Jvm.Cond) (p0 : Int32) (w_LEAVE_GROUP : Addr) (h0 : Heap) (n0 : Nat) (Z0 : n0 ≤ h0.size) (hc1 : ¬ (p0 = (0 : Int32))) (hc10 : ¬ (p0 = (1 : Int32))) (hc19 : ¬ (p0 = (2 : Int32))) (hc28 : ¬ (p0 = (3 : Int32))) (hc37 : ¬ (p0 = (4 : Int32))) (hc46 : ¬ (p0 = (5 : Int32))) (hc56 : ¬ (p0 = (6 : Int32))) (hc66 : ¬ (p0 = (7 : Int32))) (hc76 : p0 = (8 : Int32)) (S_LEAVE_GROUP : Sta Z h0 "com/example/liveness/liveness/protocol/Api" "LEAVE_GROUP" "Lcom/example/liveness/liveness/protocol/Api;" (.ref w_LEAVE_GROUP)) :
    MetFree l (⟨"com/example/liveness/liveness/protocol/ApiIsFlexiblePinLaw", "pick", "(I)Lcom/example/liveness/liveness/protocol/Api;"⟩ : MethodName) (head1 (Jvm.Cond.code (⟨"com/example/liveness/liveness/protocol/ApiIsFlexiblePinLaw", "pick", "(I)Lcom/example/liveness/liveness/protocol/Api;"⟩ : MethodName) method_2_code 1 (some (.object "com/example/liveness/liveness/protocol/Api")) :: ws) ({ frames := 0, cells := 0, slots := 0, locals := 0 } : Room)) (fun a U => a = #[(.int p0)] ∧ Z.Warmed39 U.vm ∧ U.heap = h0) (fun _ _ _ _ _ => True) (fun _ U o U' => ∃ v L, o = .returned v ∧ Q1_8 Z p0 w_LEAVE_GROUP h0 n0 v U'.heap L ∧ FrameEnd U o U' L ({ frames := 0, cells := 0, slots := 0, locals := 0 } : Room).cells ({ frames := 0, cells := 0, slots := 0, locals := 0 } : Room).slots) := by
  refine MetFree.of_bodySF (plainFor_of_name pn_com_example_liveness_liveness_protocol_ApiIsFlexiblePinLaw) hisR ?_
  intro p e s m args below meth c s₁ Bd hml0 hP hK
  obtain ⟨rfl, hZ, hh⟩ := hP
  have hx := Bd.exec
  have hby := Bd.bytes
  have hml : c.maxLocals = 1 := hml0
  have hown : s.vm.findClass "com/example/liveness/liveness/protocol/ApiIsFlexiblePinLaw" = some m.cls := findClass_of_methodNamed Bd.named
  have hnm := (name_of_methodNamed Bd.named Bd.method).1
  have X0 : Stand p l e ({ frames := 0, cells := 0, slots := 0, locals := 0 } : Room) s m #[(.int p0)] below meth c s₁ [] 0 0 := Stand.of_body Bd
  have e0 : s₁.heap = h0 := by rw [← hh, Bd.state]; rfl
  have N0 := Fr.nil n0
  show Go p e below (fun o U' => ∃ v L, o = .returned v ∧ Q1_8 Z p0 w_LEAVE_GROUP h0 n0 v U'.heap L ∧ FrameEnd s o U' L ({ frames := 0, cells := 0, slots := 0, locals := 0 } : Room).cells ({ frames := 0, cells := 0, slots := 0, locals := 0 } : Room).slots) (s₁.setTop (entryFrame m #[(.int p0)] 1))
  refine Go.of (fun _ k => castTop (ef_1 m p0) k) ?_
  show Go p e below _ (s₁.setTop (mkF m 0 #[.val (.int p0)] []))
  refine Go.of (fun _ k => XS.iloadN X0.here hx rfl (hb hby d1_0) rfl  k) ?_
  show Go p e below _ (s₁.setTop (mkF m 1 #[.val (.int p0)] [(.int p0)]))
  refine Go.of (fun _ k => XS.ifYes X0.here hx rfl (pc0 := 1) (pc' := 8) rfl (hb hby d1_1) rfl ((if0 _ _).trans (feq hc1).2) (by decide) (by decide) k) ?_
  show Go p e below _ (s₁.setTop (mkF m 8 #[.val (.int p0)] []))
  refine Go.of (fun _ k => XS.iloadN X0.here hx rfl (hb hby d1_8) rfl  k) ?_
  show Go p e below _ (s₁.setTop (mkF m 9 #[.val (.int p0)] [(.int p0)]))
  refine Go.of (fun _ k => XS.iconst X0.here hx rfl (hb hby d1_9) k) ?_
  show Go p e below _ (s₁.setTop (mkF m 10 #[.val (.int p0)] [(.int (1 : Int32)), (.int p0)]))
  refine Go.of (fun _ k => XS.icmpYes X0.here hx rfl (pc0 := 10) (pc' := 17) rfl (hb hby d1_10) rfl (feq hc10).2 (by decide) (by decide) k) ?_
  show Go p e below _ (s₁.setTop (mkF m 17 #[.val (.int p0)] []))
  refine Go.of (fun _ k => XS.iloadN X0.here hx rfl (hb hby d1_17) rfl  k) ?_
  show Go p e below _ (s₁.setTop (mkF m 18 #[.val (.int p0)] [(.int p0)]))
  refine Go.of (fun _ k => XS.iconst X0.here hx rfl (hb hby d1_18) k) ?_
  show Go p e below _ (s₁.setTop (mkF m 19 #[.val (.int p0)] [(.int (2 : Int32)), (.int p0)]))
  refine Go.of (fun _ k => XS.icmpYes X0.here hx rfl (pc0 := 19) (pc' := 26) rfl (hb hby d1_19) rfl (feq hc19).2 (by decide) (by decide) k) ?_
  show Go p e below _ (s₁.setTop (mkF m 26 #[.val (.int p0)] []))
  refine Go.of (fun _ k => XS.iloadN X0.here hx rfl (hb hby d1_26) rfl  k) ?_
  show Go p e below _ (s₁.setTop (mkF m 27 #[.val (.int p0)] [(.int p0)]))
  refine Go.of (fun _ k => XS.iconst X0.here hx rfl (hb hby d1_27) k) ?_
  show Go p e below _ (s₁.setTop (mkF m 28 #[.val (.int p0)] [(.int (3 : Int32)), (.int p0)]))
  refine Go.of (fun _ k => XS.icmpYes X0.here hx rfl (pc0 := 28) (pc' := 35) rfl (hb hby d1_28) rfl (feq hc28).2 (by decide) (by decide) k) ?_
  show Go p e below _ (s₁.setTop (mkF m 35 #[.val (.int p0)] []))
  refine Go.of (fun _ k => XS.iloadN X0.here hx rfl (hb hby d1_35) rfl  k) ?_
  show Go p e below _ (s₁.setTop (mkF m 36 #[.val (.int p0)] [(.int p0)]))
  refine Go.of (fun _ k => XS.iconst X0.here hx rfl (hb hby d1_36) k) ?_
  show Go p e below _ (s₁.setTop (mkF m 37 #[.val (.int p0)] [(.int (4 : Int32)), (.int p0)]))
  refine Go.of (fun _ k => XS.icmpYes X0.here hx rfl (pc0 := 37) (pc' := 44) rfl (hb hby d1_37) rfl (feq hc37).2 (by decide) (by decide) k) ?_
  show Go p e below _ (s₁.setTop (mkF m 44 #[.val (.int p0)] []))
  refine Go.of (fun _ k => XS.iloadN X0.here hx rfl (hb hby d1_44) rfl  k) ?_
  show Go p e below _ (s₁.setTop (mkF m 45 #[.val (.int p0)] [(.int p0)]))
  refine Go.of (fun _ k => XS.iconst X0.here hx rfl (hb hby d1_45) k) ?_
  show Go p e below _ (s₁.setTop (mkF m 46 #[.val (.int p0)] [(.int (5 : Int32)), (.int p0)]))
  refine Go.of (fun _ k => XS.icmpYes X0.here hx rfl (pc0 := 46) (pc' := 53) rfl (hb hby d1_46) rfl (feq hc46).2 (by decide) (by decide) k) ?_
  show Go p e below _ (s₁.setTop (mkF m 53 #[.val (.int p0)] []))
  refine Go.of (fun _ k => XS.iloadN X0.here hx rfl (hb hby d1_53) rfl  k) ?_
  show Go p e below _ (s₁.setTop (mkF m 54 #[.val (.int p0)] [(.int p0)]))
  refine Go.of (fun _ k => XS.bipush X0.here hx rfl (hb hby d1_54) k) ?_
  show Go p e below _ (s₁.setTop (mkF m 56 #[.val (.int p0)] [(.int (6 : Int32)), (.int p0)]))
  refine Go.of (fun _ k => XS.icmpYes X0.here hx rfl (pc0 := 56) (pc' := 63) rfl (hb hby d1_56) rfl (feq hc56).2 (by decide) (by decide) k) ?_
  show Go p e below _ (s₁.setTop (mkF m 63 #[.val (.int p0)] []))
  refine Go.of (fun _ k => XS.iloadN X0.here hx rfl (hb hby d1_63) rfl  k) ?_
  show Go p e below _ (s₁.setTop (mkF m 64 #[.val (.int p0)] [(.int p0)]))
  refine Go.of (fun _ k => XS.bipush X0.here hx rfl (hb hby d1_64) k) ?_
  show Go p e below _ (s₁.setTop (mkF m 66 #[.val (.int p0)] [(.int (7 : Int32)), (.int p0)]))
  refine Go.of (fun _ k => XS.icmpYes X0.here hx rfl (pc0 := 66) (pc' := 73) rfl (hb hby d1_66) rfl (feq hc66).2 (by decide) (by decide) k) ?_
  show Go p e below _ (s₁.setTop (mkF m 73 #[.val (.int p0)] []))
  refine Go.of (fun _ k => XS.iloadN X0.here hx rfl (hb hby d1_73) rfl  k) ?_
  show Go p e below _ (s₁.setTop (mkF m 74 #[.val (.int p0)] [(.int p0)]))
  refine Go.of (fun _ k => XS.bipush X0.here hx rfl (hb hby d1_74) k) ?_
  show Go p e below _ (s₁.setTop (mkF m 76 #[.val (.int p0)] [(.int (8 : Int32)), (.int p0)]))
  refine Go.of (fun _ k => XS.icmpNo X0.here hx rfl (hb hby d1_76) rfl (teq hc76).2 k) ?_
  show Go p e below _ (s₁.setTop (mkF m 79 #[.val (.int p0)] []))
  obtain ⟨T1, X1, e1, st1⟩ := getS2 X0 hx hZ hown (host := "") (Or.inl (hw _ (List.mem_of_getElem? (i := 19) rfl))) Via.refl e0 S_LEAVE_GROUP (g := (mkF m 79 #[.val (.int p0)] [])) rfl (hb hby d1_79)
  refine Go.of st1 ?_
  show Go p e below _ (T1.setTop (mkF m 82 #[.val (.int p0)] [(.ref w_LEAVE_GROUP)]))
  obtain ⟨fs, hr, hrun, hended, hW, hsame⟩ := X1.leave (v := some (.ref w_LEAVE_GROUP)) (fun h => by rw [Bd.returns] at h; cases h)
  refine Go.mk _ _ ?_ hrun hended ⟨_, _, rfl, ?_, ⟨_, rfl⟩, hW, hsame.mono (by decide) (by decide)⟩
  · exact retOut X1 hx Bd.returns rfl (Or.inr (Or.inr (Or.inr (Or.inr ⟨rfl, rfl, rfl⟩)))) (hb hby d1_82) hr
  · show Q1_8 Z p0 w_LEAVE_GROUP h0 n0 _ T1.heap _
    rw [e1]
    exact ⟨rfl, N0, rfl⟩
theorem d1_83 : decode method_2_code 83 = .ok (.iload_n 0, 1) := by decide +kernel
theorem d1_84 : decode method_2_code 84 = .ok (.bipush 9, 2) := by decide +kernel
theorem d1_86 : decode method_2_code 86 = .ok (.if_icmp .ne 7, 3) := by decide +kernel
theorem d1_89 : decode method_2_code 89 = .ok (.getstatic 37, 3) := by decide +kernel
theorem d1_92 : decode method_2_code 92 = .ok (.areturn, 1) := by decide +kernel
def Q1_9 (Z : State) (p0 : Int32) (w_SYNC_GROUP : Addr) (h0 : Heap) (n0 : Nat) (v : Option Value) (h : Heap) (L : List Loc) : Prop := v = some (.ref w_SYNC_GROUP) ∧ Fr n0 L ∧ h = h0
set_option maxRecDepth 65536 in
set_option maxHeartbeats 40000000 in
theorem rm1_9 (l : Launch) (Z : State) (a0 : Array Value) (hw : ∀ d ∈ tables_1, d.before a0 Z = true) (ws : List Jvm.Cond) (p0 : Int32) (w_SYNC_GROUP : Addr) (h0 : Heap) (n0 : Nat) (Z0 : n0 ≤ h0.size) (hc1 : ¬ (p0 = (0 : Int32))) (hc10 : ¬ (p0 = (1 : Int32))) (hc19 : ¬ (p0 = (2 : Int32))) (hc28 : ¬ (p0 = (3 : Int32))) (hc37 : ¬ (p0 = (4 : Int32))) (hc46 : ¬ (p0 = (5 : Int32))) (hc56 : ¬ (p0 = (6 : Int32))) (hc66 : ¬ (p0 = (7 : Int32))) (hc76 : ¬ (p0 = (8 : Int32))) (hc86 : p0 = (9 : Int32)) (S_SYNC_GROUP : Sta Z h0 "com/example/liveness/liveness/protocol/Api" "SYNC_GROUP" "Lcom/example/liveness/liveness/protocol/Api;" (.ref w_SYNC_GROUP)) :
    MetFree l (⟨"com/example/liveness/liveness/protocol/ApiIsFlexiblePinLaw", "pick", "(I)Lcom/example/liveness/liveness/protocol/Api;"⟩ : MethodName) (head1 (Jvm.Cond.code (⟨"com/example/liveness/liveness/protocol/ApiIsFlexiblePinLaw", "pick", "(I)Lcom/example/liveness/liveness/protocol/Api;"⟩ : MethodName) method_2_code 1 (some (.object "com/example/liveness/liveness/protocol/Api")) :: ws) ({ frames := 0, cells := 0, slots := 0, locals := 0 } : Room)) (fun a U => a = #[(.int p0)] ∧ Z.Warmed39 U.vm ∧ U.heap = h0) (fun _ _ _ _ _ => True) (fun _ U o U' => ∃ v L, o = .returned v ∧ Q1_9 Z p0 w_SYNC_GROUP h0 n0 v U'.heap L ∧ FrameEnd U o U' L ({ frames := 0, cells := 0, slots := 0, locals := 0 } : Room).cells ({ frames := 0, cells := 0, slots := 0, locals := 0 } : Room).slots) := by
  refine MetFree.of_bodySF (plainFor_of_name pn_com_example_liveness_liveness_protocol_ApiIsFlexiblePinLaw) hisR ?_
  intro p e s m args below meth c s₁ Bd hml0 hP hK
  obtain ⟨rfl, hZ, hh⟩ := hP
  have hx := Bd.exec
  have hby := Bd.bytes
  have hml : c.maxLocals = 1 := hml0
  have hown : s.vm.findClass "com/example/liveness/liveness/protocol/ApiIsFlexiblePinLaw" = some m.cls := findClass_of_methodNamed Bd.named
  have hnm := (name_of_methodNamed Bd.named Bd.method).1
  have X0 : Stand p l e ({ frames := 0, cells := 0, slots := 0, locals := 0 } : Room) s m #[(.int p0)] below meth c s₁ [] 0 0 := Stand.of_body Bd
  have e0 : s₁.heap = h0 := by rw [← hh, Bd.state]; rfl
  have N0 := Fr.nil n0
  show Go p e below (fun o U' => ∃ v L, o = .returned v ∧ Q1_9 Z p0 w_SYNC_GROUP h0 n0 v U'.heap L ∧ FrameEnd s o U' L ({ frames := 0, cells := 0, slots := 0, locals := 0 } : Room).cells ({ frames := 0, cells := 0, slots := 0, locals := 0 } : Room).slots) (s₁.setTop (entryFrame m #[(.int p0)] 1))
  refine Go.of (fun _ k => castTop (ef_1 m p0) k) ?_
  show Go p e below _ (s₁.setTop (mkF m 0 #[.val (.int p0)] []))
  refine Go.of (fun _ k => XS.iloadN X0.here hx rfl (hb hby d1_0) rfl  k) ?_
  show Go p e below _ (s₁.setTop (mkF m 1 #[.val (.int p0)] [(.int p0)]))
  refine Go.of (fun _ k => XS.ifYes X0.here hx rfl (pc0 := 1) (pc' := 8) rfl (hb hby d1_1) rfl ((if0 _ _).trans (feq hc1).2) (by decide) (by decide) k) ?_
  show Go p e below _ (s₁.setTop (mkF m 8 #[.val (.int p0)] []))
  refine Go.of (fun _ k => XS.iloadN X0.here hx rfl (hb hby d1_8) rfl  k) ?_
  show Go p e below _ (s₁.setTop (mkF m 9 #[.val (.int p0)] [(.int p0)]))
  refine Go.of (fun _ k => XS.iconst X0.here hx rfl (hb hby d1_9) k) ?_
  show Go p e below _ (s₁.setTop (mkF m 10 #[.val (.int p0)] [(.int (1 : Int32)), (.int p0)]))
  refine Go.of (fun _ k => XS.icmpYes X0.here hx rfl (pc0 := 10) (pc' := 17) rfl (hb hby d1_10) rfl (feq hc10).2 (by decide) (by decide) k) ?_
  show Go p e below _ (s₁.setTop (mkF m 17 #[.val (.int p0)] []))
  refine Go.of (fun _ k => XS.iloadN X0.here hx rfl (hb hby d1_17) rfl  k) ?_
  show Go p e below _ (s₁.setTop (mkF m 18 #[.val (.int p0)] [(.int p0)]))
  refine Go.of (fun _ k => XS.iconst X0.here hx rfl (hb hby d1_18) k) ?_
  show Go p e below _ (s₁.setTop (mkF m 19 #[.val (.int p0)] [(.int (2 : Int32)), (.int p0)]))
  refine Go.of (fun _ k => XS.icmpYes X0.here hx rfl (pc0 := 19) (pc' := 26) rfl (hb hby d1_19) rfl (feq hc19).2 (by decide) (by decide) k) ?_
  show Go p e below _ (s₁.setTop (mkF m 26 #[.val (.int p0)] []))
  refine Go.of (fun _ k => XS.iloadN X0.here hx rfl (hb hby d1_26) rfl  k) ?_
  show Go p e below _ (s₁.setTop (mkF m 27 #[.val (.int p0)] [(.int p0)]))
  refine Go.of (fun _ k => XS.iconst X0.here hx rfl (hb hby d1_27) k) ?_
  show Go p e below _ (s₁.setTop (mkF m 28 #[.val (.int p0)] [(.int (3 : Int32)), (.int p0)]))
  refine Go.of (fun _ k => XS.icmpYes X0.here hx rfl (pc0 := 28) (pc' := 35) rfl (hb hby d1_28) rfl (feq hc28).2 (by decide) (by decide) k) ?_
  show Go p e below _ (s₁.setTop (mkF m 35 #[.val (.int p0)] []))
  refine Go.of (fun _ k => XS.iloadN X0.here hx rfl (hb hby d1_35) rfl  k) ?_
  show Go p e below _ (s₁.setTop (mkF m 36 #[.val (.int p0)] [(.int p0)]))
  refine Go.of (fun _ k => XS.iconst X0.here hx rfl (hb hby d1_36) k) ?_
  show Go p e below _ (s₁.setTop (mkF m 37 #[.val (.int p0)] [(.int (4 : Int32)), (.int p0)]))
  refine Go.of (fun _ k => XS.icmpYes X0.here hx rfl (pc0 := 37) (pc' := 44) rfl (hb hby d1_37) rfl (feq hc37).2 (by decide) (by decide) k) ?_
  show Go p e below _ (s₁.setTop (mkF m 44 #[.val (.int p0)] []))
  refine Go.of (fun _ k => XS.iloadN X0.here hx rfl (hb hby d1_44) rfl  k) ?_
  show Go p e below _ (s₁.setTop (mkF m 45 #[.val (.int p0)] [(.int p0)]))
  refine Go.of (fun _ k => XS.iconst X0.here hx rfl (hb hby d1_45) k) ?_
  show Go p e below _ (s₁.setTop (mkF m 46 #[.val (.int p0)] [(.int (5 : Int32)), (.int p0)]))
  refine Go.of (fun _ k => XS.icmpYes X0.here hx rfl (pc0 := 46) (pc' := 53) rfl (hb hby d1_46) rfl (feq hc46).2 (by decide) (by decide) k) ?_
  show Go p e below _ (s₁.setTop (mkF m 53 #[.val (.int p0)] []))
  refine Go.of (fun _ k => XS.iloadN X0.here hx rfl (hb hby d1_53) rfl  k) ?_
  show Go p e below _ (s₁.setTop (mkF m 54 #[.val (.int p0)] [(.int p0)]))
  refine Go.of (fun _ k => XS.bipush X0.here hx rfl (hb hby d1_54) k) ?_
  show Go p e below _ (s₁.setTop (mkF m 56 #[.val (.int p0)] [(.int (6 : Int32)), (.int p0)]))
  refine Go.of (fun _ k => XS.icmpYes X0.here hx rfl (pc0 := 56) (pc' := 63) rfl (hb hby d1_56) rfl (feq hc56).2 (by decide) (by decide) k) ?_
  show Go p e below _ (s₁.setTop (mkF m 63 #[.val (.int p0)] []))
  refine Go.of (fun _ k => XS.iloadN X0.here hx rfl (hb hby d1_63) rfl  k) ?_
  show Go p e below _ (s₁.setTop (mkF m 64 #[.val (.int p0)] [(.int p0)]))
  refine Go.of (fun _ k => XS.bipush X0.here hx rfl (hb hby d1_64) k) ?_
  show Go p e below _ (s₁.setTop (mkF m 66 #[.val (.int p0)] [(.int (7 : Int32)), (.int p0)]))
  refine Go.of (fun _ k => XS.icmpYes X0.here hx rfl (pc0 := 66) (pc' := 73) rfl (hb hby d1_66) rfl (feq hc66).2 (by decide) (by decide) k) ?_
  show Go p e below _ (s₁.setTop (mkF m 73 #[.val (.int p0)] []))
  refine Go.of (fun _ k => XS.iloadN X0.here hx rfl (hb hby d1_73) rfl  k) ?_
  show Go p e below _ (s₁.setTop (mkF m 74 #[.val (.int p0)] [(.int p0)]))
  refine Go.of (fun _ k => XS.bipush X0.here hx rfl (hb hby d1_74) k) ?_
  show Go p e below _ (s₁.setTop (mkF m 76 #[.val (.int p0)] [(.int (8 : Int32)), (.int p0)]))
  refine Go.of (fun _ k => XS.icmpYes X0.here hx rfl (pc0 := 76) (pc' := 83) rfl (hb hby d1_76) rfl (feq hc76).2 (by decide) (by decide) k) ?_
  show Go p e below _ (s₁.setTop (mkF m 83 #[.val (.int p0)] []))
  refine Go.of (fun _ k => XS.iloadN X0.here hx rfl (hb hby d1_83) rfl  k) ?_
  show Go p e below _ (s₁.setTop (mkF m 84 #[.val (.int p0)] [(.int p0)]))
  refine Go.of (fun _ k => XS.bipush X0.here hx rfl (hb hby d1_84) k) ?_
  show Go p e below _ (s₁.setTop (mkF m 86 #[.val (.int p0)] [(.int (9 : Int32)), (.int p0)]))
  refine Go.of (fun _ k => XS.icmpNo X0.here hx rfl (hb hby d1_86) rfl (teq hc86).2 k) ?_
  show Go p e below _ (s₁.setTop (mkF m 89 #[.val (.int p0)] []))
  obtain ⟨T1, X1, e1, st1⟩ := getS2 X0 hx hZ hown (host := "") (Or.inl (hw _ (List.mem_of_getElem? (i := 39) rfl))) Via.refl e0 S_SYNC_GROUP (g := (mkF m 89 #[.val (.int p0)] [])) rfl (hb hby d1_89)
  refine Go.of st1 ?_
  show Go p e below _ (T1.setTop (mkF m 92 #[.val (.int p0)] [(.ref w_SYNC_GROUP)]))
  obtain ⟨fs, hr, hrun, hended, hW, hsame⟩ := X1.leave (v := some (.ref w_SYNC_GROUP)) (fun h => by rw [Bd.returns] at h; cases h)
  refine Go.mk _ _ ?_ hrun hended ⟨_, _, rfl, ?_, ⟨_, rfl⟩, hW, hsame.mono (by decide) (by decide)⟩
  · exact retOut X1 hx Bd.returns rfl (Or.inr (Or.inr (Or.inr (Or.inr ⟨rfl, rfl, rfl⟩)))) (hb hby d1_92) hr
  · show Q1_9 Z p0 w_SYNC_GROUP h0 n0 _ T1.heap _
    rw [e1]
    exact ⟨rfl, N0, rfl⟩
theorem d1_93 : decode method_2_code 93 = .ok (.iload_n 0, 1) := by decide +kernel
theorem d1_94 : decode method_2_code 94 = .ok (.bipush 10, 2) := by decide +kernel
theorem d1_96 : decode method_2_code 96 = .ok (.if_icmp .ne 7, 3) := by decide +kernel
theorem d1_99 : decode method_2_code 99 = .ok (.getstatic 40, 3) := by decide +kernel
theorem d1_102 : decode method_2_code 102 = .ok (.areturn, 1) := by decide +kernel
def Q1_10 (Z : State) (p0 : Int32) (w_DESCRIBE_GROUPS : Addr) (h0 : Heap) (n0 : Nat) (v : Option Value) (h : Heap) (L : List Loc) : Prop := v = some (.ref w_DESCRIBE_GROUPS) ∧ Fr n0 L ∧ h = h0
set_option maxRecDepth 65536 in
set_option maxHeartbeats 40000000 in
theorem rm1_10 (l : Launch) (Z : State) (a0 : Array Value) (hw : ∀ d ∈ tables_1, d.before a0 Z = true) (ws : List Jvm.Cond) (p0 : Int32) (w_DESCRIBE_GROUPS : Addr) (h0 : Heap) (n0 : Nat) (Z0 : n0 ≤ h0.size) (hc1 : ¬ (p0 = (0 : Int32))) (hc10 : ¬ (p0 = (1 : Int32))) (hc19 : ¬ (p0 = (2 : Int32))) (hc28 : ¬ (p0 = (3 : Int32))) (hc37 : ¬ (p0 = (4 : Int32))) (hc46 : ¬ (p0 = (5 : Int32))) (hc56 : ¬ (p0 = (6 : Int32))) (hc66 : ¬ (p0 = (7 : Int32))) (hc76 : ¬ (p0 = (8 : Int32))) (hc86 : ¬ (p0 = (9 : Int32))) (hc96 : p0 = (10 : Int32)) (S_DESCRIBE_GROUPS : Sta Z h0 "com/example/liveness/liveness/protocol/Api" "DESCRIBE_GROUPS" "Lcom/example/liveness/liveness/protocol/Api;" (.ref w_DESCRIBE_GROUPS)) :
    MetFree l (⟨"com/example/liveness/liveness/protocol/ApiIsFlexiblePinLaw", "pick", "(I)Lcom/example/liveness/liveness/protocol/Api;"⟩ : MethodName) (head1 (Jvm.Cond.code (⟨"com/example/liveness/liveness/protocol/ApiIsFlexiblePinLaw", "pick", "(I)Lcom/example/liveness/liveness/protocol/Api;"⟩ : MethodName) method_2_code 1 (some (.object "com/example/liveness/liveness/protocol/Api")) :: ws) ({ frames := 0, cells := 0, slots := 0, locals := 0 } : Room)) (fun a U => a = #[(.int p0)] ∧ Z.Warmed39 U.vm ∧ U.heap = h0) (fun _ _ _ _ _ => True) (fun _ U o U' => ∃ v L, o = .returned v ∧ Q1_10 Z p0 w_DESCRIBE_GROUPS h0 n0 v U'.heap L ∧ FrameEnd U o U' L ({ frames := 0, cells := 0, slots := 0, locals := 0 } : Room).cells ({ frames := 0, cells := 0, slots := 0, locals := 0 } : Room).slots) := by
  refine MetFree.of_bodySF (plainFor_of_name pn_com_example_liveness_liveness_protocol_ApiIsFlexiblePinLaw) hisR ?_
  intro p e s m args below meth c s₁ Bd hml0 hP hK
  obtain ⟨rfl, hZ, hh⟩ := hP
  have hx := Bd.exec
  have hby := Bd.bytes
  have hml : c.maxLocals = 1 := hml0
  have hown : s.vm.findClass "com/example/liveness/liveness/protocol/ApiIsFlexiblePinLaw" = some m.cls := findClass_of_methodNamed Bd.named
  have hnm := (name_of_methodNamed Bd.named Bd.method).1
  have X0 : Stand p l e ({ frames := 0, cells := 0, slots := 0, locals := 0 } : Room) s m #[(.int p0)] below meth c s₁ [] 0 0 := Stand.of_body Bd
  have e0 : s₁.heap = h0 := by rw [← hh, Bd.state]; rfl
  have N0 := Fr.nil n0
  show Go p e below (fun o U' => ∃ v L, o = .returned v ∧ Q1_10 Z p0 w_DESCRIBE_GROUPS h0 n0 v U'.heap L ∧ FrameEnd s o U' L ({ frames := 0, cells := 0, slots := 0, locals := 0 } : Room).cells ({ frames := 0, cells := 0, slots := 0, locals := 0 } : Room).slots) (s₁.setTop (entryFrame m #[(.int p0)] 1))
  refine Go.of (fun _ k => castTop (ef_1 m p0) k) ?_
  show Go p e below _ (s₁.setTop (mkF m 0 #[.val (.int p0)] []))
  refine Go.of (fun _ k => XS.iloadN X0.here hx rfl (hb hby d1_0) rfl  k) ?_
  show Go p e below _ (s₁.setTop (mkF m 1 #[.val (.int p0)] [(.int p0)]))
  refine Go.of (fun _ k => XS.ifYes X0.here hx rfl (pc0 := 1) (pc' := 8) rfl (hb hby d1_1) rfl ((if0 _ _).trans (feq hc1).2) (by decide) (by decide) k) ?_
  show Go p e below _ (s₁.setTop (mkF m 8 #[.val (.int p0)] []))
  refine Go.of (fun _ k => XS.iloadN X0.here hx rfl (hb hby d1_8) rfl  k) ?_
  show Go p e below _ (s₁.setTop (mkF m 9 #[.val (.int p0)] [(.int p0)]))
  refine Go.of (fun _ k => XS.iconst X0.here hx rfl (hb hby d1_9) k) ?_
  show Go p e below _ (s₁.setTop (mkF m 10 #[.val (.int p0)] [(.int (1 : Int32)), (.int p0)]))
  refine Go.of (fun _ k => XS.icmpYes X0.here hx rfl (pc0 := 10) (pc' := 17) rfl (hb hby d1_10) rfl (feq hc10).2 (by decide) (by decide) k) ?_
  show Go p e below _ (s₁.setTop (mkF m 17 #[.val (.int p0)] []))
  refine Go.of (fun _ k => XS.iloadN X0.here hx rfl (hb hby d1_17) rfl  k) ?_
  show Go p e below _ (s₁.setTop (mkF m 18 #[.val (.int p0)] [(.int p0)]))
  refine Go.of (fun _ k => XS.iconst X0.here hx rfl (hb hby d1_18) k) ?_
  show Go p e below _ (s₁.setTop (mkF m 19 #[.val (.int p0)] [(.int (2 : Int32)), (.int p0)]))
  refine Go.of (fun _ k => XS.icmpYes X0.here hx rfl (pc0 := 19) (pc' := 26) rfl (hb hby d1_19) rfl (feq hc19).2 (by decide) (by decide) k) ?_
  show Go p e below _ (s₁.setTop (mkF m 26 #[.val (.int p0)] []))
  refine Go.of (fun _ k => XS.iloadN X0.here hx rfl (hb hby d1_26) rfl  k) ?_
  show Go p e below _ (s₁.setTop (mkF m 27 #[.val (.int p0)] [(.int p0)]))
  refine Go.of (fun _ k => XS.iconst X0.here hx rfl (hb hby d1_27) k) ?_
  show Go p e below _ (s₁.setTop (mkF m 28 #[.val (.int p0)] [(.int (3 : Int32)), (.int p0)]))
  refine Go.of (fun _ k => XS.icmpYes X0.here hx rfl (pc0 := 28) (pc' := 35) rfl (hb hby d1_28) rfl (feq hc28).2 (by decide) (by decide) k) ?_
  show Go p e below _ (s₁.setTop (mkF m 35 #[.val (.int p0)] []))
  refine Go.of (fun _ k => XS.iloadN X0.here hx rfl (hb hby d1_35) rfl  k) ?_
  show Go p e below _ (s₁.setTop (mkF m 36 #[.val (.int p0)] [(.int p0)]))
  refine Go.of (fun _ k => XS.iconst X0.here hx rfl (hb hby d1_36) k) ?_
  show Go p e below _ (s₁.setTop (mkF m 37 #[.val (.int p0)] [(.int (4 : Int32)), (.int p0)]))
  refine Go.of (fun _ k => XS.icmpYes X0.here hx rfl (pc0 := 37) (pc' := 44) rfl (hb hby d1_37) rfl (feq hc37).2 (by decide) (by decide) k) ?_
  show Go p e below _ (s₁.setTop (mkF m 44 #[.val (.int p0)] []))
  refine Go.of (fun _ k => XS.iloadN X0.here hx rfl (hb hby d1_44) rfl  k) ?_
  show Go p e below _ (s₁.setTop (mkF m 45 #[.val (.int p0)] [(.int p0)]))
  refine Go.of (fun _ k => XS.iconst X0.here hx rfl (hb hby d1_45) k) ?_
  show Go p e below _ (s₁.setTop (mkF m 46 #[.val (.int p0)] [(.int (5 : Int32)), (.int p0)]))
  refine Go.of (fun _ k => XS.icmpYes X0.here hx rfl (pc0 := 46) (pc' := 53) rfl (hb hby d1_46) rfl (feq hc46).2 (by decide) (by decide) k) ?_
  show Go p e below _ (s₁.setTop (mkF m 53 #[.val (.int p0)] []))
  refine Go.of (fun _ k => XS.iloadN X0.here hx rfl (hb hby d1_53) rfl  k) ?_
  show Go p e below _ (s₁.setTop (mkF m 54 #[.val (.int p0)] [(.int p0)]))
  refine Go.of (fun _ k => XS.bipush X0.here hx rfl (hb hby d1_54) k) ?_
  show Go p e below _ (s₁.setTop (mkF m 56 #[.val (.int p0)] [(.int (6 : Int32)), (.int p0)]))
  refine Go.of (fun _ k => XS.icmpYes X0.here hx rfl (pc0 := 56) (pc' := 63) rfl (hb hby d1_56) rfl (feq hc56).2 (by decide) (by decide) k) ?_
  show Go p e below _ (s₁.setTop (mkF m 63 #[.val (.int p0)] []))
  refine Go.of (fun _ k => XS.iloadN X0.here hx rfl (hb hby d1_63) rfl  k) ?_
  show Go p e below _ (s₁.setTop (mkF m 64 #[.val (.int p0)] [(.int p0)]))
  refine Go.of (fun _ k => XS.bipush X0.here hx rfl (hb hby d1_64) k) ?_
  show Go p e below _ (s₁.setTop (mkF m 66 #[.val (.int p0)] [(.int (7 : Int32)), (.int p0)]))
  refine Go.of (fun _ k => XS.icmpYes X0.here hx rfl (pc0 := 66) (pc' := 73) rfl (hb hby d1_66) rfl (feq hc66).2 (by decide) (by decide) k) ?_
  show Go p e below _ (s₁.setTop (mkF m 73 #[.val (.int p0)] []))
  refine Go.of (fun _ k => XS.iloadN X0.here hx rfl (hb hby d1_73) rfl  k) ?_
  show Go p e below _ (s₁.setTop (mkF m 74 #[.val (.int p0)] [(.int p0)]))
  refine Go.of (fun _ k => XS.bipush X0.here hx rfl (hb hby d1_74) k) ?_
  show Go p e below _ (s₁.setTop (mkF m 76 #[.val (.int p0)] [(.int (8 : Int32)), (.int p0)]))
  refine Go.of (fun _ k => XS.icmpYes X0.here hx rfl (pc0 := 76) (pc' := 83) rfl (hb hby d1_76) rfl (feq hc76).2 (by decide) (by decide) k) ?_
  show Go p e below _ (s₁.setTop (mkF m 83 #[.val (.int p0)] []))
  refine Go.of (fun _ k => XS.iloadN X0.here hx rfl (hb hby d1_83) rfl  k) ?_
  show Go p e below _ (s₁.setTop (mkF m 84 #[.val (.int p0)] [(.int p0)]))
  refine Go.of (fun _ k => XS.bipush X0.here hx rfl (hb hby d1_84) k) ?_
  show Go p e below _ (s₁.setTop (mkF m 86 #[.val (.int p0)] [(.int (9 : Int32)), (.int p0)]))
  refine Go.of (fun _ k => XS.icmpYes X0.here hx rfl (pc0 := 86) (pc' := 93) rfl (hb hby d1_86) rfl (feq hc86).2 (by decide) (by decide) k) ?_
  show Go p e below _ (s₁.setTop (mkF m 93 #[.val (.int p0)] []))
  refine Go.of (fun _ k => XS.iloadN X0.here hx rfl (hb hby d1_93) rfl  k) ?_
  show Go p e below _ (s₁.setTop (mkF m 94 #[.val (.int p0)] [(.int p0)]))
  refine Go.of (fun _ k => XS.bipush X0.here hx rfl (hb hby d1_94) k) ?_
  show Go p e below _ (s₁.setTop (mkF m 96 #[.val (.int p0)] [(.int (10 : Int32)), (.int p0)]))
  refine Go.of (fun _ k => XS.icmpNo X0.here hx rfl (hb hby d1_96) rfl (teq hc96).2 k) ?_
  show Go p e below _ (s₁.setTop (mkF m 99 #[.val (.int p0)] []))
  obtain ⟨T1, X1, e1, st1⟩ := getS2 X0 hx hZ hown (host := "") (Or.inl (hw _ (List.mem_of_getElem? (i := 17) rfl))) Via.refl e0 S_DESCRIBE_GROUPS (g := (mkF m 99 #[.val (.int p0)] [])) rfl (hb hby d1_99)
  refine Go.of st1 ?_
  show Go p e below _ (T1.setTop (mkF m 102 #[.val (.int p0)] [(.ref w_DESCRIBE_GROUPS)]))
  obtain ⟨fs, hr, hrun, hended, hW, hsame⟩ := X1.leave (v := some (.ref w_DESCRIBE_GROUPS)) (fun h => by rw [Bd.returns] at h; cases h)
  refine Go.mk _ _ ?_ hrun hended ⟨_, _, rfl, ?_, ⟨_, rfl⟩, hW, hsame.mono (by decide) (by decide)⟩
  · exact retOut X1 hx Bd.returns rfl (Or.inr (Or.inr (Or.inr (Or.inr ⟨rfl, rfl, rfl⟩)))) (hb hby d1_102) hr
  · show Q1_10 Z p0 w_DESCRIBE_GROUPS h0 n0 _ T1.heap _
    rw [e1]
    exact ⟨rfl, N0, rfl⟩
theorem d1_103 : decode method_2_code 103 = .ok (.iload_n 0, 1) := by decide +kernel
theorem d1_104 : decode method_2_code 104 = .ok (.bipush 11, 2) := by decide +kernel
theorem d1_106 : decode method_2_code 106 = .ok (.if_icmp .ne 7, 3) := by decide +kernel
theorem d1_109 : decode method_2_code 109 = .ok (.getstatic 43, 3) := by decide +kernel
theorem d1_112 : decode method_2_code 112 = .ok (.areturn, 1) := by decide +kernel
def Q1_11 (Z : State) (p0 : Int32) (w_LIST_GROUPS : Addr) (h0 : Heap) (n0 : Nat) (v : Option Value) (h : Heap) (L : List Loc) : Prop := v = some (.ref w_LIST_GROUPS) ∧ Fr n0 L ∧ h = h0
set_option maxRecDepth 65536 in
set_option maxHeartbeats 40000000 in
theorem rm1_11 (l : Launch) (Z : State) (a0 : Array Value) (hw : ∀ d ∈ tables_1, d.before a0 Z = true) (ws : List Jvm.Cond) (p0 : Int32) (w_LIST_GROUPS : Addr) (h0 : Heap) (n0 : Nat) (Z0 : n0 ≤ h0.size) (hc1 : ¬ (p0 = (0 : Int32))) (hc10 : ¬ (p0 = (1 : Int32))) (hc19 : ¬ (p0 = (2 : Int32))) (hc28 : ¬ (p0 = (3 : Int32))) (hc37 : ¬ (p0 = (4 : Int32))) (hc46 : ¬ (p0 = (5 : Int32))) (hc56 : ¬ (p0 = (6 : Int32))) (hc66 : ¬ (p0 = (7 : Int32))) (hc76 : ¬ (p0 = (8 : Int32))) (hc86 : ¬ (p0 = (9 : Int32))) (hc96 : ¬ (p0 = (10 : Int32))) (hc106 : p0 = (11 : Int32)) (S_LIST_GROUPS : Sta Z h0 "com/example/liveness/liveness/protocol/Api" "LIST_GROUPS" "Lcom/example/liveness/liveness/protocol/Api;" (.ref w_LIST_GROUPS)) :
    MetFree l (⟨"com/example/liveness/liveness/protocol/ApiIsFlexiblePinLaw", "pick", "(I)Lcom/example/liveness/liveness/protocol/Api;"⟩ : MethodName) (head1 (Jvm.Cond.code (⟨"com/example/liveness/liveness/protocol/ApiIsFlexiblePinLaw", "pick", "(I)Lcom/example/liveness/liveness/protocol/Api;"⟩ : MethodName) method_2_code 1 (some (.object "com/example/liveness/liveness/protocol/Api")) :: ws) ({ frames := 0, cells := 0, slots := 0, locals := 0 } : Room)) (fun a U => a = #[(.int p0)] ∧ Z.Warmed39 U.vm ∧ U.heap = h0) (fun _ _ _ _ _ => True) (fun _ U o U' => ∃ v L, o = .returned v ∧ Q1_11 Z p0 w_LIST_GROUPS h0 n0 v U'.heap L ∧ FrameEnd U o U' L ({ frames := 0, cells := 0, slots := 0, locals := 0 } : Room).cells ({ frames := 0, cells := 0, slots := 0, locals := 0 } : Room).slots) := by
  refine MetFree.of_bodySF (plainFor_of_name pn_com_example_liveness_liveness_protocol_ApiIsFlexiblePinLaw) hisR ?_
  intro p e s m args below meth c s₁ Bd hml0 hP hK
  obtain ⟨rfl, hZ, hh⟩ := hP
  have hx := Bd.exec
  have hby := Bd.bytes
  have hml : c.maxLocals = 1 := hml0
  have hown : s.vm.findClass "com/example/liveness/liveness/protocol/ApiIsFlexiblePinLaw" = some m.cls := findClass_of_methodNamed Bd.named
  have hnm := (name_of_methodNamed Bd.named Bd.method).1
  have X0 : Stand p l e ({ frames := 0, cells := 0, slots := 0, locals := 0 } : Room) s m #[(.int p0)] below meth c s₁ [] 0 0 := Stand.of_body Bd
  have e0 : s₁.heap = h0 := by rw [← hh, Bd.state]; rfl
  have N0 := Fr.nil n0
  show Go p e below (fun o U' => ∃ v L, o = .returned v ∧ Q1_11 Z p0 w_LIST_GROUPS h0 n0 v U'.heap L ∧ FrameEnd s o U' L ({ frames := 0, cells := 0, slots := 0, locals := 0 } : Room).cells ({ frames := 0, cells := 0, slots := 0, locals := 0 } : Room).slots) (s₁.setTop (entryFrame m #[(.int p0)] 1))
  refine Go.of (fun _ k => castTop (ef_1 m p0) k) ?_
  show Go p e below _ (s₁.setTop (mkF m 0 #[.val (.int p0)] []))
  refine Go.of (fun _ k => XS.iloadN X0.here hx rfl (hb hby d1_0) rfl  k) ?_
  show Go p e below _ (s₁.setTop (mkF m 1 #[.val (.int p0)] [(.int p0)]))
  refine Go.of (fun _ k => XS.ifYes X0.here hx rfl (pc0 := 1) (pc' := 8) rfl (hb hby d1_1) rfl ((if0 _ _).trans (feq hc1).2) (by decide) (by decide) k) ?_
  show Go p e below _ (s₁.setTop (mkF m 8 #[.val (.int p0)] []))
  refine Go.of (fun _ k => XS.iloadN X0.here hx rfl (hb hby d1_8) rfl  k) ?_
  show Go p e below _ (s₁.setTop (mkF m 9 #[.val (.int p0)] [(.int p0)]))
  refine Go.of (fun _ k => XS.iconst X0.here hx rfl (hb hby d1_9) k) ?_
  show Go p e below _ (s₁.setTop (mkF m 10 #[.val (.int p0)] [(.int (1 : Int32)), (.int p0)]))
  refine Go.of (fun _ k => XS.icmpYes X0.here hx rfl (pc0 := 10) (pc' := 17) rfl (hb hby d1_10) rfl (feq hc10).2 (by decide) (by decide) k) ?_
  show Go p e below _ (s₁.setTop (mkF m 17 #[.val (.int p0)] []))
  refine Go.of (fun _ k => XS.iloadN X0.here hx rfl (hb hby d1_17) rfl  k) ?_
  show Go p e below _ (s₁.setTop (mkF m 18 #[.val (.int p0)] [(.int p0)]))
  refine Go.of (fun _ k => XS.iconst X0.here hx rfl (hb hby d1_18) k) ?_
  show Go p e below _ (s₁.setTop (mkF m 19 #[.val (.int p0)] [(.int (2 : Int32)), (.int p0)]))
  refine Go.of (fun _ k => XS.icmpYes X0.here hx rfl (pc0 := 19) (pc' := 26) rfl (hb hby d1_19) rfl (feq hc19).2 (by decide) (by decide) k) ?_
  show Go p e below _ (s₁.setTop (mkF m 26 #[.val (.int p0)] []))
  refine Go.of (fun _ k => XS.iloadN X0.here hx rfl (hb hby d1_26) rfl  k) ?_
  show Go p e below _ (s₁.setTop (mkF m 27 #[.val (.int p0)] [(.int p0)]))
  refine Go.of (fun _ k => XS.iconst X0.here hx rfl (hb hby d1_27) k) ?_
  show Go p e below _ (s₁.setTop (mkF m 28 #[.val (.int p0)] [(.int (3 : Int32)), (.int p0)]))
  refine Go.of (fun _ k => XS.icmpYes X0.here hx rfl (pc0 := 28) (pc' := 35) rfl (hb hby d1_28) rfl (feq hc28).2 (by decide) (by decide) k) ?_
  show Go p e below _ (s₁.setTop (mkF m 35 #[.val (.int p0)] []))
  refine Go.of (fun _ k => XS.iloadN X0.here hx rfl (hb hby d1_35) rfl  k) ?_
  show Go p e below _ (s₁.setTop (mkF m 36 #[.val (.int p0)] [(.int p0)]))
  refine Go.of (fun _ k => XS.iconst X0.here hx rfl (hb hby d1_36) k) ?_
  show Go p e below _ (s₁.setTop (mkF m 37 #[.val (.int p0)] [(.int (4 : Int32)), (.int p0)]))
  refine Go.of (fun _ k => XS.icmpYes X0.here hx rfl (pc0 := 37) (pc' := 44) rfl (hb hby d1_37) rfl (feq hc37).2 (by decide) (by decide) k) ?_
  show Go p e below _ (s₁.setTop (mkF m 44 #[.val (.int p0)] []))
  refine Go.of (fun _ k => XS.iloadN X0.here hx rfl (hb hby d1_44) rfl  k) ?_
  show Go p e below _ (s₁.setTop (mkF m 45 #[.val (.int p0)] [(.int p0)]))
  refine Go.of (fun _ k => XS.iconst X0.here hx rfl (hb hby d1_45) k) ?_
  show Go p e below _ (s₁.setTop (mkF m 46 #[.val (.int p0)] [(.int (5 : Int32)), (.int p0)]))
  refine Go.of (fun _ k => XS.icmpYes X0.here hx rfl (pc0 := 46) (pc' := 53) rfl (hb hby d1_46) rfl (feq hc46).2 (by decide) (by decide) k) ?_
  show Go p e below _ (s₁.setTop (mkF m 53 #[.val (.int p0)] []))
  refine Go.of (fun _ k => XS.iloadN X0.here hx rfl (hb hby d1_53) rfl  k) ?_
  show Go p e below _ (s₁.setTop (mkF m 54 #[.val (.int p0)] [(.int p0)]))
  refine Go.of (fun _ k => XS.bipush X0.here hx rfl (hb hby d1_54) k) ?_
  show Go p e below _ (s₁.setTop (mkF m 56 #[.val (.int p0)] [(.int (6 : Int32)), (.int p0)]))
  refine Go.of (fun _ k => XS.icmpYes X0.here hx rfl (pc0 := 56) (pc' := 63) rfl (hb hby d1_56) rfl (feq hc56).2 (by decide) (by decide) k) ?_
  show Go p e below _ (s₁.setTop (mkF m 63 #[.val (.int p0)] []))
  refine Go.of (fun _ k => XS.iloadN X0.here hx rfl (hb hby d1_63) rfl  k) ?_
  show Go p e below _ (s₁.setTop (mkF m 64 #[.val (.int p0)] [(.int p0)]))
  refine Go.of (fun _ k => XS.bipush X0.here hx rfl (hb hby d1_64) k) ?_
  show Go p e below _ (s₁.setTop (mkF m 66 #[.val (.int p0)] [(.int (7 : Int32)), (.int p0)]))
  refine Go.of (fun _ k => XS.icmpYes X0.here hx rfl (pc0 := 66) (pc' := 73) rfl (hb hby d1_66) rfl (feq hc66).2 (by decide) (by decide) k) ?_
  show Go p e below _ (s₁.setTop (mkF m 73 #[.val (.int p0)] []))
  refine Go.of (fun _ k => XS.iloadN X0.here hx rfl (hb hby d1_73) rfl  k) ?_
  show Go p e below _ (s₁.setTop (mkF m 74 #[.val (.int p0)] [(.int p0)]))
  refine Go.of (fun _ k => XS.bipush X0.here hx rfl (hb hby d1_74) k) ?_
  show Go p e below _ (s₁.setTop (mkF m 76 #[.val (.int p0)] [(.int (8 : Int32)), (.int p0)]))
  refine Go.of (fun _ k => XS.icmpYes X0.here hx rfl (pc0 := 76) (pc' := 83) rfl (hb hby d1_76) rfl (feq hc76).2 (by decide) (by decide) k) ?_
  show Go p e below _ (s₁.setTop (mkF m 83 #[.val (.int p0)] []))
  refine Go.of (fun _ k => XS.iloadN X0.here hx rfl (hb hby d1_83) rfl  k) ?_
  show Go p e below _ (s₁.setTop (mkF m 84 #[.val (.int p0)] [(.int p0)]))
  refine Go.of (fun _ k => XS.bipush X0.here hx rfl (hb hby d1_84) k) ?_
  show Go p e below _ (s₁.setTop (mkF m 86 #[.val (.int p0)] [(.int (9 : Int32)), (.int p0)]))
  refine Go.of (fun _ k => XS.icmpYes X0.here hx rfl (pc0 := 86) (pc' := 93) rfl (hb hby d1_86) rfl (feq hc86).2 (by decide) (by decide) k) ?_
  show Go p e below _ (s₁.setTop (mkF m 93 #[.val (.int p0)] []))
  refine Go.of (fun _ k => XS.iloadN X0.here hx rfl (hb hby d1_93) rfl  k) ?_
  show Go p e below _ (s₁.setTop (mkF m 94 #[.val (.int p0)] [(.int p0)]))
  refine Go.of (fun _ k => XS.bipush X0.here hx rfl (hb hby d1_94) k) ?_
  show Go p e below _ (s₁.setTop (mkF m 96 #[.val (.int p0)] [(.int (10 : Int32)), (.int p0)]))
  refine Go.of (fun _ k => XS.icmpYes X0.here hx rfl (pc0 := 96) (pc' := 103) rfl (hb hby d1_96) rfl (feq hc96).2 (by decide) (by decide) k) ?_
  show Go p e below _ (s₁.setTop (mkF m 103 #[.val (.int p0)] []))
  refine Go.of (fun _ k => XS.iloadN X0.here hx rfl (hb hby d1_103) rfl  k) ?_
  show Go p e below _ (s₁.setTop (mkF m 104 #[.val (.int p0)] [(.int p0)]))
  refine Go.of (fun _ k => XS.bipush X0.here hx rfl (hb hby d1_104) k) ?_
  show Go p e below _ (s₁.setTop (mkF m 106 #[.val (.int p0)] [(.int (11 : Int32)), (.int p0)]))
  refine Go.of (fun _ k => XS.icmpNo X0.here hx rfl (hb hby d1_106) rfl (teq hc106).2 k) ?_
  show Go p e below _ (s₁.setTop (mkF m 109 #[.val (.int p0)] []))
  obtain ⟨T1, X1, e1, st1⟩ := getS2 X0 hx hZ hown (host := "") (Or.inl (hw _ (List.mem_of_getElem? (i := 23) rfl))) Via.refl e0 S_LIST_GROUPS (g := (mkF m 109 #[.val (.int p0)] [])) rfl (hb hby d1_109)
  refine Go.of st1 ?_
  show Go p e below _ (T1.setTop (mkF m 112 #[.val (.int p0)] [(.ref w_LIST_GROUPS)]))
  obtain ⟨fs, hr, hrun, hended, hW, hsame⟩ := X1.leave (v := some (.ref w_LIST_GROUPS)) (fun h => by rw [Bd.returns] at h; cases h)
  refine Go.mk _ _ ?_ hrun hended ⟨_, _, rfl, ?_, ⟨_, rfl⟩, hW, hsame.mono (by decide) (by decide)⟩
  · exact retOut X1 hx Bd.returns rfl (Or.inr (Or.inr (Or.inr (Or.inr ⟨rfl, rfl, rfl⟩)))) (hb hby d1_112) hr
  · show Q1_11 Z p0 w_LIST_GROUPS h0 n0 _ T1.heap _
    rw [e1]
    exact ⟨rfl, N0, rfl⟩
theorem d1_113 : decode method_2_code 113 = .ok (.iload_n 0, 1) := by decide +kernel
theorem d1_114 : decode method_2_code 114 = .ok (.bipush 12, 2) := by decide +kernel
theorem d1_116 : decode method_2_code 116 = .ok (.if_icmp .ne 7, 3) := by decide +kernel
theorem d1_119 : decode method_2_code 119 = .ok (.getstatic 46, 3) := by decide +kernel
theorem d1_122 : decode method_2_code 122 = .ok (.areturn, 1) := by decide +kernel
def Q1_12 (Z : State) (p0 : Int32) (w_API_VERSIONS : Addr) (h0 : Heap) (n0 : Nat) (v : Option Value) (h : Heap) (L : List Loc) : Prop := v = some (.ref w_API_VERSIONS) ∧ Fr n0 L ∧ h = h0
set_option maxRecDepth 65536 in
set_option maxHeartbeats 40000000 in
theorem rm1_12 (l : Launch) (Z : State) (a0 : Array Value) (hw : ∀ d ∈ tables_1, d.before a0 Z = true) (ws : List Jvm.Cond) (p0 : Int32) (w_API_VERSIONS : Addr) (h0 : Heap) (n0 : Nat) (Z0 : n0 ≤ h0.size) (hc1 : ¬ (p0 = (0 : Int32))) (hc10 : ¬ (p0 = (1 : Int32))) (hc19 : ¬ (p0 = (2 : Int32))) (hc28 : ¬ (p0 = (3 : Int32))) (hc37 : ¬ (p0 = (4 : Int32))) (hc46 : ¬ (p0 = (5 : Int32))) (hc56 : ¬ (p0 = (6 : Int32))) (hc66 : ¬ (p0 = (7 : Int32))) (hc76 : ¬ (p0 = (8 : Int32))) (hc86 : ¬ (p0 = (9 : Int32))) (hc96 : ¬ (p0 = (10 : Int32))) (hc106 : ¬ (p0 = (11 : Int32))) (hc116 : p0 = (12 : Int32)) (S_API_VERSIONS : Sta Z h0 "com/example/liveness/liveness/protocol/Api" "API_VERSIONS" "Lcom/example/liveness/liveness/protocol/Api;" (.ref w_API_VERSIONS)) :
    MetFree l (⟨"com/example/liveness/liveness/protocol/ApiIsFlexiblePinLaw", "pick", "(I)Lcom/example/liveness/liveness/protocol/Api;"⟩ : MethodName) (head1 (Jvm.Cond.code (⟨"com/example/liveness/liveness/protocol/ApiIsFlexiblePinLaw", "pick", "(I)Lcom/example/liveness/liveness/protocol/Api;"⟩ : MethodName) method_2_code 1 (some (.object "com/example/liveness/liveness/protocol/Api")) :: ws) ({ frames := 0, cells := 0, slots := 0, locals := 0 } : Room)) (fun a U => a = #[(.int p0)] ∧ Z.Warmed39 U.vm ∧ U.heap = h0) (fun _ _ _ _ _ => True) (fun _ U o U' => ∃ v L, o = .returned v ∧ Q1_12 Z p0 w_API_VERSIONS h0 n0 v U'.heap L ∧ FrameEnd U o U' L ({ frames := 0, cells := 0, slots := 0, locals := 0 } : Room).cells ({ frames := 0, cells := 0, slots := 0, locals := 0 } : Room).slots) := by
  refine MetFree.of_bodySF (plainFor_of_name pn_com_example_liveness_liveness_protocol_ApiIsFlexiblePinLaw) hisR ?_
  intro p e s m args below meth c s₁ Bd hml0 hP hK
  obtain ⟨rfl, hZ, hh⟩ := hP
  have hx := Bd.exec
  have hby := Bd.bytes
  have hml : c.maxLocals = 1 := hml0
  have hown : s.vm.findClass "com/example/liveness/liveness/protocol/ApiIsFlexiblePinLaw" = some m.cls := findClass_of_methodNamed Bd.named
  have hnm := (name_of_methodNamed Bd.named Bd.method).1
  have X0 : Stand p l e ({ frames := 0, cells := 0, slots := 0, locals := 0 } : Room) s m #[(.int p0)] below meth c s₁ [] 0 0 := Stand.of_body Bd
  have e0 : s₁.heap = h0 := by rw [← hh, Bd.state]; rfl
  have N0 := Fr.nil n0
  show Go p e below (fun o U' => ∃ v L, o = .returned v ∧ Q1_12 Z p0 w_API_VERSIONS h0 n0 v U'.heap L ∧ FrameEnd s o U' L ({ frames := 0, cells := 0, slots := 0, locals := 0 } : Room).cells ({ frames := 0, cells := 0, slots := 0, locals := 0 } : Room).slots) (s₁.setTop (entryFrame m #[(.int p0)] 1))
  refine Go.of (fun _ k => castTop (ef_1 m p0) k) ?_
  show Go p e below _ (s₁.setTop (mkF m 0 #[.val (.int p0)] []))
  refine Go.of (fun _ k => XS.iloadN X0.here hx rfl (hb hby d1_0) rfl  k) ?_
  show Go p e below _ (s₁.setTop (mkF m 1 #[.val (.int p0)] [(.int p0)]))
  refine Go.of (fun _ k => XS.ifYes X0.here hx rfl (pc0 := 1) (pc' := 8) rfl (hb hby d1_1) rfl ((if0 _ _).trans (feq hc1).2) (by decide) (by decide) k) ?_
  show Go p e below _ (s₁.setTop (mkF m 8 #[.val (.int p0)] []))
  refine Go.of (fun _ k => XS.iloadN X0.here hx rfl (hb hby d1_8) rfl  k) ?_
  show Go p e below _ (s₁.setTop (mkF m 9 #[.val (.int p0)] [(.int p0)]))
  refine Go.of (fun _ k => XS.iconst X0.here hx rfl (hb hby d1_9) k) ?_
  show Go p e below _ (s₁.setTop (mkF m 10 #[.val (.int p0)] [(.int (1 : Int32)), (.int p0)]))
  refine Go.of (fun _ k => XS.icmpYes X0.here hx rfl (pc0 := 10) (pc' := 17) rfl (hb hby d1_10) rfl (feq hc10).2 (by decide) (by decide) k) ?_
  show Go p e below _ (s₁.setTop (mkF m 17 #[.val (.int p0)] []))
  refine Go.of (fun _ k => XS.iloadN X0.here hx rfl (hb hby d1_17) rfl  k) ?_
  show Go p e below _ (s₁.setTop (mkF m 18 #[.val (.int p0)] [(.int p0)]))
  refine Go.of (fun _ k => XS.iconst X0.here hx rfl (hb hby d1_18) k) ?_
  show Go p e below _ (s₁.setTop (mkF m 19 #[.val (.int p0)] [(.int (2 : Int32)), (.int p0)]))
  refine Go.of (fun _ k => XS.icmpYes X0.here hx rfl (pc0 := 19) (pc' := 26) rfl (hb hby d1_19) rfl (feq hc19).2 (by decide) (by decide) k) ?_
  show Go p e below _ (s₁.setTop (mkF m 26 #[.val (.int p0)] []))
  refine Go.of (fun _ k => XS.iloadN X0.here hx rfl (hb hby d1_26) rfl  k) ?_
  show Go p e below _ (s₁.setTop (mkF m 27 #[.val (.int p0)] [(.int p0)]))
  refine Go.of (fun _ k => XS.iconst X0.here hx rfl (hb hby d1_27) k) ?_
  show Go p e below _ (s₁.setTop (mkF m 28 #[.val (.int p0)] [(.int (3 : Int32)), (.int p0)]))
  refine Go.of (fun _ k => XS.icmpYes X0.here hx rfl (pc0 := 28) (pc' := 35) rfl (hb hby d1_28) rfl (feq hc28).2 (by decide) (by decide) k) ?_
  show Go p e below _ (s₁.setTop (mkF m 35 #[.val (.int p0)] []))
  refine Go.of (fun _ k => XS.iloadN X0.here hx rfl (hb hby d1_35) rfl  k) ?_
  show Go p e below _ (s₁.setTop (mkF m 36 #[.val (.int p0)] [(.int p0)]))
  refine Go.of (fun _ k => XS.iconst X0.here hx rfl (hb hby d1_36) k) ?_
  show Go p e below _ (s₁.setTop (mkF m 37 #[.val (.int p0)] [(.int (4 : Int32)), (.int p0)]))
  refine Go.of (fun _ k => XS.icmpYes X0.here hx rfl (pc0 := 37) (pc' := 44) rfl (hb hby d1_37) rfl (feq hc37).2 (by decide) (by decide) k) ?_
  show Go p e below _ (s₁.setTop (mkF m 44 #[.val (.int p0)] []))
  refine Go.of (fun _ k => XS.iloadN X0.here hx rfl (hb hby d1_44) rfl  k) ?_
  show Go p e below _ (s₁.setTop (mkF m 45 #[.val (.int p0)] [(.int p0)]))
  refine Go.of (fun _ k => XS.iconst X0.here hx rfl (hb hby d1_45) k) ?_
  show Go p e below _ (s₁.setTop (mkF m 46 #[.val (.int p0)] [(.int (5 : Int32)), (.int p0)]))
  refine Go.of (fun _ k => XS.icmpYes X0.here hx rfl (pc0 := 46) (pc' := 53) rfl (hb hby d1_46) rfl (feq hc46).2 (by decide) (by decide) k) ?_
  show Go p e below _ (s₁.setTop (mkF m 53 #[.val (.int p0)] []))
  refine Go.of (fun _ k => XS.iloadN X0.here hx rfl (hb hby d1_53) rfl  k) ?_
  show Go p e below _ (s₁.setTop (mkF m 54 #[.val (.int p0)] [(.int p0)]))
  refine Go.of (fun _ k => XS.bipush X0.here hx rfl (hb hby d1_54) k) ?_
  show Go p e below _ (s₁.setTop (mkF m 56 #[.val (.int p0)] [(.int (6 : Int32)), (.int p0)]))
  refine Go.of (fun _ k => XS.icmpYes X0.here hx rfl (pc0 := 56) (pc' := 63) rfl (hb hby d1_56) rfl (feq hc56).2 (by decide) (by decide) k) ?_
  show Go p e below _ (s₁.setTop (mkF m 63 #[.val (.int p0)] []))
  refine Go.of (fun _ k => XS.iloadN X0.here hx rfl (hb hby d1_63) rfl  k) ?_
  show Go p e below _ (s₁.setTop (mkF m 64 #[.val (.int p0)] [(.int p0)]))
  refine Go.of (fun _ k => XS.bipush X0.here hx rfl (hb hby d1_64) k) ?_
  show Go p e below _ (s₁.setTop (mkF m 66 #[.val (.int p0)] [(.int (7 : Int32)), (.int p0)]))
  refine Go.of (fun _ k => XS.icmpYes X0.here hx rfl (pc0 := 66) (pc' := 73) rfl (hb hby d1_66) rfl (feq hc66).2 (by decide) (by decide) k) ?_
  show Go p e below _ (s₁.setTop (mkF m 73 #[.val (.int p0)] []))
  refine Go.of (fun _ k => XS.iloadN X0.here hx rfl (hb hby d1_73) rfl  k) ?_
  show Go p e below _ (s₁.setTop (mkF m 74 #[.val (.int p0)] [(.int p0)]))
  refine Go.of (fun _ k => XS.bipush X0.here hx rfl (hb hby d1_74) k) ?_
  show Go p e below _ (s₁.setTop (mkF m 76 #[.val (.int p0)] [(.int (8 : Int32)), (.int p0)]))
  refine Go.of (fun _ k => XS.icmpYes X0.here hx rfl (pc0 := 76) (pc' := 83) rfl (hb hby d1_76) rfl (feq hc76).2 (by decide) (by decide) k) ?_
  show Go p e below _ (s₁.setTop (mkF m 83 #[.val (.int p0)] []))
  refine Go.of (fun _ k => XS.iloadN X0.here hx rfl (hb hby d1_83) rfl  k) ?_
  show Go p e below _ (s₁.setTop (mkF m 84 #[.val (.int p0)] [(.int p0)]))
  refine Go.of (fun _ k => XS.bipush X0.here hx rfl (hb hby d1_84) k) ?_
  show Go p e below _ (s₁.setTop (mkF m 86 #[.val (.int p0)] [(.int (9 : Int32)), (.int p0)]))
  refine Go.of (fun _ k => XS.icmpYes X0.here hx rfl (pc0 := 86) (pc' := 93) rfl (hb hby d1_86) rfl (feq hc86).2 (by decide) (by decide) k) ?_
  show Go p e below _ (s₁.setTop (mkF m 93 #[.val (.int p0)] []))
  refine Go.of (fun _ k => XS.iloadN X0.here hx rfl (hb hby d1_93) rfl  k) ?_
  show Go p e below _ (s₁.setTop (mkF m 94 #[.val (.int p0)] [(.int p0)]))
  refine Go.of (fun _ k => XS.bipush X0.here hx rfl (hb hby d1_94) k) ?_
  show Go p e below _ (s₁.setTop (mkF m 96 #[.val (.int p0)] [(.int (10 : Int32)), (.int p0)]))
  refine Go.of (fun _ k => XS.icmpYes X0.here hx rfl (pc0 := 96) (pc' := 103) rfl (hb hby d1_96) rfl (feq hc96).2 (by decide) (by decide) k) ?_
  show Go p e below _ (s₁.setTop (mkF m 103 #[.val (.int p0)] []))
  refine Go.of (fun _ k => XS.iloadN X0.here hx rfl (hb hby d1_103) rfl  k) ?_
  show Go p e below _ (s₁.setTop (mkF m 104 #[.val (.int p0)] [(.int p0)]))
  refine Go.of (fun _ k => XS.bipush X0.here hx rfl (hb hby d1_104) k) ?_
  show Go p e below _ (s₁.setTop (mkF m 106 #[.val (.int p0)] [(.int (11 : Int32)), (.int p0)]))
  refine Go.of (fun _ k => XS.icmpYes X0.here hx rfl (pc0 := 106) (pc' := 113) rfl (hb hby d1_106) rfl (feq hc106).2 (by decide) (by decide) k) ?_
  show Go p e below _ (s₁.setTop (mkF m 113 #[.val (.int p0)] []))
  refine Go.of (fun _ k => XS.iloadN X0.here hx rfl (hb hby d1_113) rfl  k) ?_
  show Go p e below _ (s₁.setTop (mkF m 114 #[.val (.int p0)] [(.int p0)]))
  refine Go.of (fun _ k => XS.bipush X0.here hx rfl (hb hby d1_114) k) ?_
  show Go p e below _ (s₁.setTop (mkF m 116 #[.val (.int p0)] [(.int (12 : Int32)), (.int p0)]))
  refine Go.of (fun _ k => XS.icmpNo X0.here hx rfl (hb hby d1_116) rfl (teq hc116).2 k) ?_
  show Go p e below _ (s₁.setTop (mkF m 119 #[.val (.int p0)] []))
  obtain ⟨T1, X1, e1, st1⟩ := getS2 X0 hx hZ hown (host := "") (Or.inl (hw _ (List.mem_of_getElem? (i := 8) rfl))) Via.refl e0 S_API_VERSIONS (g := (mkF m 119 #[.val (.int p0)] [])) rfl (hb hby d1_119)
  refine Go.of st1 ?_
  show Go p e below _ (T1.setTop (mkF m 122 #[.val (.int p0)] [(.ref w_API_VERSIONS)]))
  obtain ⟨fs, hr, hrun, hended, hW, hsame⟩ := X1.leave (v := some (.ref w_API_VERSIONS)) (fun h => by rw [Bd.returns] at h; cases h)
  refine Go.mk _ _ ?_ hrun hended ⟨_, _, rfl, ?_, ⟨_, rfl⟩, hW, hsame.mono (by decide) (by decide)⟩
  · exact retOut X1 hx Bd.returns rfl (Or.inr (Or.inr (Or.inr (Or.inr ⟨rfl, rfl, rfl⟩)))) (hb hby d1_122) hr
  · show Q1_12 Z p0 w_API_VERSIONS h0 n0 _ T1.heap _
    rw [e1]
    exact ⟨rfl, N0, rfl⟩
theorem d1_123 : decode method_2_code 123 = .ok (.getstatic 49, 3) := by decide +kernel
theorem d1_126 : decode method_2_code 126 = .ok (.areturn, 1) := by decide +kernel
def Q1_13 (Z : State) (p0 : Int32) (w_DELETE_GROUPS : Addr) (h0 : Heap) (n0 : Nat) (v : Option Value) (h : Heap) (L : List Loc) : Prop := v = some (.ref w_DELETE_GROUPS) ∧ Fr n0 L ∧ h = h0
set_option maxRecDepth 65536 in
set_option maxHeartbeats 40000000 in
theorem rm1_13 (l : Launch) (Z : State) (a0 : Array Value) (hw : ∀ d ∈ tables_1, d.before a0 Z = true) (ws : List Jvm.Cond) (p0 : Int32) (w_DELETE_GROUPS : Addr) (h0 : Heap) (n0 : Nat) (Z0 : n0 ≤ h0.size) (hc1 : ¬ (p0 = (0 : Int32))) (hc10 : ¬ (p0 = (1 : Int32))) (hc19 : ¬ (p0 = (2 : Int32))) (hc28 : ¬ (p0 = (3 : Int32))) (hc37 : ¬ (p0 = (4 : Int32))) (hc46 : ¬ (p0 = (5 : Int32))) (hc56 : ¬ (p0 = (6 : Int32))) (hc66 : ¬ (p0 = (7 : Int32))) (hc76 : ¬ (p0 = (8 : Int32))) (hc86 : ¬ (p0 = (9 : Int32))) (hc96 : ¬ (p0 = (10 : Int32))) (hc106 : ¬ (p0 = (11 : Int32))) (hc116 : ¬ (p0 = (12 : Int32))) (S_DELETE_GROUPS : Sta Z h0 "com/example/liveness/liveness/protocol/Api" "DELETE_GROUPS" "Lcom/example/liveness/liveness/protocol/Api;" (.ref w_DELETE_GROUPS)) :
    MetFree l (⟨"com/example/liveness/liveness/protocol/ApiIsFlexiblePinLaw", "pick", "(I)Lcom/example/liveness/liveness/protocol/Api;"⟩ : MethodName) (head1 (Jvm.Cond.code (⟨"com/example/liveness/liveness/protocol/ApiIsFlexiblePinLaw", "pick", "(I)Lcom/example/liveness/liveness/protocol/Api;"⟩ : MethodName) method_2_code 1 (some (.object "com/example/liveness/liveness/protocol/Api")) :: ws) ({ frames := 0, cells := 0, slots := 0, locals := 0 } : Room)) (fun a U => a = #[(.int p0)] ∧ Z.Warmed39 U.vm ∧ U.heap = h0) (fun _ _ _ _ _ => True) (fun _ U o U' => ∃ v L, o = .returned v ∧ Q1_13 Z p0 w_DELETE_GROUPS h0 n0 v U'.heap L ∧ FrameEnd U o U' L ({ frames := 0, cells := 0, slots := 0, locals := 0 } : Room).cells ({ frames := 0, cells := 0, slots := 0, locals := 0 } : Room).slots) := by
  refine MetFree.of_bodySF (plainFor_of_name pn_com_example_liveness_liveness_protocol_ApiIsFlexiblePinLaw) hisR ?_
  intro p e s m args below meth c s₁ Bd hml0 hP hK
  obtain ⟨rfl, hZ, hh⟩ := hP
  have hx := Bd.exec
  have hby := Bd.bytes
  have hml : c.maxLocals = 1 := hml0
  have hown : s.vm.findClass "com/example/liveness/liveness/protocol/ApiIsFlexiblePinLaw" = some m.cls := findClass_of_methodNamed Bd.named
  have hnm := (name_of_methodNamed Bd.named Bd.method).1
  have X0 : Stand p l e ({ frames := 0, cells := 0, slots := 0, locals := 0 } : Room) s m #[(.int p0)] below meth c s₁ [] 0 0 := Stand.of_body Bd
  have e0 : s₁.heap = h0 := by rw [← hh, Bd.state]; rfl
  have N0 := Fr.nil n0
  show Go p e below (fun o U' => ∃ v L, o = .returned v ∧ Q1_13 Z p0 w_DELETE_GROUPS h0 n0 v U'.heap L ∧ FrameEnd s o U' L ({ frames := 0, cells := 0, slots := 0, locals := 0 } : Room).cells ({ frames := 0, cells := 0, slots := 0, locals := 0 } : Room).slots) (s₁.setTop (entryFrame m #[(.int p0)] 1))
  refine Go.of (fun _ k => castTop (ef_1 m p0) k) ?_
  show Go p e below _ (s₁.setTop (mkF m 0 #[.val (.int p0)] []))
  refine Go.of (fun _ k => XS.iloadN X0.here hx rfl (hb hby d1_0) rfl  k) ?_
  show Go p e below _ (s₁.setTop (mkF m 1 #[.val (.int p0)] [(.int p0)]))
  refine Go.of (fun _ k => XS.ifYes X0.here hx rfl (pc0 := 1) (pc' := 8) rfl (hb hby d1_1) rfl ((if0 _ _).trans (feq hc1).2) (by decide) (by decide) k) ?_
  show Go p e below _ (s₁.setTop (mkF m 8 #[.val (.int p0)] []))
  refine Go.of (fun _ k => XS.iloadN X0.here hx rfl (hb hby d1_8) rfl  k) ?_
  show Go p e below _ (s₁.setTop (mkF m 9 #[.val (.int p0)] [(.int p0)]))
  refine Go.of (fun _ k => XS.iconst X0.here hx rfl (hb hby d1_9) k) ?_
  show Go p e below _ (s₁.setTop (mkF m 10 #[.val (.int p0)] [(.int (1 : Int32)), (.int p0)]))
  refine Go.of (fun _ k => XS.icmpYes X0.here hx rfl (pc0 := 10) (pc' := 17) rfl (hb hby d1_10) rfl (feq hc10).2 (by decide) (by decide) k) ?_
  show Go p e below _ (s₁.setTop (mkF m 17 #[.val (.int p0)] []))
  refine Go.of (fun _ k => XS.iloadN X0.here hx rfl (hb hby d1_17) rfl  k) ?_
  show Go p e below _ (s₁.setTop (mkF m 18 #[.val (.int p0)] [(.int p0)]))
  refine Go.of (fun _ k => XS.iconst X0.here hx rfl (hb hby d1_18) k) ?_
  show Go p e below _ (s₁.setTop (mkF m 19 #[.val (.int p0)] [(.int (2 : Int32)), (.int p0)]))
  refine Go.of (fun _ k => XS.icmpYes X0.here hx rfl (pc0 := 19) (pc' := 26) rfl (hb hby d1_19) rfl (feq hc19).2 (by decide) (by decide) k) ?_
  show Go p e below _ (s₁.setTop (mkF m 26 #[.val (.int p0)] []))
  refine Go.of (fun _ k => XS.iloadN X0.here hx rfl (hb hby d1_26) rfl  k) ?_
  show Go p e below _ (s₁.setTop (mkF m 27 #[.val (.int p0)] [(.int p0)]))
  refine Go.of (fun _ k => XS.iconst X0.here hx rfl (hb hby d1_27) k) ?_
  show Go p e below _ (s₁.setTop (mkF m 28 #[.val (.int p0)] [(.int (3 : Int32)), (.int p0)]))
  refine Go.of (fun _ k => XS.icmpYes X0.here hx rfl (pc0 := 28) (pc' := 35) rfl (hb hby d1_28) rfl (feq hc28).2 (by decide) (by decide) k) ?_
  show Go p e below _ (s₁.setTop (mkF m 35 #[.val (.int p0)] []))
  refine Go.of (fun _ k => XS.iloadN X0.here hx rfl (hb hby d1_35) rfl  k) ?_
  show Go p e below _ (s₁.setTop (mkF m 36 #[.val (.int p0)] [(.int p0)]))
  refine Go.of (fun _ k => XS.iconst X0.here hx rfl (hb hby d1_36) k) ?_
  show Go p e below _ (s₁.setTop (mkF m 37 #[.val (.int p0)] [(.int (4 : Int32)), (.int p0)]))
  refine Go.of (fun _ k => XS.icmpYes X0.here hx rfl (pc0 := 37) (pc' := 44) rfl (hb hby d1_37) rfl (feq hc37).2 (by decide) (by decide) k) ?_
  show Go p e below _ (s₁.setTop (mkF m 44 #[.val (.int p0)] []))
  refine Go.of (fun _ k => XS.iloadN X0.here hx rfl (hb hby d1_44) rfl  k) ?_
  show Go p e below _ (s₁.setTop (mkF m 45 #[.val (.int p0)] [(.int p0)]))
  refine Go.of (fun _ k => XS.iconst X0.here hx rfl (hb hby d1_45) k) ?_
  show Go p e below _ (s₁.setTop (mkF m 46 #[.val (.int p0)] [(.int (5 : Int32)), (.int p0)]))
  refine Go.of (fun _ k => XS.icmpYes X0.here hx rfl (pc0 := 46) (pc' := 53) rfl (hb hby d1_46) rfl (feq hc46).2 (by decide) (by decide) k) ?_
  show Go p e below _ (s₁.setTop (mkF m 53 #[.val (.int p0)] []))
  refine Go.of (fun _ k => XS.iloadN X0.here hx rfl (hb hby d1_53) rfl  k) ?_
  show Go p e below _ (s₁.setTop (mkF m 54 #[.val (.int p0)] [(.int p0)]))
  refine Go.of (fun _ k => XS.bipush X0.here hx rfl (hb hby d1_54) k) ?_
  show Go p e below _ (s₁.setTop (mkF m 56 #[.val (.int p0)] [(.int (6 : Int32)), (.int p0)]))
  refine Go.of (fun _ k => XS.icmpYes X0.here hx rfl (pc0 := 56) (pc' := 63) rfl (hb hby d1_56) rfl (feq hc56).2 (by decide) (by decide) k) ?_
  show Go p e below _ (s₁.setTop (mkF m 63 #[.val (.int p0)] []))
  refine Go.of (fun _ k => XS.iloadN X0.here hx rfl (hb hby d1_63) rfl  k) ?_
  show Go p e below _ (s₁.setTop (mkF m 64 #[.val (.int p0)] [(.int p0)]))
  refine Go.of (fun _ k => XS.bipush X0.here hx rfl (hb hby d1_64) k) ?_
  show Go p e below _ (s₁.setTop (mkF m 66 #[.val (.int p0)] [(.int (7 : Int32)), (.int p0)]))
  refine Go.of (fun _ k => XS.icmpYes X0.here hx rfl (pc0 := 66) (pc' := 73) rfl (hb hby d1_66) rfl (feq hc66).2 (by decide) (by decide) k) ?_
  show Go p e below _ (s₁.setTop (mkF m 73 #[.val (.int p0)] []))
  refine Go.of (fun _ k => XS.iloadN X0.here hx rfl (hb hby d1_73) rfl  k) ?_
  show Go p e below _ (s₁.setTop (mkF m 74 #[.val (.int p0)] [(.int p0)]))
  refine Go.of (fun _ k => XS.bipush X0.here hx rfl (hb hby d1_74) k) ?_
  show Go p e below _ (s₁.setTop (mkF m 76 #[.val (.int p0)] [(.int (8 : Int32)), (.int p0)]))
  refine Go.of (fun _ k => XS.icmpYes X0.here hx rfl (pc0 := 76) (pc' := 83) rfl (hb hby d1_76) rfl (feq hc76).2 (by decide) (by decide) k) ?_
  show Go p e below _ (s₁.setTop (mkF m 83 #[.val (.int p0)] []))
  refine Go.of (fun _ k => XS.iloadN X0.here hx rfl (hb hby d1_83) rfl  k) ?_
  show Go p e below _ (s₁.setTop (mkF m 84 #[.val (.int p0)] [(.int p0)]))
  refine Go.of (fun _ k => XS.bipush X0.here hx rfl (hb hby d1_84) k) ?_
  show Go p e below _ (s₁.setTop (mkF m 86 #[.val (.int p0)] [(.int (9 : Int32)), (.int p0)]))
  refine Go.of (fun _ k => XS.icmpYes X0.here hx rfl (pc0 := 86) (pc' := 93) rfl (hb hby d1_86) rfl (feq hc86).2 (by decide) (by decide) k) ?_
  show Go p e below _ (s₁.setTop (mkF m 93 #[.val (.int p0)] []))
  refine Go.of (fun _ k => XS.iloadN X0.here hx rfl (hb hby d1_93) rfl  k) ?_
  show Go p e below _ (s₁.setTop (mkF m 94 #[.val (.int p0)] [(.int p0)]))
  refine Go.of (fun _ k => XS.bipush X0.here hx rfl (hb hby d1_94) k) ?_
  show Go p e below _ (s₁.setTop (mkF m 96 #[.val (.int p0)] [(.int (10 : Int32)), (.int p0)]))
  refine Go.of (fun _ k => XS.icmpYes X0.here hx rfl (pc0 := 96) (pc' := 103) rfl (hb hby d1_96) rfl (feq hc96).2 (by decide) (by decide) k) ?_
  show Go p e below _ (s₁.setTop (mkF m 103 #[.val (.int p0)] []))
  refine Go.of (fun _ k => XS.iloadN X0.here hx rfl (hb hby d1_103) rfl  k) ?_
  show Go p e below _ (s₁.setTop (mkF m 104 #[.val (.int p0)] [(.int p0)]))
  refine Go.of (fun _ k => XS.bipush X0.here hx rfl (hb hby d1_104) k) ?_
  show Go p e below _ (s₁.setTop (mkF m 106 #[.val (.int p0)] [(.int (11 : Int32)), (.int p0)]))
  refine Go.of (fun _ k => XS.icmpYes X0.here hx rfl (pc0 := 106) (pc' := 113) rfl (hb hby d1_106) rfl (feq hc106).2 (by decide) (by decide) k) ?_
  show Go p e below _ (s₁.setTop (mkF m 113 #[.val (.int p0)] []))
  refine Go.of (fun _ k => XS.iloadN X0.here hx rfl (hb hby d1_113) rfl  k) ?_
  show Go p e below _ (s₁.setTop (mkF m 114 #[.val (.int p0)] [(.int p0)]))
  refine Go.of (fun _ k => XS.bipush X0.here hx rfl (hb hby d1_114) k) ?_
  show Go p e below _ (s₁.setTop (mkF m 116 #[.val (.int p0)] [(.int (12 : Int32)), (.int p0)]))
  refine Go.of (fun _ k => XS.icmpYes X0.here hx rfl (pc0 := 116) (pc' := 123) rfl (hb hby d1_116) rfl (feq hc116).2 (by decide) (by decide) k) ?_
  show Go p e below _ (s₁.setTop (mkF m 123 #[.val (.int p0)] []))
  obtain ⟨T1, X1, e1, st1⟩ := getS2 X0 hx hZ hown (host := "") (Or.inl (hw _ (List.mem_of_getElem? (i := 37) rfl))) Via.refl e0 S_DELETE_GROUPS (g := (mkF m 123 #[.val (.int p0)] [])) rfl (hb hby d1_123)
  refine Go.of st1 ?_
  show Go p e below _ (T1.setTop (mkF m 126 #[.val (.int p0)] [(.ref w_DELETE_GROUPS)]))
  obtain ⟨fs, hr, hrun, hended, hW, hsame⟩ := X1.leave (v := some (.ref w_DELETE_GROUPS)) (fun h => by rw [Bd.returns] at h; cases h)
  refine Go.mk _ _ ?_ hrun hended ⟨_, _, rfl, ?_, ⟨_, rfl⟩, hW, hsame.mono (by decide) (by decide)⟩
  · exact retOut X1 hx Bd.returns rfl (Or.inr (Or.inr (Or.inr (Or.inr ⟨rfl, rfl, rfl⟩)))) (hb hby d1_126) hr
  · show Q1_13 Z p0 w_DELETE_GROUPS h0 n0 _ T1.heap _
    rw [e1]
    exact ⟨rfl, N0, rfl⟩
theorem d2_0 : decode prog_19_method_11_code 0 = .ok (.iload_n 1, 1) := by decide +kernel
theorem d2_1 : decode prog_19_method_11_code 1 = .ok (.aload_n 0, 1) := by decide +kernel
theorem d2_2 : decode prog_19_method_11_code 2 = .ok (.getfield 85, 3) := by decide +kernel
theorem d2_5 : decode prog_19_method_11_code 5 = .ok (.if_icmp .lt 7, 3) := by decide +kernel
theorem d2_12 : decode prog_19_method_11_code 12 = .ok (.iconst 0, 1) := by decide +kernel
theorem d2_13 : decode prog_19_method_11_code 13 = .ok (.ireturn, 1) := by decide +kernel
theorem pn_com_example_liveness_liveness_protocol_Api : plainName "com/example/liveness/liveness/protocol/Api" = true := by first | (simp [plainName, overriddenIn]; done) | decide +kernel
theorem ef_2 (m : MethodId) (x0 : Addr) (x1 : Int32) : entryFrame m #[(.ref x0), (.int x1)] 2 = mkF m 0 #[.val (.ref x0), .val (.int x1)] [] := by first | (simp [entryFrame, mkF, argsToLocals, Value.category]; done) | rfl
def Q2_no (Z : State) (o0 : Addr) (p1 : Int32) (f_o0_firstFlexibleVersion : Int32) (h0 : Heap) (n0 : Nat) (v : Option Value) (h : Heap) (L : List Loc) : Prop := v = some (.int (0 : Int32)) ∧ Fr n0 L ∧ h = h0
set_option maxRecDepth 65536 in
set_option maxHeartbeats 40000000 in
theorem rm2_no (l : Launch) (Z : State) (a0 : Array Value) (hw : ∀ d ∈ tables_1, d.before a0 Z = true) (ws : List Jvm.Cond) (o0 : Addr) (p1 : Int32) (f_o0_firstFlexibleVersion : Int32) (h0 : Heap) (n0 : Nat) (Z0 : n0 ≤ h0.size) (F_o0_firstFlexibleVersion : Fld Z h0 o0 "com/example/liveness/liveness/protocol/Api" "firstFlexibleVersion" "I" (.int f_o0_firstFlexibleVersion)) (hc5 : p1 < f_o0_firstFlexibleVersion) :
    MetFree l (⟨"com/example/liveness/liveness/protocol/Api", "isFlexible", "(S)Z"⟩ : MethodName) (head1 (Jvm.Cond.code (⟨"com/example/liveness/liveness/protocol/Api", "isFlexible", "(S)Z"⟩ : MethodName) prog_19_method_11_code 2 (some .boolean) :: ws) ({ frames := 0, cells := 0, slots := 0, locals := 0 } : Room)) (fun a U => a = #[(.ref o0), (.int p1)] ∧ Z.Warmed39 U.vm ∧ U.heap = h0) (fun _ _ _ _ _ => True) (fun _ U o U' => ∃ v L, o = .returned v ∧ Q2_no Z o0 p1 f_o0_firstFlexibleVersion h0 n0 v U'.heap L ∧ FrameEnd U o U' L ({ frames := 0, cells := 0, slots := 0, locals := 0 } : Room).cells ({ frames := 0, cells := 0, slots := 0, locals := 0 } : Room).slots) := by
  refine MetFree.of_bodySF (plainFor_of_name pn_com_example_liveness_liveness_protocol_Api) hisR ?_
  intro p e s m args below meth c s₁ Bd hml0 hP hK
  obtain ⟨rfl, hZ, hh⟩ := hP
  have hx := Bd.exec
  have hby := Bd.bytes
  have hml : c.maxLocals = 2 := hml0
  have hown : s.vm.findClass "com/example/liveness/liveness/protocol/Api" = some m.cls := findClass_of_methodNamed Bd.named
  have hnm := (name_of_methodNamed Bd.named Bd.method).1
  have X0 : Stand p l e ({ frames := 0, cells := 0, slots := 0, locals := 0 } : Room) s m #[(.ref o0), (.int p1)] below meth c s₁ [] 0 0 := Stand.of_body Bd
  have e0 : s₁.heap = h0 := by rw [← hh, Bd.state]; rfl
  have N0 := Fr.nil n0
  show Go p e below (fun o U' => ∃ v L, o = .returned v ∧ Q2_no Z o0 p1 f_o0_firstFlexibleVersion h0 n0 v U'.heap L ∧ FrameEnd s o U' L ({ frames := 0, cells := 0, slots := 0, locals := 0 } : Room).cells ({ frames := 0, cells := 0, slots := 0, locals := 0 } : Room).slots) (s₁.setTop (entryFrame m #[(.ref o0), (.int p1)] 2))
  refine Go.of (fun _ k => castTop (ef_2 m o0 p1) k) ?_
  show Go p e below _ (s₁.setTop (mkF m 0 #[.val (.ref o0), .val (.int p1)] []))
  refine Go.of (fun _ k => XS.iloadN X0.here hx rfl (hb hby d2_0) rfl  k) ?_
  show Go p e below _ (s₁.setTop (mkF m 1 #[.val (.ref o0), .val (.int p1)] [(.int p1)]))
  refine Go.of (fun _ k => XS.aloadN X0.here hx rfl (hb hby d2_1) rfl rfl k) ?_
  show Go p e below _ (s₁.setTop (mkF m 2 #[.val (.ref o0), .val (.int p1)] [(.ref o0), (.int p1)]))
  obtain ⟨T1, X1, e1, st1⟩ := getF X0 hx hZ hown (host := "") (Or.inl (hw _ (List.mem_of_getElem? (i := 15) rfl))) Via.refl e0 F_o0_firstFlexibleVersion (g := (mkF m 2 #[.val (.ref o0), .val (.int p1)] [(.ref o0), (.int p1)])) rfl rfl (hb hby d2_2)
  refine Go.of st1 ?_
  show Go p e below _ (T1.setTop (mkF m 5 #[.val (.ref o0), .val (.int p1)] [(.int f_o0_firstFlexibleVersion), (.int p1)]))
  refine Go.of (fun _ k => XS.icmpYes X1.here hx rfl (pc0 := 5) (pc' := 12) rfl (hb hby d2_5) rfl (tlt hc5).1 (by decide) (by decide) k) ?_
  show Go p e below _ (T1.setTop (mkF m 12 #[.val (.ref o0), .val (.int p1)] []))
  refine Go.of (fun _ k => XS.iconst X1.here hx rfl (hb hby d2_12) k) ?_
  show Go p e below _ (T1.setTop (mkF m 13 #[.val (.ref o0), .val (.int p1)] [(.int (0 : Int32))]))
  obtain ⟨fs, hr, hrun, hended, hW, hsame⟩ := X1.leave (v := some (.int (0 : Int32))) (fun h => by rw [Bd.returns] at h; cases h)
  refine Go.mk _ _ ?_ hrun hended ⟨_, _, rfl, ?_, ⟨_, rfl⟩, hW, hsame.mono (by decide) (by decide)⟩
  · exact retN X1 hx (t := .boolean) Bd.returns (by simp) (hb hby d2_13) hr
  · show Q2_no Z o0 p1 f_o0_firstFlexibleVersion h0 n0 _ T1.heap _
    rw [e1]
    exact ⟨rfl, N0, rfl⟩
theorem d2_8 : decode prog_19_method_11_code 8 = .ok (.iconst 1, 1) := by decide +kernel
theorem d2_9 : decode prog_19_method_11_code 9 = .ok (.goto 4, 3) := by decide +kernel
def Q2_yes (Z : State) (o0 : Addr) (p1 : Int32) (f_o0_firstFlexibleVersion : Int32) (h0 : Heap) (n0 : Nat) (v : Option Value) (h : Heap) (L : List Loc) : Prop := v = some (.int (1 : Int32)) ∧ Fr n0 L ∧ h = h0
set_option maxRecDepth 65536 in
set_option maxHeartbeats 40000000 in
theorem rm2_yes (l : Launch) (Z : State) (a0 : Array Value) (hw : ∀ d ∈ tables_1, d.before a0 Z = true) (ws : List Jvm.Cond) (o0 : Addr) (p1 : Int32) (f_o0_firstFlexibleVersion : Int32) (h0 : Heap) (n0 : Nat) (Z0 : n0 ≤ h0.size) (F_o0_firstFlexibleVersion : Fld Z h0 o0 "com/example/liveness/liveness/protocol/Api" "firstFlexibleVersion" "I" (.int f_o0_firstFlexibleVersion)) (hc5 : ¬ (p1 < f_o0_firstFlexibleVersion)) :
    MetFree l (⟨"com/example/liveness/liveness/protocol/Api", "isFlexible", "(S)Z"⟩ : MethodName) (head1 (Jvm.Cond.code (⟨"com/example/liveness/liveness/protocol/Api", "isFlexible", "(S)Z"⟩ : MethodName) prog_19_method_11_code 2 (some .boolean) :: ws) ({ frames := 0, cells := 0, slots := 0, locals := 0 } : Room)) (fun a U => a = #[(.ref o0), (.int p1)] ∧ Z.Warmed39 U.vm ∧ U.heap = h0) (fun _ _ _ _ _ => True) (fun _ U o U' => ∃ v L, o = .returned v ∧ Q2_yes Z o0 p1 f_o0_firstFlexibleVersion h0 n0 v U'.heap L ∧ FrameEnd U o U' L ({ frames := 0, cells := 0, slots := 0, locals := 0 } : Room).cells ({ frames := 0, cells := 0, slots := 0, locals := 0 } : Room).slots) := by
  refine MetFree.of_bodySF (plainFor_of_name pn_com_example_liveness_liveness_protocol_Api) hisR ?_
  intro p e s m args below meth c s₁ Bd hml0 hP hK
  obtain ⟨rfl, hZ, hh⟩ := hP
  have hx := Bd.exec
  have hby := Bd.bytes
  have hml : c.maxLocals = 2 := hml0
  have hown : s.vm.findClass "com/example/liveness/liveness/protocol/Api" = some m.cls := findClass_of_methodNamed Bd.named
  have hnm := (name_of_methodNamed Bd.named Bd.method).1
  have X0 : Stand p l e ({ frames := 0, cells := 0, slots := 0, locals := 0 } : Room) s m #[(.ref o0), (.int p1)] below meth c s₁ [] 0 0 := Stand.of_body Bd
  have e0 : s₁.heap = h0 := by rw [← hh, Bd.state]; rfl
  have N0 := Fr.nil n0
  show Go p e below (fun o U' => ∃ v L, o = .returned v ∧ Q2_yes Z o0 p1 f_o0_firstFlexibleVersion h0 n0 v U'.heap L ∧ FrameEnd s o U' L ({ frames := 0, cells := 0, slots := 0, locals := 0 } : Room).cells ({ frames := 0, cells := 0, slots := 0, locals := 0 } : Room).slots) (s₁.setTop (entryFrame m #[(.ref o0), (.int p1)] 2))
  refine Go.of (fun _ k => castTop (ef_2 m o0 p1) k) ?_
  show Go p e below _ (s₁.setTop (mkF m 0 #[.val (.ref o0), .val (.int p1)] []))
  refine Go.of (fun _ k => XS.iloadN X0.here hx rfl (hb hby d2_0) rfl  k) ?_
  show Go p e below _ (s₁.setTop (mkF m 1 #[.val (.ref o0), .val (.int p1)] [(.int p1)]))
  refine Go.of (fun _ k => XS.aloadN X0.here hx rfl (hb hby d2_1) rfl rfl k) ?_
  show Go p e below _ (s₁.setTop (mkF m 2 #[.val (.ref o0), .val (.int p1)] [(.ref o0), (.int p1)]))
  obtain ⟨T1, X1, e1, st1⟩ := getF X0 hx hZ hown (host := "") (Or.inl (hw _ (List.mem_of_getElem? (i := 15) rfl))) Via.refl e0 F_o0_firstFlexibleVersion (g := (mkF m 2 #[.val (.ref o0), .val (.int p1)] [(.ref o0), (.int p1)])) rfl rfl (hb hby d2_2)
  refine Go.of st1 ?_
  show Go p e below _ (T1.setTop (mkF m 5 #[.val (.ref o0), .val (.int p1)] [(.int f_o0_firstFlexibleVersion), (.int p1)]))
  refine Go.of (fun _ k => XS.icmpNo X1.here hx rfl (hb hby d2_5) rfl (flt hc5).1 k) ?_
  show Go p e below _ (T1.setTop (mkF m 8 #[.val (.ref o0), .val (.int p1)] []))
  refine Go.of (fun _ k => XS.iconst X1.here hx rfl (hb hby d2_8) k) ?_
  show Go p e below _ (T1.setTop (mkF m 9 #[.val (.ref o0), .val (.int p1)] [(.int (1 : Int32))]))
  refine Go.of (fun _ k => XS.goto X1.here hx rfl (pc0 := 9) (pc' := 13) rfl (hb hby d2_9) (by decide) (by decide) k) ?_
  show Go p e below _ (T1.setTop (mkF m 13 #[.val (.ref o0), .val (.int p1)] [(.int (1 : Int32))]))
  obtain ⟨fs, hr, hrun, hended, hW, hsame⟩ := X1.leave (v := some (.int (1 : Int32))) (fun h => by rw [Bd.returns] at h; cases h)
  refine Go.mk _ _ ?_ hrun hended ⟨_, _, rfl, ?_, ⟨_, rfl⟩, hW, hsame.mono (by decide) (by decide)⟩
  · exact retN X1 hx (t := .boolean) Bd.returns (by simp) (hb hby d2_13) hr
  · show Q2_yes Z o0 p1 f_o0_firstFlexibleVersion h0 n0 _ T1.heap _
    rw [e1]
    exact ⟨rfl, N0, rfl⟩
theorem pd_0 : parseMethodDescriptor "(I)Lcom/example/liveness/liveness/protocol/Api;" = some ⟨[.int], some (.object "com/example/liveness/liveness/protocol/Api")⟩ := by decide +kernel
theorem pd_1 : parseMethodDescriptor "(S)Z" = some ⟨[.short], some .boolean⟩ := by decide +kernel
theorem ef_0 (m : MethodId) (x0 : Int32) (x1 : Int32) : entryFrame m #[(.int x0), (.int x1)] maxLocals = mkF m 0 #[.val (.int x0), .val (.int x1), .unset, .unset, .unset] [] := by first | (simp [entryFrame, mkF, argsToLocals, Value.category, maxLocals]; done) | rfl
def Q0 (Z : State) (p0 : Int32) (p1 : Int32) (w_FETCH : Addr) (w_API_VERSIONS : Addr) (w_LIST_OFFSETS : Addr) (w_METADATA : Addr) (w_OFFSET_COMMIT : Addr) (w_OFFSET_FETCH : Addr) (w_FIND_COORDINATOR : Addr) (w_JOIN_GROUP : Addr) (w_HEARTBEAT : Addr) (w_LEAVE_GROUP : Addr) (w_SYNC_GROUP : Addr) (w_DESCRIBE_GROUPS : Addr) (w_LIST_GROUPS : Addr) (w_DELETE_GROUPS : Addr) (h0 : Heap) (n0 : Nat) (v : Option Value) (h : Heap) (L : List Loc) : Prop := v = some (.int (1 : Int32)) ∧ Fr n0 L
set_option maxRecDepth 65536 in
set_option maxHeartbeats 40000000 in
theorem rm0 (l : Launch) (Z : State) (a0 : Array Value) (hw : ∀ d ∈ tables_1, d.before a0 Z = true) (ws : List Jvm.Cond) (p0 : Int32) (p1 : Int32) (w_FETCH : Addr) (w_API_VERSIONS : Addr) (w_LIST_OFFSETS : Addr) (w_METADATA : Addr) (w_OFFSET_COMMIT : Addr) (w_OFFSET_FETCH : Addr) (w_FIND_COORDINATOR : Addr) (w_JOIN_GROUP : Addr) (w_HEARTBEAT : Addr) (w_LEAVE_GROUP : Addr) (w_SYNC_GROUP : Addr) (w_DESCRIBE_GROUPS : Addr) (w_LIST_GROUPS : Addr) (w_DELETE_GROUPS : Addr) (h0 : Heap) (n0 : Nat) (Z0 : n0 ≤ h0.size) (S_FETCH : Sta Z h0 "com/example/liveness/liveness/protocol/Api" "FETCH" "Lcom/example/liveness/liveness/protocol/Api;" (.ref w_FETCH)) (S_API_VERSIONS : Sta Z h0 "com/example/liveness/liveness/protocol/Api" "API_VERSIONS" "Lcom/example/liveness/liveness/protocol/Api;" (.ref w_API_VERSIONS)) (ne_w_API_VERSIONS_w_FETCH : w_API_VERSIONS ≠ w_FETCH) (F_w_FETCH_firstFlexibleVersion : Fld Z h0 w_FETCH "com/example/liveness/liveness/protocol/Api" "firstFlexibleVersion" "I" (.int (2147483647 : Int32))) (E_w_FETCH : Exa Z h0 w_FETCH "com/example/liveness/liveness/protocol/Api") (S_LIST_OFFSETS : Sta Z h0 "com/example/liveness/liveness/protocol/Api" "LIST_OFFSETS" "Lcom/example/liveness/liveness/protocol/Api;" (.ref w_LIST_OFFSETS)) (ne_w_API_VERSIONS_w_LIST_OFFSETS : w_API_VERSIONS ≠ w_LIST_OFFSETS) (F_w_LIST_OFFSETS_firstFlexibleVersion : Fld Z h0 w_LIST_OFFSETS "com/example/liveness/liveness/protocol/Api" "firstFlexibleVersion" "I" (.int (2147483647 : Int32))) (E_w_LIST_OFFSETS : Exa Z h0 w_LIST_OFFSETS "com/example/liveness/liveness/protocol/Api") (S_METADATA : Sta Z h0 "com/example/liveness/liveness/protocol/Api" "METADATA" "Lcom/example/liveness/liveness/protocol/Api;" (.ref w_METADATA)) (ne_w_API_VERSIONS_w_METADATA : w_API_VERSIONS ≠ w_METADATA) (F_w_METADATA_firstFlexibleVersion : Fld Z h0 w_METADATA "com/example/liveness/liveness/protocol/Api" "firstFlexibleVersion" "I" (.int (2147483647 : Int32))) (E_w_METADATA : Exa Z h0 w_METADATA "com/example/liveness/liveness/protocol/Api") (S_OFFSET_COMMIT : Sta Z h0 "com/example/liveness/liveness/protocol/Api" "OFFSET_COMMIT" "Lcom/example/liveness/liveness/protocol/Api;" (.ref w_OFFSET_COMMIT)) (ne_w_API_VERSIONS_w_OFFSET_COMMIT : w_API_VERSIONS ≠ w_OFFSET_COMMIT) (F_w_OFFSET_COMMIT_firstFlexibleVersion : Fld Z h0 w_OFFSET_COMMIT "com/example/liveness/liveness/protocol/Api" "firstFlexibleVersion" "I" (.int (2147483647 : Int32))) (E_w_OFFSET_COMMIT : Exa Z h0 w_OFFSET_COMMIT "com/example/liveness/liveness/protocol/Api") (S_OFFSET_FETCH : Sta Z h0 "com/example/liveness/liveness/protocol/Api" "OFFSET_FETCH" "Lcom/example/liveness/liveness/protocol/Api;" (.ref w_OFFSET_FETCH)) (ne_w_API_VERSIONS_w_OFFSET_FETCH : w_API_VERSIONS ≠ w_OFFSET_FETCH) (F_w_OFFSET_FETCH_firstFlexibleVersion : Fld Z h0 w_OFFSET_FETCH "com/example/liveness/liveness/protocol/Api" "firstFlexibleVersion" "I" (.int (2147483647 : Int32))) (E_w_OFFSET_FETCH : Exa Z h0 w_OFFSET_FETCH "com/example/liveness/liveness/protocol/Api") (S_FIND_COORDINATOR : Sta Z h0 "com/example/liveness/liveness/protocol/Api" "FIND_COORDINATOR" "Lcom/example/liveness/liveness/protocol/Api;" (.ref w_FIND_COORDINATOR)) (ne_w_API_VERSIONS_w_FIND_COORDINATOR : w_API_VERSIONS ≠ w_FIND_COORDINATOR) (F_w_FIND_COORDINATOR_firstFlexibleVersion : Fld Z h0 w_FIND_COORDINATOR "com/example/liveness/liveness/protocol/Api" "firstFlexibleVersion" "I" (.int (2147483647 : Int32))) (E_w_FIND_COORDINATOR : Exa Z h0 w_FIND_COORDINATOR "com/example/liveness/liveness/protocol/Api") (S_JOIN_GROUP : Sta Z h0 "com/example/liveness/liveness/protocol/Api" "JOIN_GROUP" "Lcom/example/liveness/liveness/protocol/Api;" (.ref w_JOIN_GROUP)) (ne_w_API_VERSIONS_w_JOIN_GROUP : w_API_VERSIONS ≠ w_JOIN_GROUP) (F_w_JOIN_GROUP_firstFlexibleVersion : Fld Z h0 w_JOIN_GROUP "com/example/liveness/liveness/protocol/Api" "firstFlexibleVersion" "I" (.int (2147483647 : Int32))) (E_w_JOIN_GROUP : Exa Z h0 w_JOIN_GROUP "com/example/liveness/liveness/protocol/Api") (S_HEARTBEAT : Sta Z h0 "com/example/liveness/liveness/protocol/Api" "HEARTBEAT" "Lcom/example/liveness/liveness/protocol/Api;" (.ref w_HEARTBEAT)) (ne_w_API_VERSIONS_w_HEARTBEAT : w_API_VERSIONS ≠ w_HEARTBEAT) (F_w_HEARTBEAT_firstFlexibleVersion : Fld Z h0 w_HEARTBEAT "com/example/liveness/liveness/protocol/Api" "firstFlexibleVersion" "I" (.int (2147483647 : Int32))) (E_w_HEARTBEAT : Exa Z h0 w_HEARTBEAT "com/example/liveness/liveness/protocol/Api") (S_LEAVE_GROUP : Sta Z h0 "com/example/liveness/liveness/protocol/Api" "LEAVE_GROUP" "Lcom/example/liveness/liveness/protocol/Api;" (.ref w_LEAVE_GROUP)) (ne_w_API_VERSIONS_w_LEAVE_GROUP : w_API_VERSIONS ≠ w_LEAVE_GROUP) (F_w_LEAVE_GROUP_firstFlexibleVersion : Fld Z h0 w_LEAVE_GROUP "com/example/liveness/liveness/protocol/Api" "firstFlexibleVersion" "I" (.int (2147483647 : Int32))) (E_w_LEAVE_GROUP : Exa Z h0 w_LEAVE_GROUP "com/example/liveness/liveness/protocol/Api") (S_SYNC_GROUP : Sta Z h0 "com/example/liveness/liveness/protocol/Api" "SYNC_GROUP" "Lcom/example/liveness/liveness/protocol/Api;" (.ref w_SYNC_GROUP)) (ne_w_API_VERSIONS_w_SYNC_GROUP : w_API_VERSIONS ≠ w_SYNC_GROUP) (F_w_SYNC_GROUP_firstFlexibleVersion : Fld Z h0 w_SYNC_GROUP "com/example/liveness/liveness/protocol/Api" "firstFlexibleVersion" "I" (.int (2147483647 : Int32))) (E_w_SYNC_GROUP : Exa Z h0 w_SYNC_GROUP "com/example/liveness/liveness/protocol/Api") (S_DESCRIBE_GROUPS : Sta Z h0 "com/example/liveness/liveness/protocol/Api" "DESCRIBE_GROUPS" "Lcom/example/liveness/liveness/protocol/Api;" (.ref w_DESCRIBE_GROUPS)) (ne_w_API_VERSIONS_w_DESCRIBE_GROUPS : w_API_VERSIONS ≠ w_DESCRIBE_GROUPS) (F_w_DESCRIBE_GROUPS_firstFlexibleVersion : Fld Z h0 w_DESCRIBE_GROUPS "com/example/liveness/liveness/protocol/Api" "firstFlexibleVersion" "I" (.int (2147483647 : Int32))) (E_w_DESCRIBE_GROUPS : Exa Z h0 w_DESCRIBE_GROUPS "com/example/liveness/liveness/protocol/Api") (S_LIST_GROUPS : Sta Z h0 "com/example/liveness/liveness/protocol/Api" "LIST_GROUPS" "Lcom/example/liveness/liveness/protocol/Api;" (.ref w_LIST_GROUPS)) (ne_w_API_VERSIONS_w_LIST_GROUPS : w_API_VERSIONS ≠ w_LIST_GROUPS) (F_w_LIST_GROUPS_firstFlexibleVersion : Fld Z h0 w_LIST_GROUPS "com/example/liveness/liveness/protocol/Api" "firstFlexibleVersion" "I" (.int (2147483647 : Int32))) (E_w_LIST_GROUPS : Exa Z h0 w_LIST_GROUPS "com/example/liveness/liveness/protocol/Api") (F_w_API_VERSIONS_firstFlexibleVersion : Fld Z h0 w_API_VERSIONS "com/example/liveness/liveness/protocol/Api" "firstFlexibleVersion" "I" (.int (3 : Int32))) (E_w_API_VERSIONS : Exa Z h0 w_API_VERSIONS "com/example/liveness/liveness/protocol/Api") (S_DELETE_GROUPS : Sta Z h0 "com/example/liveness/liveness/protocol/Api" "DELETE_GROUPS" "Lcom/example/liveness/liveness/protocol/Api;" (.ref w_DELETE_GROUPS)) (ne_w_API_VERSIONS_w_DELETE_GROUPS : w_API_VERSIONS ≠ w_DELETE_GROUPS) (F_w_DELETE_GROUPS_firstFlexibleVersion : Fld Z h0 w_DELETE_GROUPS "com/example/liveness/liveness/protocol/Api" "firstFlexibleVersion" "I" (.int (2147483647 : Int32))) (E_w_DELETE_GROUPS : Exa Z h0 w_DELETE_GROUPS "com/example/liveness/liveness/protocol/Api") :
    MetFree l x (head1 (Jvm.Cond.code x code maxLocals ret :: ws) room_1) (fun a U => a = #[(.int p0), (.int p1)] ∧ Z.Warmed39 U.vm ∧ U.heap = h0) (fun _ _ _ _ _ => True) (fun _ U o U' => ∃ v L, o = .returned v ∧ Q0 Z p0 p1 w_FETCH w_API_VERSIONS w_LIST_OFFSETS w_METADATA w_OFFSET_COMMIT w_OFFSET_FETCH w_FIND_COORDINATOR w_JOIN_GROUP w_HEARTBEAT w_LEAVE_GROUP w_SYNC_GROUP w_DESCRIBE_GROUPS w_LIST_GROUPS w_DELETE_GROUPS h0 n0 v U'.heap L ∧ FrameEnd U o U' L room_1.cells room_1.slots) := by
  refine MetFree.of_bodySF (plainFor_of_name pn_com_example_liveness_liveness_protocol_ApiIsFlexiblePinLaw) hisR ?_
  intro p e s m args below meth c s₁ Bd hml0 hP hK
  obtain ⟨rfl, hZ, hh⟩ := hP
  have hx := Bd.exec
  have hby := Bd.bytes
  have hml : c.maxLocals = 5 := hml0
  have hown : s.vm.findClass "com/example/liveness/liveness/protocol/ApiIsFlexiblePinLaw" = some m.cls := findClass_of_methodNamed Bd.named
  have hnm := (name_of_methodNamed Bd.named Bd.method).1
  have X0 : Stand p l e room_1 s m #[(.int p0), (.int p1)] below meth c s₁ [] 0 0 := Stand.of_body Bd
  have e0 : s₁.heap = h0 := by rw [← hh, Bd.state]; rfl
  have N0 := Fr.nil n0
  show Go p e below (fun o U' => ∃ v L, o = .returned v ∧ Q0 Z p0 p1 w_FETCH w_API_VERSIONS w_LIST_OFFSETS w_METADATA w_OFFSET_COMMIT w_OFFSET_FETCH w_FIND_COORDINATOR w_JOIN_GROUP w_HEARTBEAT w_LEAVE_GROUP w_SYNC_GROUP w_DESCRIBE_GROUPS w_LIST_GROUPS w_DELETE_GROUPS h0 n0 v U'.heap L ∧ FrameEnd s o U' L room_1.cells room_1.slots) (s₁.setTop (entryFrame m #[(.int p0), (.int p1)] maxLocals))
  refine Go.of (fun _ k => castTop (ef_0 m p0 p1) k) ?_
  show Go p e below _ (s₁.setTop (mkF m 0 #[.val (.int p0), .val (.int p1), .unset, .unset, .unset] []))
  refine Go.of (fun _ k => XS.iloadN X0.here hx rfl (hb hby at_0) rfl  k) ?_
  show Go p e below _ (s₁.setTop (mkF m 1 #[.val (.int p0), .val (.int p1), .unset, .unset, .unset] [(.int p0)]))
  refine Go.of (fun _ k => X0.ldcInt hx hown (mvT hZ (hw _ (List.mem_of_getElem? (i := 0) rfl))) (g := (mkF m 1 #[.val (.int p0), .val (.int p1), .unset, .unset, .unset] [(.int p0)])) rfl (hb hby at_1) _ k) ?_
  show Go p e below _ (s₁.setTop (mkF m 3 #[.val (.int p0), .val (.int p1), .unset, .unset, .unset] [(.int (2147483647 : Int32)), (.int p0)]))
  refine Go.of (fun _ k => XS.iand X0.here hx rfl (hb hby at_3) rfl k) ?_
  show Go p e below _ (s₁.setTop (mkF m 4 #[.val (.int p0), .val (.int p1), .unset, .unset, .unset] [(.int (p0 &&& (2147483647 : Int32)))]))
  refine Go.of (fun _ k => XS.bipush X0.here hx rfl (hb hby at_4) k) ?_
  show Go p e below _ (s₁.setTop (mkF m 6 #[.val (.int p0), .val (.int p1), .unset, .unset, .unset] [(.int (14 : Int32)), (.int (p0 &&& (2147483647 : Int32)))]))
  refine Go.of (fun _ k => iremM X0 hx rfl (hb hby at_6) rfl (by decide) k) ?_
  show Go p e below _ (s₁.setTop (mkF m 7 #[.val (.int p0), .val (.int p1), .unset, .unset, .unset] [(.int ((p0 &&& (2147483647 : Int32)) % (14 : Int32)))]))
  by_cases hs1 : ((p0 &&& (2147483647 : Int32)) % (14 : Int32)) = (0 : Int32)
  ·
    show Go p e below _ (s₁.setTop (mkF m 7 #[.val (.int p0), .val (.int p1), .unset, .unset, .unset] [(.int ((p0 &&& (2147483647 : Int32)) % (14 : Int32)))]))
    obtain ⟨_, _, ⟨T2, L2, k2, n2⟩, -, X2, ⟨Lc2, hQ2, l2, y2, z2⟩, st2⟩ := Jvm.LawKit.callS X0 hx (y := (⟨"com/example/liveness/liveness/protocol/ApiIsFlexiblePinLaw", "pick", "(I)Lcom/example/liveness/liveness/protocol/Api;"⟩ : MethodName)) hown (mvT hZ (hw _ (List.mem_of_getElem? (i := 1) rfl))) (mvT hZ (hw _ (List.mem_of_getElem? (i := 2) rfl))) (mvT hZ (hw _ (List.mem_of_getElem? (i := 3) rfl))) (mvT hZ (hw _ (List.mem_of_getElem? (i := 4) rfl))) (by decide) (backOf (W := 0) (rm1_0 l Z a0 hw [] ((p0 &&& (2147483647 : Int32)) % (14 : Int32)) w_FETCH h0 n0 Z0 hs1 S_FETCH) hZ (hw _ (List.mem_of_getElem? (i := 4) rfl)) (hw _ (List.mem_of_getElem? (i := 3) rfl)) (by decide) (by decide)) (g := (mkF m 7 #[.val (.int p0), .val (.int p1), .unset, .unset, .unset] [(.int ((p0 &&& (2147483647 : Int32)) % (14 : Int32)))])) rfl (by rw [hml]; rfl) (argsL := [(.int ((p0 &&& (2147483647 : Int32)) % (14 : Int32)))]) (rest := []) (lenOf pd_0 rfl) rfl (by show 2 * 0 + _ ≤ _; exact Nat.le_of_eq rfl) (hb hby at_7) (fun _ _ => ⟨rfl, e0, (by decide : 0 + 0 ≤ _), (by decide : 0 + 0 ≤ _)⟩)
    dsimp only [Pt.U, Pt.locs, Pt.cells, Pt.slots] at X2 l2 y2 z2 st2 hQ2
    subst l2 y2 z2
    obtain ⟨rfl, Nq2, q2_0⟩ := hQ2
    have N2 := Fr.app N0 Nq2
    refine Go.of st2 ?_
    show Go p e below _ (T2.setTop (mkF m 10 #[.val (.int p0), .val (.int p1), .unset, .unset, .unset] [(.ref w_FETCH)]))
    refine Go.of (fun _ k => XS.astoreN X2.here hx rfl (hb hby at_10) rfl rfl (l' := #[.val (.int p0), .val (.int p1), .val (.ref w_FETCH), .unset, .unset]) rfl k) ?_
    show Go p e below _ (T2.setTop (mkF m 11 #[.val (.int p0), .val (.int p1), .val (.ref w_FETCH), .unset, .unset] []))
    refine Go.of (fun _ k => XS.iloadN X2.here hx rfl (hb hby at_11) rfl  k) ?_
    show Go p e below _ (T2.setTop (mkF m 12 #[.val (.int p0), .val (.int p1), .val (.ref w_FETCH), .unset, .unset] [(.int p1)]))
    refine Go.of (fun _ k => XS.i2s X2.here hx rfl (hb hby at_12) rfl k) ?_
    show Go p e below _ (T2.setTop (mkF m 13 #[.val (.int p0), .val (.int p1), .val (.ref w_FETCH), .unset, .unset] [(.int (p1.toInt16.toInt32))]))
    refine Go.of (fun _ k => XS.istoreN X2.here hx rfl (hb hby at_13) rfl (l' := #[.val (.int p0), .val (.int p1), .val (.ref w_FETCH), .val (.int (p1.toInt16.toInt32)), .unset]) rfl k) ?_
    show Go p e below _ (T2.setTop (mkF m 14 #[.val (.int p0), .val (.int p1), .val (.ref w_FETCH), .val (.int (p1.toInt16.toInt32)), .unset] []))
    refine Go.of (fun _ k => XS.iconst X2.here hx rfl (hb hby at_14) k) ?_
    show Go p e below _ (T2.setTop (mkF m 15 #[.val (.int p0), .val (.int p1), .val (.ref w_FETCH), .val (.int (p1.toInt16.toInt32)), .unset] [(.int (0 : Int32))]))
    refine Go.of (fun _ k => XS.istore X2.here hx rfl (hb hby at_15) rfl (l' := #[.val (.int p0), .val (.int p1), .val (.ref w_FETCH), .val (.int (p1.toInt16.toInt32)), .val (.int (0 : Int32))]) rfl k) ?_
    show Go p e below _ (T2.setTop (mkF m 17 #[.val (.int p0), .val (.int p1), .val (.ref w_FETCH), .val (.int (p1.toInt16.toInt32)), .val (.int (0 : Int32))] []))
    refine Go.of (fun _ k => XS.aloadN X2.here hx rfl (hb hby at_17) rfl rfl k) ?_
    show Go p e below _ (T2.setTop (mkF m 18 #[.val (.int p0), .val (.int p1), .val (.ref w_FETCH), .val (.int (p1.toInt16.toInt32)), .val (.int (0 : Int32))] [(.ref w_FETCH)]))
    obtain ⟨T3, X3, e3, st3⟩ := getS2 X2 hx hZ hown (host := "") (Or.inl (hw _ (List.mem_of_getElem? (i := 8) rfl))) Via.refl q2_0 S_API_VERSIONS (g := (mkF m 18 #[.val (.int p0), .val (.int p1), .val (.ref w_FETCH), .val (.int (p1.toInt16.toInt32)), .val (.int (0 : Int32))] [(.ref w_FETCH)])) rfl (hb hby at_18)
    refine Go.of st3 ?_
    show Go p e below _ (T3.setTop (mkF m 21 #[.val (.int p0), .val (.int p1), .val (.ref w_FETCH), .val (.int (p1.toInt16.toInt32)), .val (.int (0 : Int32))] [(.ref w_API_VERSIONS), (.ref w_FETCH)]))
    refine Go.of (fun _ k => Jvm.RoadKit.acmp (g := (mkF m 21 #[.val (.int p0), .val (.int p1), .val (.ref w_FETCH), .val (.int (p1.toInt16.toInt32)), .val (.int (0 : Int32))] [(.ref w_API_VERSIONS), (.ref w_FETCH)])) X3 hx rfl rfl rfl (pc0 := 21) (pc' := 36) (same := false) rfl (hb hby at_21) rfl (decide_eq_false fun q => (Ne.symm ne_w_API_VERSIONS_w_FETCH) (Value.ref.inj q)) (by decide) (by decide) k) ?_
    show Go p e below _ (T3.setTop (mkF m 36 #[.val (.int p0), .val (.int p1), .val (.ref w_FETCH), .val (.int (p1.toInt16.toInt32)), .val (.int (0 : Int32))] []))
    refine Go.of (fun _ k => XS.aloadN X3.here hx rfl (hb hby at_36) rfl rfl k) ?_
    show Go p e below _ (T3.setTop (mkF m 37 #[.val (.int p0), .val (.int p1), .val (.ref w_FETCH), .val (.int (p1.toInt16.toInt32)), .val (.int (0 : Int32))] [(.ref w_FETCH)]))
    refine Go.of (fun _ k => XS.iloadN X3.here hx rfl (hb hby at_37) rfl  k) ?_
    show Go p e below _ (T3.setTop (mkF m 38 #[.val (.int p0), .val (.int p1), .val (.ref w_FETCH), .val (.int (p1.toInt16.toInt32)), .val (.int (0 : Int32))] [(.int (p1.toInt16.toInt32)), (.ref w_FETCH)]))
    obtain ⟨cq4, kq4, q4a, q4b, q4c⟩ := isOf hZ e3 E_w_FETCH
    obtain ⟨_, _, ⟨T4, L4, k4, n4⟩, -, X4, ⟨Lc4, hQ4, l4, y4, z4⟩, st4⟩ := X3.virtualBack hx (y := (⟨"com/example/liveness/liveness/protocol/Api", "isFlexible", "(S)Z"⟩ : MethodName)) (z := (⟨"com/example/liveness/liveness/protocol/Api", "isFlexible", "(S)Z"⟩ : MethodName)) hown (mvT hZ (hw _ (List.mem_of_getElem? (i := 10) rfl))) (mvT hZ (hw _ (List.mem_of_getElem? (i := 11) rfl))) (notFace_of_selects (args := #[]) (mvT hZ (hw _ (List.mem_of_getElem? (i := 13) rfl)))) (mvT hZ (hw _ (List.mem_of_getElem? (i := 13) rfl))) (mvT hZ (hw _ (List.mem_of_getElem? (i := 12) rfl))) (by decide) (backOf (W := 0) (rm2_no l Z a0 hw [] w_FETCH (p1.toInt16.toInt32) (2147483647 : Int32) h0 n0 Z0 F_w_FETCH_firstFlexibleVersion (own_short p1)) hZ (hw _ (List.mem_of_getElem? (i := 14) rfl)) (hw _ (List.mem_of_getElem? (i := 6) rfl)) (by decide) (by decide)) q4a q4c (g := (mkF m 38 #[.val (.int p0), .val (.int p1), .val (.ref w_FETCH), .val (.int (p1.toInt16.toInt32)), .val (.int (0 : Int32))] [(.int (p1.toInt16.toInt32)), (.ref w_FETCH)])) rfl (by rw [hml]; rfl) (Steps.refl _) (argsL := [(.int (p1.toInt16.toInt32))]) (rest := []) (lenOf pd_1 rfl) rfl (by show 2 * 0 + _ ≤ _; exact Nat.le_of_eq rfl) (hb hby at_38) (fun _ _ => ⟨rfl, e3, (by decide : 0 + 0 ≤ _), (by decide : 0 + 0 ≤ _)⟩)
    dsimp only [Pt.U, Pt.locs, Pt.cells, Pt.slots] at X4 l4 y4 z4 st4 hQ4
    subst l4 y4 z4
    obtain ⟨rfl, Nq4, q4_0⟩ := hQ4
    have N4 := Fr.app N2 Nq4
    refine Go.tr st4 ?_
    show Go p e below _ (T4.setTop (mkF m 41 #[.val (.int p0), .val (.int p1), .val (.ref w_FETCH), .val (.int (p1.toInt16.toInt32)), .val (.int (0 : Int32))] [(.int (0 : Int32))]))
    refine Go.of (fun _ k => XS.iload X4.here hx rfl (hb hby at_41) rfl  k) ?_
    show Go p e below _ (T4.setTop (mkF m 43 #[.val (.int p0), .val (.int p1), .val (.ref w_FETCH), .val (.int (p1.toInt16.toInt32)), .val (.int (0 : Int32))] [(.int (0 : Int32)), (.int (0 : Int32))]))
    refine Go.of (fun _ k => XS.icmpNo X4.here hx rfl (hb hby at_43) rfl (teq (by decide : (0 : Int32) = (0 : Int32))).2 k) ?_
    show Go p e below _ (T4.setTop (mkF m 46 #[.val (.int p0), .val (.int p1), .val (.ref w_FETCH), .val (.int (p1.toInt16.toInt32)), .val (.int (0 : Int32))] []))
    refine Go.of (fun _ k => XS.iconst X4.here hx rfl (hb hby at_46) k) ?_
    show Go p e below _ (T4.setTop (mkF m 47 #[.val (.int p0), .val (.int p1), .val (.ref w_FETCH), .val (.int (p1.toInt16.toInt32)), .val (.int (0 : Int32))] [(.int (1 : Int32))]))
    refine Go.of (fun _ k => XS.goto X4.here hx rfl (pc0 := 47) (pc' := 51) rfl (hb hby at_47) (by decide) (by decide) k) ?_
    show Go p e below _ (T4.setTop (mkF m 51 #[.val (.int p0), .val (.int p1), .val (.ref w_FETCH), .val (.int (p1.toInt16.toInt32)), .val (.int (0 : Int32))] [(.int (1 : Int32))]))
    obtain ⟨fs, hr, hrun, hended, hW, hsame⟩ := X4.leave (v := some (.int (1 : Int32))) (fun h => by rw [Bd.returns] at h; cases h)
    refine Go.mk _ _ ?_ hrun hended ⟨_, _, rfl, ?_, ⟨_, rfl⟩, hW, hsame.mono (by decide) (by decide)⟩
    · exact retN X4 hx (t := .boolean) Bd.returns (by simp) (hb hby at_51) hr
    · show Q0 Z p0 p1 w_FETCH w_API_VERSIONS w_LIST_OFFSETS w_METADATA w_OFFSET_COMMIT w_OFFSET_FETCH w_FIND_COORDINATOR w_JOIN_GROUP w_HEARTBEAT w_LEAVE_GROUP w_SYNC_GROUP w_DESCRIBE_GROUPS w_LIST_GROUPS w_DELETE_GROUPS h0 n0 _ T4.heap _
      rw [q4_0]
      exact ⟨rfl, N4⟩
  ·
    show Go p e below _ (s₁.setTop (mkF m 7 #[.val (.int p0), .val (.int p1), .unset, .unset, .unset] [(.int ((p0 &&& (2147483647 : Int32)) % (14 : Int32)))]))
    by_cases hs6 : ((p0 &&& (2147483647 : Int32)) % (14 : Int32)) = (1 : Int32)
    ·
      show Go p e below _ (s₁.setTop (mkF m 7 #[.val (.int p0), .val (.int p1), .unset, .unset, .unset] [(.int ((p0 &&& (2147483647 : Int32)) % (14 : Int32)))]))
      obtain ⟨_, _, ⟨T7, L7, k7, n7⟩, -, X7, ⟨Lc7, hQ7, l7, y7, z7⟩, st7⟩ := Jvm.LawKit.callS X0 hx (y := (⟨"com/example/liveness/liveness/protocol/ApiIsFlexiblePinLaw", "pick", "(I)Lcom/example/liveness/liveness/protocol/Api;"⟩ : MethodName)) hown (mvT hZ (hw _ (List.mem_of_getElem? (i := 1) rfl))) (mvT hZ (hw _ (List.mem_of_getElem? (i := 2) rfl))) (mvT hZ (hw _ (List.mem_of_getElem? (i := 3) rfl))) (mvT hZ (hw _ (List.mem_of_getElem? (i := 4) rfl))) (by decide) (backOf (W := 0) (rm1_1 l Z a0 hw [] ((p0 &&& (2147483647 : Int32)) % (14 : Int32)) w_LIST_OFFSETS h0 n0 Z0 hs1 hs6 S_LIST_OFFSETS) hZ (hw _ (List.mem_of_getElem? (i := 4) rfl)) (hw _ (List.mem_of_getElem? (i := 3) rfl)) (by decide) (by decide)) (g := (mkF m 7 #[.val (.int p0), .val (.int p1), .unset, .unset, .unset] [(.int ((p0 &&& (2147483647 : Int32)) % (14 : Int32)))])) rfl (by rw [hml]; rfl) (argsL := [(.int ((p0 &&& (2147483647 : Int32)) % (14 : Int32)))]) (rest := []) (lenOf pd_0 rfl) rfl (by show 2 * 0 + _ ≤ _; exact Nat.le_of_eq rfl) (hb hby at_7) (fun _ _ => ⟨rfl, e0, (by decide : 0 + 0 ≤ _), (by decide : 0 + 0 ≤ _)⟩)
      dsimp only [Pt.U, Pt.locs, Pt.cells, Pt.slots] at X7 l7 y7 z7 st7 hQ7
      subst l7 y7 z7
      obtain ⟨rfl, Nq7, q7_0⟩ := hQ7
      have N7 := Fr.app N0 Nq7
      refine Go.of st7 ?_
      show Go p e below _ (T7.setTop (mkF m 10 #[.val (.int p0), .val (.int p1), .unset, .unset, .unset] [(.ref w_LIST_OFFSETS)]))
      refine Go.of (fun _ k => XS.astoreN X7.here hx rfl (hb hby at_10) rfl rfl (l' := #[.val (.int p0), .val (.int p1), .val (.ref w_LIST_OFFSETS), .unset, .unset]) rfl k) ?_
      show Go p e below _ (T7.setTop (mkF m 11 #[.val (.int p0), .val (.int p1), .val (.ref w_LIST_OFFSETS), .unset, .unset] []))
      refine Go.of (fun _ k => XS.iloadN X7.here hx rfl (hb hby at_11) rfl  k) ?_
      show Go p e below _ (T7.setTop (mkF m 12 #[.val (.int p0), .val (.int p1), .val (.ref w_LIST_OFFSETS), .unset, .unset] [(.int p1)]))
      refine Go.of (fun _ k => XS.i2s X7.here hx rfl (hb hby at_12) rfl k) ?_
      show Go p e below _ (T7.setTop (mkF m 13 #[.val (.int p0), .val (.int p1), .val (.ref w_LIST_OFFSETS), .unset, .unset] [(.int (p1.toInt16.toInt32))]))
      refine Go.of (fun _ k => XS.istoreN X7.here hx rfl (hb hby at_13) rfl (l' := #[.val (.int p0), .val (.int p1), .val (.ref w_LIST_OFFSETS), .val (.int (p1.toInt16.toInt32)), .unset]) rfl k) ?_
      show Go p e below _ (T7.setTop (mkF m 14 #[.val (.int p0), .val (.int p1), .val (.ref w_LIST_OFFSETS), .val (.int (p1.toInt16.toInt32)), .unset] []))
      refine Go.of (fun _ k => XS.iconst X7.here hx rfl (hb hby at_14) k) ?_
      show Go p e below _ (T7.setTop (mkF m 15 #[.val (.int p0), .val (.int p1), .val (.ref w_LIST_OFFSETS), .val (.int (p1.toInt16.toInt32)), .unset] [(.int (0 : Int32))]))
      refine Go.of (fun _ k => XS.istore X7.here hx rfl (hb hby at_15) rfl (l' := #[.val (.int p0), .val (.int p1), .val (.ref w_LIST_OFFSETS), .val (.int (p1.toInt16.toInt32)), .val (.int (0 : Int32))]) rfl k) ?_
      show Go p e below _ (T7.setTop (mkF m 17 #[.val (.int p0), .val (.int p1), .val (.ref w_LIST_OFFSETS), .val (.int (p1.toInt16.toInt32)), .val (.int (0 : Int32))] []))
      refine Go.of (fun _ k => XS.aloadN X7.here hx rfl (hb hby at_17) rfl rfl k) ?_
      show Go p e below _ (T7.setTop (mkF m 18 #[.val (.int p0), .val (.int p1), .val (.ref w_LIST_OFFSETS), .val (.int (p1.toInt16.toInt32)), .val (.int (0 : Int32))] [(.ref w_LIST_OFFSETS)]))
      obtain ⟨T8, X8, e8, st8⟩ := getS2 X7 hx hZ hown (host := "") (Or.inl (hw _ (List.mem_of_getElem? (i := 8) rfl))) Via.refl q7_0 S_API_VERSIONS (g := (mkF m 18 #[.val (.int p0), .val (.int p1), .val (.ref w_LIST_OFFSETS), .val (.int (p1.toInt16.toInt32)), .val (.int (0 : Int32))] [(.ref w_LIST_OFFSETS)])) rfl (hb hby at_18)
      refine Go.of st8 ?_
      show Go p e below _ (T8.setTop (mkF m 21 #[.val (.int p0), .val (.int p1), .val (.ref w_LIST_OFFSETS), .val (.int (p1.toInt16.toInt32)), .val (.int (0 : Int32))] [(.ref w_API_VERSIONS), (.ref w_LIST_OFFSETS)]))
      refine Go.of (fun _ k => Jvm.RoadKit.acmp (g := (mkF m 21 #[.val (.int p0), .val (.int p1), .val (.ref w_LIST_OFFSETS), .val (.int (p1.toInt16.toInt32)), .val (.int (0 : Int32))] [(.ref w_API_VERSIONS), (.ref w_LIST_OFFSETS)])) X8 hx rfl rfl rfl (pc0 := 21) (pc' := 36) (same := false) rfl (hb hby at_21) rfl (decide_eq_false fun q => (Ne.symm ne_w_API_VERSIONS_w_LIST_OFFSETS) (Value.ref.inj q)) (by decide) (by decide) k) ?_
      show Go p e below _ (T8.setTop (mkF m 36 #[.val (.int p0), .val (.int p1), .val (.ref w_LIST_OFFSETS), .val (.int (p1.toInt16.toInt32)), .val (.int (0 : Int32))] []))
      refine Go.of (fun _ k => XS.aloadN X8.here hx rfl (hb hby at_36) rfl rfl k) ?_
      show Go p e below _ (T8.setTop (mkF m 37 #[.val (.int p0), .val (.int p1), .val (.ref w_LIST_OFFSETS), .val (.int (p1.toInt16.toInt32)), .val (.int (0 : Int32))] [(.ref w_LIST_OFFSETS)]))
      refine Go.of (fun _ k => XS.iloadN X8.here hx rfl (hb hby at_37) rfl  k) ?_
      show Go p e below _ (T8.setTop (mkF m 38 #[.val (.int p0), .val (.int p1), .val (.ref w_LIST_OFFSETS), .val (.int (p1.toInt16.toInt32)), .val (.int (0 : Int32))] [(.int (p1.toInt16.toInt32)), (.ref w_LIST_OFFSETS)]))
      obtain ⟨cq9, kq9, q9a, q9b, q9c⟩ := isOf hZ e8 E_w_LIST_OFFSETS
      obtain ⟨_, _, ⟨T9, L9, k9, n9⟩, -, X9, ⟨Lc9, hQ9, l9, y9, z9⟩, st9⟩ := X8.virtualBack hx (y := (⟨"com/example/liveness/liveness/protocol/Api", "isFlexible", "(S)Z"⟩ : MethodName)) (z := (⟨"com/example/liveness/liveness/protocol/Api", "isFlexible", "(S)Z"⟩ : MethodName)) hown (mvT hZ (hw _ (List.mem_of_getElem? (i := 10) rfl))) (mvT hZ (hw _ (List.mem_of_getElem? (i := 11) rfl))) (notFace_of_selects (args := #[]) (mvT hZ (hw _ (List.mem_of_getElem? (i := 13) rfl)))) (mvT hZ (hw _ (List.mem_of_getElem? (i := 13) rfl))) (mvT hZ (hw _ (List.mem_of_getElem? (i := 12) rfl))) (by decide) (backOf (W := 0) (rm2_no l Z a0 hw [] w_LIST_OFFSETS (p1.toInt16.toInt32) (2147483647 : Int32) h0 n0 Z0 F_w_LIST_OFFSETS_firstFlexibleVersion (own_short p1)) hZ (hw _ (List.mem_of_getElem? (i := 14) rfl)) (hw _ (List.mem_of_getElem? (i := 6) rfl)) (by decide) (by decide)) q9a q9c (g := (mkF m 38 #[.val (.int p0), .val (.int p1), .val (.ref w_LIST_OFFSETS), .val (.int (p1.toInt16.toInt32)), .val (.int (0 : Int32))] [(.int (p1.toInt16.toInt32)), (.ref w_LIST_OFFSETS)])) rfl (by rw [hml]; rfl) (Steps.refl _) (argsL := [(.int (p1.toInt16.toInt32))]) (rest := []) (lenOf pd_1 rfl) rfl (by show 2 * 0 + _ ≤ _; exact Nat.le_of_eq rfl) (hb hby at_38) (fun _ _ => ⟨rfl, e8, (by decide : 0 + 0 ≤ _), (by decide : 0 + 0 ≤ _)⟩)
      dsimp only [Pt.U, Pt.locs, Pt.cells, Pt.slots] at X9 l9 y9 z9 st9 hQ9
      subst l9 y9 z9
      obtain ⟨rfl, Nq9, q9_0⟩ := hQ9
      have N9 := Fr.app N7 Nq9
      refine Go.tr st9 ?_
      show Go p e below _ (T9.setTop (mkF m 41 #[.val (.int p0), .val (.int p1), .val (.ref w_LIST_OFFSETS), .val (.int (p1.toInt16.toInt32)), .val (.int (0 : Int32))] [(.int (0 : Int32))]))
      refine Go.of (fun _ k => XS.iload X9.here hx rfl (hb hby at_41) rfl  k) ?_
      show Go p e below _ (T9.setTop (mkF m 43 #[.val (.int p0), .val (.int p1), .val (.ref w_LIST_OFFSETS), .val (.int (p1.toInt16.toInt32)), .val (.int (0 : Int32))] [(.int (0 : Int32)), (.int (0 : Int32))]))
      refine Go.of (fun _ k => XS.icmpNo X9.here hx rfl (hb hby at_43) rfl (teq (by decide : (0 : Int32) = (0 : Int32))).2 k) ?_
      show Go p e below _ (T9.setTop (mkF m 46 #[.val (.int p0), .val (.int p1), .val (.ref w_LIST_OFFSETS), .val (.int (p1.toInt16.toInt32)), .val (.int (0 : Int32))] []))
      refine Go.of (fun _ k => XS.iconst X9.here hx rfl (hb hby at_46) k) ?_
      show Go p e below _ (T9.setTop (mkF m 47 #[.val (.int p0), .val (.int p1), .val (.ref w_LIST_OFFSETS), .val (.int (p1.toInt16.toInt32)), .val (.int (0 : Int32))] [(.int (1 : Int32))]))
      refine Go.of (fun _ k => XS.goto X9.here hx rfl (pc0 := 47) (pc' := 51) rfl (hb hby at_47) (by decide) (by decide) k) ?_
      show Go p e below _ (T9.setTop (mkF m 51 #[.val (.int p0), .val (.int p1), .val (.ref w_LIST_OFFSETS), .val (.int (p1.toInt16.toInt32)), .val (.int (0 : Int32))] [(.int (1 : Int32))]))
      obtain ⟨fs, hr, hrun, hended, hW, hsame⟩ := X9.leave (v := some (.int (1 : Int32))) (fun h => by rw [Bd.returns] at h; cases h)
      refine Go.mk _ _ ?_ hrun hended ⟨_, _, rfl, ?_, ⟨_, rfl⟩, hW, hsame.mono (by decide) (by decide)⟩
      · exact retN X9 hx (t := .boolean) Bd.returns (by simp) (hb hby at_51) hr
      · show Q0 Z p0 p1 w_FETCH w_API_VERSIONS w_LIST_OFFSETS w_METADATA w_OFFSET_COMMIT w_OFFSET_FETCH w_FIND_COORDINATOR w_JOIN_GROUP w_HEARTBEAT w_LEAVE_GROUP w_SYNC_GROUP w_DESCRIBE_GROUPS w_LIST_GROUPS w_DELETE_GROUPS h0 n0 _ T9.heap _
        rw [q9_0]
        exact ⟨rfl, N9⟩
    ·
      show Go p e below _ (s₁.setTop (mkF m 7 #[.val (.int p0), .val (.int p1), .unset, .unset, .unset] [(.int ((p0 &&& (2147483647 : Int32)) % (14 : Int32)))]))
      by_cases hs11 : ((p0 &&& (2147483647 : Int32)) % (14 : Int32)) = (2 : Int32)
      ·
        show Go p e below _ (s₁.setTop (mkF m 7 #[.val (.int p0), .val (.int p1), .unset, .unset, .unset] [(.int ((p0 &&& (2147483647 : Int32)) % (14 : Int32)))]))
        obtain ⟨_, _, ⟨T12, L12, k12, n12⟩, -, X12, ⟨Lc12, hQ12, l12, y12, z12⟩, st12⟩ := Jvm.LawKit.callS X0 hx (y := (⟨"com/example/liveness/liveness/protocol/ApiIsFlexiblePinLaw", "pick", "(I)Lcom/example/liveness/liveness/protocol/Api;"⟩ : MethodName)) hown (mvT hZ (hw _ (List.mem_of_getElem? (i := 1) rfl))) (mvT hZ (hw _ (List.mem_of_getElem? (i := 2) rfl))) (mvT hZ (hw _ (List.mem_of_getElem? (i := 3) rfl))) (mvT hZ (hw _ (List.mem_of_getElem? (i := 4) rfl))) (by decide) (backOf (W := 0) (rm1_2 l Z a0 hw [] ((p0 &&& (2147483647 : Int32)) % (14 : Int32)) w_METADATA h0 n0 Z0 hs1 hs6 hs11 S_METADATA) hZ (hw _ (List.mem_of_getElem? (i := 4) rfl)) (hw _ (List.mem_of_getElem? (i := 3) rfl)) (by decide) (by decide)) (g := (mkF m 7 #[.val (.int p0), .val (.int p1), .unset, .unset, .unset] [(.int ((p0 &&& (2147483647 : Int32)) % (14 : Int32)))])) rfl (by rw [hml]; rfl) (argsL := [(.int ((p0 &&& (2147483647 : Int32)) % (14 : Int32)))]) (rest := []) (lenOf pd_0 rfl) rfl (by show 2 * 0 + _ ≤ _; exact Nat.le_of_eq rfl) (hb hby at_7) (fun _ _ => ⟨rfl, e0, (by decide : 0 + 0 ≤ _), (by decide : 0 + 0 ≤ _)⟩)
        dsimp only [Pt.U, Pt.locs, Pt.cells, Pt.slots] at X12 l12 y12 z12 st12 hQ12
        subst l12 y12 z12
        obtain ⟨rfl, Nq12, q12_0⟩ := hQ12
        have N12 := Fr.app N0 Nq12
        refine Go.of st12 ?_
        show Go p e below _ (T12.setTop (mkF m 10 #[.val (.int p0), .val (.int p1), .unset, .unset, .unset] [(.ref w_METADATA)]))
        refine Go.of (fun _ k => XS.astoreN X12.here hx rfl (hb hby at_10) rfl rfl (l' := #[.val (.int p0), .val (.int p1), .val (.ref w_METADATA), .unset, .unset]) rfl k) ?_
        show Go p e below _ (T12.setTop (mkF m 11 #[.val (.int p0), .val (.int p1), .val (.ref w_METADATA), .unset, .unset] []))
        refine Go.of (fun _ k => XS.iloadN X12.here hx rfl (hb hby at_11) rfl  k) ?_
        show Go p e below _ (T12.setTop (mkF m 12 #[.val (.int p0), .val (.int p1), .val (.ref w_METADATA), .unset, .unset] [(.int p1)]))
        refine Go.of (fun _ k => XS.i2s X12.here hx rfl (hb hby at_12) rfl k) ?_
        show Go p e below _ (T12.setTop (mkF m 13 #[.val (.int p0), .val (.int p1), .val (.ref w_METADATA), .unset, .unset] [(.int (p1.toInt16.toInt32))]))
        refine Go.of (fun _ k => XS.istoreN X12.here hx rfl (hb hby at_13) rfl (l' := #[.val (.int p0), .val (.int p1), .val (.ref w_METADATA), .val (.int (p1.toInt16.toInt32)), .unset]) rfl k) ?_
        show Go p e below _ (T12.setTop (mkF m 14 #[.val (.int p0), .val (.int p1), .val (.ref w_METADATA), .val (.int (p1.toInt16.toInt32)), .unset] []))
        refine Go.of (fun _ k => XS.iconst X12.here hx rfl (hb hby at_14) k) ?_
        show Go p e below _ (T12.setTop (mkF m 15 #[.val (.int p0), .val (.int p1), .val (.ref w_METADATA), .val (.int (p1.toInt16.toInt32)), .unset] [(.int (0 : Int32))]))
        refine Go.of (fun _ k => XS.istore X12.here hx rfl (hb hby at_15) rfl (l' := #[.val (.int p0), .val (.int p1), .val (.ref w_METADATA), .val (.int (p1.toInt16.toInt32)), .val (.int (0 : Int32))]) rfl k) ?_
        show Go p e below _ (T12.setTop (mkF m 17 #[.val (.int p0), .val (.int p1), .val (.ref w_METADATA), .val (.int (p1.toInt16.toInt32)), .val (.int (0 : Int32))] []))
        refine Go.of (fun _ k => XS.aloadN X12.here hx rfl (hb hby at_17) rfl rfl k) ?_
        show Go p e below _ (T12.setTop (mkF m 18 #[.val (.int p0), .val (.int p1), .val (.ref w_METADATA), .val (.int (p1.toInt16.toInt32)), .val (.int (0 : Int32))] [(.ref w_METADATA)]))
        obtain ⟨T13, X13, e13, st13⟩ := getS2 X12 hx hZ hown (host := "") (Or.inl (hw _ (List.mem_of_getElem? (i := 8) rfl))) Via.refl q12_0 S_API_VERSIONS (g := (mkF m 18 #[.val (.int p0), .val (.int p1), .val (.ref w_METADATA), .val (.int (p1.toInt16.toInt32)), .val (.int (0 : Int32))] [(.ref w_METADATA)])) rfl (hb hby at_18)
        refine Go.of st13 ?_
        show Go p e below _ (T13.setTop (mkF m 21 #[.val (.int p0), .val (.int p1), .val (.ref w_METADATA), .val (.int (p1.toInt16.toInt32)), .val (.int (0 : Int32))] [(.ref w_API_VERSIONS), (.ref w_METADATA)]))
        refine Go.of (fun _ k => Jvm.RoadKit.acmp (g := (mkF m 21 #[.val (.int p0), .val (.int p1), .val (.ref w_METADATA), .val (.int (p1.toInt16.toInt32)), .val (.int (0 : Int32))] [(.ref w_API_VERSIONS), (.ref w_METADATA)])) X13 hx rfl rfl rfl (pc0 := 21) (pc' := 36) (same := false) rfl (hb hby at_21) rfl (decide_eq_false fun q => (Ne.symm ne_w_API_VERSIONS_w_METADATA) (Value.ref.inj q)) (by decide) (by decide) k) ?_
        show Go p e below _ (T13.setTop (mkF m 36 #[.val (.int p0), .val (.int p1), .val (.ref w_METADATA), .val (.int (p1.toInt16.toInt32)), .val (.int (0 : Int32))] []))
        refine Go.of (fun _ k => XS.aloadN X13.here hx rfl (hb hby at_36) rfl rfl k) ?_
        show Go p e below _ (T13.setTop (mkF m 37 #[.val (.int p0), .val (.int p1), .val (.ref w_METADATA), .val (.int (p1.toInt16.toInt32)), .val (.int (0 : Int32))] [(.ref w_METADATA)]))
        refine Go.of (fun _ k => XS.iloadN X13.here hx rfl (hb hby at_37) rfl  k) ?_
        show Go p e below _ (T13.setTop (mkF m 38 #[.val (.int p0), .val (.int p1), .val (.ref w_METADATA), .val (.int (p1.toInt16.toInt32)), .val (.int (0 : Int32))] [(.int (p1.toInt16.toInt32)), (.ref w_METADATA)]))
        obtain ⟨cq14, kq14, q14a, q14b, q14c⟩ := isOf hZ e13 E_w_METADATA
        obtain ⟨_, _, ⟨T14, L14, k14, n14⟩, -, X14, ⟨Lc14, hQ14, l14, y14, z14⟩, st14⟩ := X13.virtualBack hx (y := (⟨"com/example/liveness/liveness/protocol/Api", "isFlexible", "(S)Z"⟩ : MethodName)) (z := (⟨"com/example/liveness/liveness/protocol/Api", "isFlexible", "(S)Z"⟩ : MethodName)) hown (mvT hZ (hw _ (List.mem_of_getElem? (i := 10) rfl))) (mvT hZ (hw _ (List.mem_of_getElem? (i := 11) rfl))) (notFace_of_selects (args := #[]) (mvT hZ (hw _ (List.mem_of_getElem? (i := 13) rfl)))) (mvT hZ (hw _ (List.mem_of_getElem? (i := 13) rfl))) (mvT hZ (hw _ (List.mem_of_getElem? (i := 12) rfl))) (by decide) (backOf (W := 0) (rm2_no l Z a0 hw [] w_METADATA (p1.toInt16.toInt32) (2147483647 : Int32) h0 n0 Z0 F_w_METADATA_firstFlexibleVersion (own_short p1)) hZ (hw _ (List.mem_of_getElem? (i := 14) rfl)) (hw _ (List.mem_of_getElem? (i := 6) rfl)) (by decide) (by decide)) q14a q14c (g := (mkF m 38 #[.val (.int p0), .val (.int p1), .val (.ref w_METADATA), .val (.int (p1.toInt16.toInt32)), .val (.int (0 : Int32))] [(.int (p1.toInt16.toInt32)), (.ref w_METADATA)])) rfl (by rw [hml]; rfl) (Steps.refl _) (argsL := [(.int (p1.toInt16.toInt32))]) (rest := []) (lenOf pd_1 rfl) rfl (by show 2 * 0 + _ ≤ _; exact Nat.le_of_eq rfl) (hb hby at_38) (fun _ _ => ⟨rfl, e13, (by decide : 0 + 0 ≤ _), (by decide : 0 + 0 ≤ _)⟩)
        dsimp only [Pt.U, Pt.locs, Pt.cells, Pt.slots] at X14 l14 y14 z14 st14 hQ14
        subst l14 y14 z14
        obtain ⟨rfl, Nq14, q14_0⟩ := hQ14
        have N14 := Fr.app N12 Nq14
        refine Go.tr st14 ?_
        show Go p e below _ (T14.setTop (mkF m 41 #[.val (.int p0), .val (.int p1), .val (.ref w_METADATA), .val (.int (p1.toInt16.toInt32)), .val (.int (0 : Int32))] [(.int (0 : Int32))]))
        refine Go.of (fun _ k => XS.iload X14.here hx rfl (hb hby at_41) rfl  k) ?_
        show Go p e below _ (T14.setTop (mkF m 43 #[.val (.int p0), .val (.int p1), .val (.ref w_METADATA), .val (.int (p1.toInt16.toInt32)), .val (.int (0 : Int32))] [(.int (0 : Int32)), (.int (0 : Int32))]))
        refine Go.of (fun _ k => XS.icmpNo X14.here hx rfl (hb hby at_43) rfl (teq (by decide : (0 : Int32) = (0 : Int32))).2 k) ?_
        show Go p e below _ (T14.setTop (mkF m 46 #[.val (.int p0), .val (.int p1), .val (.ref w_METADATA), .val (.int (p1.toInt16.toInt32)), .val (.int (0 : Int32))] []))
        refine Go.of (fun _ k => XS.iconst X14.here hx rfl (hb hby at_46) k) ?_
        show Go p e below _ (T14.setTop (mkF m 47 #[.val (.int p0), .val (.int p1), .val (.ref w_METADATA), .val (.int (p1.toInt16.toInt32)), .val (.int (0 : Int32))] [(.int (1 : Int32))]))
        refine Go.of (fun _ k => XS.goto X14.here hx rfl (pc0 := 47) (pc' := 51) rfl (hb hby at_47) (by decide) (by decide) k) ?_
        show Go p e below _ (T14.setTop (mkF m 51 #[.val (.int p0), .val (.int p1), .val (.ref w_METADATA), .val (.int (p1.toInt16.toInt32)), .val (.int (0 : Int32))] [(.int (1 : Int32))]))
        obtain ⟨fs, hr, hrun, hended, hW, hsame⟩ := X14.leave (v := some (.int (1 : Int32))) (fun h => by rw [Bd.returns] at h; cases h)
        refine Go.mk _ _ ?_ hrun hended ⟨_, _, rfl, ?_, ⟨_, rfl⟩, hW, hsame.mono (by decide) (by decide)⟩
        · exact retN X14 hx (t := .boolean) Bd.returns (by simp) (hb hby at_51) hr
        · show Q0 Z p0 p1 w_FETCH w_API_VERSIONS w_LIST_OFFSETS w_METADATA w_OFFSET_COMMIT w_OFFSET_FETCH w_FIND_COORDINATOR w_JOIN_GROUP w_HEARTBEAT w_LEAVE_GROUP w_SYNC_GROUP w_DESCRIBE_GROUPS w_LIST_GROUPS w_DELETE_GROUPS h0 n0 _ T14.heap _
          rw [q14_0]
          exact ⟨rfl, N14⟩
      ·
        show Go p e below _ (s₁.setTop (mkF m 7 #[.val (.int p0), .val (.int p1), .unset, .unset, .unset] [(.int ((p0 &&& (2147483647 : Int32)) % (14 : Int32)))]))
        by_cases hs16 : ((p0 &&& (2147483647 : Int32)) % (14 : Int32)) = (3 : Int32)
        ·
          show Go p e below _ (s₁.setTop (mkF m 7 #[.val (.int p0), .val (.int p1), .unset, .unset, .unset] [(.int ((p0 &&& (2147483647 : Int32)) % (14 : Int32)))]))
          obtain ⟨_, _, ⟨T17, L17, k17, n17⟩, -, X17, ⟨Lc17, hQ17, l17, y17, z17⟩, st17⟩ := Jvm.LawKit.callS X0 hx (y := (⟨"com/example/liveness/liveness/protocol/ApiIsFlexiblePinLaw", "pick", "(I)Lcom/example/liveness/liveness/protocol/Api;"⟩ : MethodName)) hown (mvT hZ (hw _ (List.mem_of_getElem? (i := 1) rfl))) (mvT hZ (hw _ (List.mem_of_getElem? (i := 2) rfl))) (mvT hZ (hw _ (List.mem_of_getElem? (i := 3) rfl))) (mvT hZ (hw _ (List.mem_of_getElem? (i := 4) rfl))) (by decide) (backOf (W := 0) (rm1_3 l Z a0 hw [] ((p0 &&& (2147483647 : Int32)) % (14 : Int32)) w_OFFSET_COMMIT h0 n0 Z0 hs1 hs6 hs11 hs16 S_OFFSET_COMMIT) hZ (hw _ (List.mem_of_getElem? (i := 4) rfl)) (hw _ (List.mem_of_getElem? (i := 3) rfl)) (by decide) (by decide)) (g := (mkF m 7 #[.val (.int p0), .val (.int p1), .unset, .unset, .unset] [(.int ((p0 &&& (2147483647 : Int32)) % (14 : Int32)))])) rfl (by rw [hml]; rfl) (argsL := [(.int ((p0 &&& (2147483647 : Int32)) % (14 : Int32)))]) (rest := []) (lenOf pd_0 rfl) rfl (by show 2 * 0 + _ ≤ _; exact Nat.le_of_eq rfl) (hb hby at_7) (fun _ _ => ⟨rfl, e0, (by decide : 0 + 0 ≤ _), (by decide : 0 + 0 ≤ _)⟩)
          dsimp only [Pt.U, Pt.locs, Pt.cells, Pt.slots] at X17 l17 y17 z17 st17 hQ17
          subst l17 y17 z17
          obtain ⟨rfl, Nq17, q17_0⟩ := hQ17
          have N17 := Fr.app N0 Nq17
          refine Go.of st17 ?_
          show Go p e below _ (T17.setTop (mkF m 10 #[.val (.int p0), .val (.int p1), .unset, .unset, .unset] [(.ref w_OFFSET_COMMIT)]))
          refine Go.of (fun _ k => XS.astoreN X17.here hx rfl (hb hby at_10) rfl rfl (l' := #[.val (.int p0), .val (.int p1), .val (.ref w_OFFSET_COMMIT), .unset, .unset]) rfl k) ?_
          show Go p e below _ (T17.setTop (mkF m 11 #[.val (.int p0), .val (.int p1), .val (.ref w_OFFSET_COMMIT), .unset, .unset] []))
          refine Go.of (fun _ k => XS.iloadN X17.here hx rfl (hb hby at_11) rfl  k) ?_
          show Go p e below _ (T17.setTop (mkF m 12 #[.val (.int p0), .val (.int p1), .val (.ref w_OFFSET_COMMIT), .unset, .unset] [(.int p1)]))
          refine Go.of (fun _ k => XS.i2s X17.here hx rfl (hb hby at_12) rfl k) ?_
          show Go p e below _ (T17.setTop (mkF m 13 #[.val (.int p0), .val (.int p1), .val (.ref w_OFFSET_COMMIT), .unset, .unset] [(.int (p1.toInt16.toInt32))]))
          refine Go.of (fun _ k => XS.istoreN X17.here hx rfl (hb hby at_13) rfl (l' := #[.val (.int p0), .val (.int p1), .val (.ref w_OFFSET_COMMIT), .val (.int (p1.toInt16.toInt32)), .unset]) rfl k) ?_
          show Go p e below _ (T17.setTop (mkF m 14 #[.val (.int p0), .val (.int p1), .val (.ref w_OFFSET_COMMIT), .val (.int (p1.toInt16.toInt32)), .unset] []))
          refine Go.of (fun _ k => XS.iconst X17.here hx rfl (hb hby at_14) k) ?_
          show Go p e below _ (T17.setTop (mkF m 15 #[.val (.int p0), .val (.int p1), .val (.ref w_OFFSET_COMMIT), .val (.int (p1.toInt16.toInt32)), .unset] [(.int (0 : Int32))]))
          refine Go.of (fun _ k => XS.istore X17.here hx rfl (hb hby at_15) rfl (l' := #[.val (.int p0), .val (.int p1), .val (.ref w_OFFSET_COMMIT), .val (.int (p1.toInt16.toInt32)), .val (.int (0 : Int32))]) rfl k) ?_
          show Go p e below _ (T17.setTop (mkF m 17 #[.val (.int p0), .val (.int p1), .val (.ref w_OFFSET_COMMIT), .val (.int (p1.toInt16.toInt32)), .val (.int (0 : Int32))] []))
          refine Go.of (fun _ k => XS.aloadN X17.here hx rfl (hb hby at_17) rfl rfl k) ?_
          show Go p e below _ (T17.setTop (mkF m 18 #[.val (.int p0), .val (.int p1), .val (.ref w_OFFSET_COMMIT), .val (.int (p1.toInt16.toInt32)), .val (.int (0 : Int32))] [(.ref w_OFFSET_COMMIT)]))
          obtain ⟨T18, X18, e18, st18⟩ := getS2 X17 hx hZ hown (host := "") (Or.inl (hw _ (List.mem_of_getElem? (i := 8) rfl))) Via.refl q17_0 S_API_VERSIONS (g := (mkF m 18 #[.val (.int p0), .val (.int p1), .val (.ref w_OFFSET_COMMIT), .val (.int (p1.toInt16.toInt32)), .val (.int (0 : Int32))] [(.ref w_OFFSET_COMMIT)])) rfl (hb hby at_18)
          refine Go.of st18 ?_
          show Go p e below _ (T18.setTop (mkF m 21 #[.val (.int p0), .val (.int p1), .val (.ref w_OFFSET_COMMIT), .val (.int (p1.toInt16.toInt32)), .val (.int (0 : Int32))] [(.ref w_API_VERSIONS), (.ref w_OFFSET_COMMIT)]))
          refine Go.of (fun _ k => Jvm.RoadKit.acmp (g := (mkF m 21 #[.val (.int p0), .val (.int p1), .val (.ref w_OFFSET_COMMIT), .val (.int (p1.toInt16.toInt32)), .val (.int (0 : Int32))] [(.ref w_API_VERSIONS), (.ref w_OFFSET_COMMIT)])) X18 hx rfl rfl rfl (pc0 := 21) (pc' := 36) (same := false) rfl (hb hby at_21) rfl (decide_eq_false fun q => (Ne.symm ne_w_API_VERSIONS_w_OFFSET_COMMIT) (Value.ref.inj q)) (by decide) (by decide) k) ?_
          show Go p e below _ (T18.setTop (mkF m 36 #[.val (.int p0), .val (.int p1), .val (.ref w_OFFSET_COMMIT), .val (.int (p1.toInt16.toInt32)), .val (.int (0 : Int32))] []))
          refine Go.of (fun _ k => XS.aloadN X18.here hx rfl (hb hby at_36) rfl rfl k) ?_
          show Go p e below _ (T18.setTop (mkF m 37 #[.val (.int p0), .val (.int p1), .val (.ref w_OFFSET_COMMIT), .val (.int (p1.toInt16.toInt32)), .val (.int (0 : Int32))] [(.ref w_OFFSET_COMMIT)]))
          refine Go.of (fun _ k => XS.iloadN X18.here hx rfl (hb hby at_37) rfl  k) ?_
          show Go p e below _ (T18.setTop (mkF m 38 #[.val (.int p0), .val (.int p1), .val (.ref w_OFFSET_COMMIT), .val (.int (p1.toInt16.toInt32)), .val (.int (0 : Int32))] [(.int (p1.toInt16.toInt32)), (.ref w_OFFSET_COMMIT)]))
          obtain ⟨cq19, kq19, q19a, q19b, q19c⟩ := isOf hZ e18 E_w_OFFSET_COMMIT
          obtain ⟨_, _, ⟨T19, L19, k19, n19⟩, -, X19, ⟨Lc19, hQ19, l19, y19, z19⟩, st19⟩ := X18.virtualBack hx (y := (⟨"com/example/liveness/liveness/protocol/Api", "isFlexible", "(S)Z"⟩ : MethodName)) (z := (⟨"com/example/liveness/liveness/protocol/Api", "isFlexible", "(S)Z"⟩ : MethodName)) hown (mvT hZ (hw _ (List.mem_of_getElem? (i := 10) rfl))) (mvT hZ (hw _ (List.mem_of_getElem? (i := 11) rfl))) (notFace_of_selects (args := #[]) (mvT hZ (hw _ (List.mem_of_getElem? (i := 13) rfl)))) (mvT hZ (hw _ (List.mem_of_getElem? (i := 13) rfl))) (mvT hZ (hw _ (List.mem_of_getElem? (i := 12) rfl))) (by decide) (backOf (W := 0) (rm2_no l Z a0 hw [] w_OFFSET_COMMIT (p1.toInt16.toInt32) (2147483647 : Int32) h0 n0 Z0 F_w_OFFSET_COMMIT_firstFlexibleVersion (own_short p1)) hZ (hw _ (List.mem_of_getElem? (i := 14) rfl)) (hw _ (List.mem_of_getElem? (i := 6) rfl)) (by decide) (by decide)) q19a q19c (g := (mkF m 38 #[.val (.int p0), .val (.int p1), .val (.ref w_OFFSET_COMMIT), .val (.int (p1.toInt16.toInt32)), .val (.int (0 : Int32))] [(.int (p1.toInt16.toInt32)), (.ref w_OFFSET_COMMIT)])) rfl (by rw [hml]; rfl) (Steps.refl _) (argsL := [(.int (p1.toInt16.toInt32))]) (rest := []) (lenOf pd_1 rfl) rfl (by show 2 * 0 + _ ≤ _; exact Nat.le_of_eq rfl) (hb hby at_38) (fun _ _ => ⟨rfl, e18, (by decide : 0 + 0 ≤ _), (by decide : 0 + 0 ≤ _)⟩)
          dsimp only [Pt.U, Pt.locs, Pt.cells, Pt.slots] at X19 l19 y19 z19 st19 hQ19
          subst l19 y19 z19
          obtain ⟨rfl, Nq19, q19_0⟩ := hQ19
          have N19 := Fr.app N17 Nq19
          refine Go.tr st19 ?_
          show Go p e below _ (T19.setTop (mkF m 41 #[.val (.int p0), .val (.int p1), .val (.ref w_OFFSET_COMMIT), .val (.int (p1.toInt16.toInt32)), .val (.int (0 : Int32))] [(.int (0 : Int32))]))
          refine Go.of (fun _ k => XS.iload X19.here hx rfl (hb hby at_41) rfl  k) ?_
          show Go p e below _ (T19.setTop (mkF m 43 #[.val (.int p0), .val (.int p1), .val (.ref w_OFFSET_COMMIT), .val (.int (p1.toInt16.toInt32)), .val (.int (0 : Int32))] [(.int (0 : Int32)), (.int (0 : Int32))]))
          refine Go.of (fun _ k => XS.icmpNo X19.here hx rfl (hb hby at_43) rfl (teq (by decide : (0 : Int32) = (0 : Int32))).2 k) ?_
          show Go p e below _ (T19.setTop (mkF m 46 #[.val (.int p0), .val (.int p1), .val (.ref w_OFFSET_COMMIT), .val (.int (p1.toInt16.toInt32)), .val (.int (0 : Int32))] []))
          refine Go.of (fun _ k => XS.iconst X19.here hx rfl (hb hby at_46) k) ?_
          show Go p e below _ (T19.setTop (mkF m 47 #[.val (.int p0), .val (.int p1), .val (.ref w_OFFSET_COMMIT), .val (.int (p1.toInt16.toInt32)), .val (.int (0 : Int32))] [(.int (1 : Int32))]))
          refine Go.of (fun _ k => XS.goto X19.here hx rfl (pc0 := 47) (pc' := 51) rfl (hb hby at_47) (by decide) (by decide) k) ?_
          show Go p e below _ (T19.setTop (mkF m 51 #[.val (.int p0), .val (.int p1), .val (.ref w_OFFSET_COMMIT), .val (.int (p1.toInt16.toInt32)), .val (.int (0 : Int32))] [(.int (1 : Int32))]))
          obtain ⟨fs, hr, hrun, hended, hW, hsame⟩ := X19.leave (v := some (.int (1 : Int32))) (fun h => by rw [Bd.returns] at h; cases h)
          refine Go.mk _ _ ?_ hrun hended ⟨_, _, rfl, ?_, ⟨_, rfl⟩, hW, hsame.mono (by decide) (by decide)⟩
          · exact retN X19 hx (t := .boolean) Bd.returns (by simp) (hb hby at_51) hr
          · show Q0 Z p0 p1 w_FETCH w_API_VERSIONS w_LIST_OFFSETS w_METADATA w_OFFSET_COMMIT w_OFFSET_FETCH w_FIND_COORDINATOR w_JOIN_GROUP w_HEARTBEAT w_LEAVE_GROUP w_SYNC_GROUP w_DESCRIBE_GROUPS w_LIST_GROUPS w_DELETE_GROUPS h0 n0 _ T19.heap _
            rw [q19_0]
            exact ⟨rfl, N19⟩
        ·
          show Go p e below _ (s₁.setTop (mkF m 7 #[.val (.int p0), .val (.int p1), .unset, .unset, .unset] [(.int ((p0 &&& (2147483647 : Int32)) % (14 : Int32)))]))
          by_cases hs21 : ((p0 &&& (2147483647 : Int32)) % (14 : Int32)) = (4 : Int32)
          ·
            show Go p e below _ (s₁.setTop (mkF m 7 #[.val (.int p0), .val (.int p1), .unset, .unset, .unset] [(.int ((p0 &&& (2147483647 : Int32)) % (14 : Int32)))]))
            obtain ⟨_, _, ⟨T22, L22, k22, n22⟩, -, X22, ⟨Lc22, hQ22, l22, y22, z22⟩, st22⟩ := Jvm.LawKit.callS X0 hx (y := (⟨"com/example/liveness/liveness/protocol/ApiIsFlexiblePinLaw", "pick", "(I)Lcom/example/liveness/liveness/protocol/Api;"⟩ : MethodName)) hown (mvT hZ (hw _ (List.mem_of_getElem? (i := 1) rfl))) (mvT hZ (hw _ (List.mem_of_getElem? (i := 2) rfl))) (mvT hZ (hw _ (List.mem_of_getElem? (i := 3) rfl))) (mvT hZ (hw _ (List.mem_of_getElem? (i := 4) rfl))) (by decide) (backOf (W := 0) (rm1_4 l Z a0 hw [] ((p0 &&& (2147483647 : Int32)) % (14 : Int32)) w_OFFSET_FETCH h0 n0 Z0 hs1 hs6 hs11 hs16 hs21 S_OFFSET_FETCH) hZ (hw _ (List.mem_of_getElem? (i := 4) rfl)) (hw _ (List.mem_of_getElem? (i := 3) rfl)) (by decide) (by decide)) (g := (mkF m 7 #[.val (.int p0), .val (.int p1), .unset, .unset, .unset] [(.int ((p0 &&& (2147483647 : Int32)) % (14 : Int32)))])) rfl (by rw [hml]; rfl) (argsL := [(.int ((p0 &&& (2147483647 : Int32)) % (14 : Int32)))]) (rest := []) (lenOf pd_0 rfl) rfl (by show 2 * 0 + _ ≤ _; exact Nat.le_of_eq rfl) (hb hby at_7) (fun _ _ => ⟨rfl, e0, (by decide : 0 + 0 ≤ _), (by decide : 0 + 0 ≤ _)⟩)
            dsimp only [Pt.U, Pt.locs, Pt.cells, Pt.slots] at X22 l22 y22 z22 st22 hQ22
            subst l22 y22 z22
            obtain ⟨rfl, Nq22, q22_0⟩ := hQ22
            have N22 := Fr.app N0 Nq22
            refine Go.of st22 ?_
            show Go p e below _ (T22.setTop (mkF m 10 #[.val (.int p0), .val (.int p1), .unset, .unset, .unset] [(.ref w_OFFSET_FETCH)]))
            refine Go.of (fun _ k => XS.astoreN X22.here hx rfl (hb hby at_10) rfl rfl (l' := #[.val (.int p0), .val (.int p1), .val (.ref w_OFFSET_FETCH), .unset, .unset]) rfl k) ?_
            show Go p e below _ (T22.setTop (mkF m 11 #[.val (.int p0), .val (.int p1), .val (.ref w_OFFSET_FETCH), .unset, .unset] []))
            refine Go.of (fun _ k => XS.iloadN X22.here hx rfl (hb hby at_11) rfl  k) ?_
            show Go p e below _ (T22.setTop (mkF m 12 #[.val (.int p0), .val (.int p1), .val (.ref w_OFFSET_FETCH), .unset, .unset] [(.int p1)]))
            refine Go.of (fun _ k => XS.i2s X22.here hx rfl (hb hby at_12) rfl k) ?_
            show Go p e below _ (T22.setTop (mkF m 13 #[.val (.int p0), .val (.int p1), .val (.ref w_OFFSET_FETCH), .unset, .unset] [(.int (p1.toInt16.toInt32))]))
            refine Go.of (fun _ k => XS.istoreN X22.here hx rfl (hb hby at_13) rfl (l' := #[.val (.int p0), .val (.int p1), .val (.ref w_OFFSET_FETCH), .val (.int (p1.toInt16.toInt32)), .unset]) rfl k) ?_
            show Go p e below _ (T22.setTop (mkF m 14 #[.val (.int p0), .val (.int p1), .val (.ref w_OFFSET_FETCH), .val (.int (p1.toInt16.toInt32)), .unset] []))
            refine Go.of (fun _ k => XS.iconst X22.here hx rfl (hb hby at_14) k) ?_
            show Go p e below _ (T22.setTop (mkF m 15 #[.val (.int p0), .val (.int p1), .val (.ref w_OFFSET_FETCH), .val (.int (p1.toInt16.toInt32)), .unset] [(.int (0 : Int32))]))
            refine Go.of (fun _ k => XS.istore X22.here hx rfl (hb hby at_15) rfl (l' := #[.val (.int p0), .val (.int p1), .val (.ref w_OFFSET_FETCH), .val (.int (p1.toInt16.toInt32)), .val (.int (0 : Int32))]) rfl k) ?_
            show Go p e below _ (T22.setTop (mkF m 17 #[.val (.int p0), .val (.int p1), .val (.ref w_OFFSET_FETCH), .val (.int (p1.toInt16.toInt32)), .val (.int (0 : Int32))] []))
            refine Go.of (fun _ k => XS.aloadN X22.here hx rfl (hb hby at_17) rfl rfl k) ?_
            show Go p e below _ (T22.setTop (mkF m 18 #[.val (.int p0), .val (.int p1), .val (.ref w_OFFSET_FETCH), .val (.int (p1.toInt16.toInt32)), .val (.int (0 : Int32))] [(.ref w_OFFSET_FETCH)]))
            obtain ⟨T23, X23, e23, st23⟩ := getS2 X22 hx hZ hown (host := "") (Or.inl (hw _ (List.mem_of_getElem? (i := 8) rfl))) Via.refl q22_0 S_API_VERSIONS (g := (mkF m 18 #[.val (.int p0), .val (.int p1), .val (.ref w_OFFSET_FETCH), .val (.int (p1.toInt16.toInt32)), .val (.int (0 : Int32))] [(.ref w_OFFSET_FETCH)])) rfl (hb hby at_18)
            refine Go.of st23 ?_
            show Go p e below _ (T23.setTop (mkF m 21 #[.val (.int p0), .val (.int p1), .val (.ref w_OFFSET_FETCH), .val (.int (p1.toInt16.toInt32)), .val (.int (0 : Int32))] [(.ref w_API_VERSIONS), (.ref w_OFFSET_FETCH)]))
            refine Go.of (fun _ k => Jvm.RoadKit.acmp (g := (mkF m 21 #[.val (.int p0), .val (.int p1), .val (.ref w_OFFSET_FETCH), .val (.int (p1.toInt16.toInt32)), .val (.int (0 : Int32))] [(.ref w_API_VERSIONS), (.ref w_OFFSET_FETCH)])) X23 hx rfl rfl rfl (pc0 := 21) (pc' := 36) (same := false) rfl (hb hby at_21) rfl (decide_eq_false fun q => (Ne.symm ne_w_API_VERSIONS_w_OFFSET_FETCH) (Value.ref.inj q)) (by decide) (by decide) k) ?_
            show Go p e below _ (T23.setTop (mkF m 36 #[.val (.int p0), .val (.int p1), .val (.ref w_OFFSET_FETCH), .val (.int (p1.toInt16.toInt32)), .val (.int (0 : Int32))] []))
            refine Go.of (fun _ k => XS.aloadN X23.here hx rfl (hb hby at_36) rfl rfl k) ?_
            show Go p e below _ (T23.setTop (mkF m 37 #[.val (.int p0), .val (.int p1), .val (.ref w_OFFSET_FETCH), .val (.int (p1.toInt16.toInt32)), .val (.int (0 : Int32))] [(.ref w_OFFSET_FETCH)]))
            refine Go.of (fun _ k => XS.iloadN X23.here hx rfl (hb hby at_37) rfl  k) ?_
            show Go p e below _ (T23.setTop (mkF m 38 #[.val (.int p0), .val (.int p1), .val (.ref w_OFFSET_FETCH), .val (.int (p1.toInt16.toInt32)), .val (.int (0 : Int32))] [(.int (p1.toInt16.toInt32)), (.ref w_OFFSET_FETCH)]))
            obtain ⟨cq24, kq24, q24a, q24b, q24c⟩ := isOf hZ e23 E_w_OFFSET_FETCH
            obtain ⟨_, _, ⟨T24, L24, k24, n24⟩, -, X24, ⟨Lc24, hQ24, l24, y24, z24⟩, st24⟩ := X23.virtualBack hx (y := (⟨"com/example/liveness/liveness/protocol/Api", "isFlexible", "(S)Z"⟩ : MethodName)) (z := (⟨"com/example/liveness/liveness/protocol/Api", "isFlexible", "(S)Z"⟩ : MethodName)) hown (mvT hZ (hw _ (List.mem_of_getElem? (i := 10) rfl))) (mvT hZ (hw _ (List.mem_of_getElem? (i := 11) rfl))) (notFace_of_selects (args := #[]) (mvT hZ (hw _ (List.mem_of_getElem? (i := 13) rfl)))) (mvT hZ (hw _ (List.mem_of_getElem? (i := 13) rfl))) (mvT hZ (hw _ (List.mem_of_getElem? (i := 12) rfl))) (by decide) (backOf (W := 0) (rm2_no l Z a0 hw [] w_OFFSET_FETCH (p1.toInt16.toInt32) (2147483647 : Int32) h0 n0 Z0 F_w_OFFSET_FETCH_firstFlexibleVersion (own_short p1)) hZ (hw _ (List.mem_of_getElem? (i := 14) rfl)) (hw _ (List.mem_of_getElem? (i := 6) rfl)) (by decide) (by decide)) q24a q24c (g := (mkF m 38 #[.val (.int p0), .val (.int p1), .val (.ref w_OFFSET_FETCH), .val (.int (p1.toInt16.toInt32)), .val (.int (0 : Int32))] [(.int (p1.toInt16.toInt32)), (.ref w_OFFSET_FETCH)])) rfl (by rw [hml]; rfl) (Steps.refl _) (argsL := [(.int (p1.toInt16.toInt32))]) (rest := []) (lenOf pd_1 rfl) rfl (by show 2 * 0 + _ ≤ _; exact Nat.le_of_eq rfl) (hb hby at_38) (fun _ _ => ⟨rfl, e23, (by decide : 0 + 0 ≤ _), (by decide : 0 + 0 ≤ _)⟩)
            dsimp only [Pt.U, Pt.locs, Pt.cells, Pt.slots] at X24 l24 y24 z24 st24 hQ24
            subst l24 y24 z24
            obtain ⟨rfl, Nq24, q24_0⟩ := hQ24
            have N24 := Fr.app N22 Nq24
            refine Go.tr st24 ?_
            show Go p e below _ (T24.setTop (mkF m 41 #[.val (.int p0), .val (.int p1), .val (.ref w_OFFSET_FETCH), .val (.int (p1.toInt16.toInt32)), .val (.int (0 : Int32))] [(.int (0 : Int32))]))
            refine Go.of (fun _ k => XS.iload X24.here hx rfl (hb hby at_41) rfl  k) ?_
            show Go p e below _ (T24.setTop (mkF m 43 #[.val (.int p0), .val (.int p1), .val (.ref w_OFFSET_FETCH), .val (.int (p1.toInt16.toInt32)), .val (.int (0 : Int32))] [(.int (0 : Int32)), (.int (0 : Int32))]))
            refine Go.of (fun _ k => XS.icmpNo X24.here hx rfl (hb hby at_43) rfl (teq (by decide : (0 : Int32) = (0 : Int32))).2 k) ?_
            show Go p e below _ (T24.setTop (mkF m 46 #[.val (.int p0), .val (.int p1), .val (.ref w_OFFSET_FETCH), .val (.int (p1.toInt16.toInt32)), .val (.int (0 : Int32))] []))
            refine Go.of (fun _ k => XS.iconst X24.here hx rfl (hb hby at_46) k) ?_
            show Go p e below _ (T24.setTop (mkF m 47 #[.val (.int p0), .val (.int p1), .val (.ref w_OFFSET_FETCH), .val (.int (p1.toInt16.toInt32)), .val (.int (0 : Int32))] [(.int (1 : Int32))]))
            refine Go.of (fun _ k => XS.goto X24.here hx rfl (pc0 := 47) (pc' := 51) rfl (hb hby at_47) (by decide) (by decide) k) ?_
            show Go p e below _ (T24.setTop (mkF m 51 #[.val (.int p0), .val (.int p1), .val (.ref w_OFFSET_FETCH), .val (.int (p1.toInt16.toInt32)), .val (.int (0 : Int32))] [(.int (1 : Int32))]))
            obtain ⟨fs, hr, hrun, hended, hW, hsame⟩ := X24.leave (v := some (.int (1 : Int32))) (fun h => by rw [Bd.returns] at h; cases h)
            refine Go.mk _ _ ?_ hrun hended ⟨_, _, rfl, ?_, ⟨_, rfl⟩, hW, hsame.mono (by decide) (by decide)⟩
            · exact retN X24 hx (t := .boolean) Bd.returns (by simp) (hb hby at_51) hr
            · show Q0 Z p0 p1 w_FETCH w_API_VERSIONS w_LIST_OFFSETS w_METADATA w_OFFSET_COMMIT w_OFFSET_FETCH w_FIND_COORDINATOR w_JOIN_GROUP w_HEARTBEAT w_LEAVE_GROUP w_SYNC_GROUP w_DESCRIBE_GROUPS w_LIST_GROUPS w_DELETE_GROUPS h0 n0 _ T24.heap _
              rw [q24_0]
              exact ⟨rfl, N24⟩
          ·
            show Go p e below _ (s₁.setTop (mkF m 7 #[.val (.int p0), .val (.int p1), .unset, .unset, .unset] [(.int ((p0 &&& (2147483647 : Int32)) % (14 : Int32)))]))
            by_cases hs26 : ((p0 &&& (2147483647 : Int32)) % (14 : Int32)) = (5 : Int32)
            ·
              show Go p e below _ (s₁.setTop (mkF m 7 #[.val (.int p0), .val (.int p1), .unset, .unset, .unset] [(.int ((p0 &&& (2147483647 : Int32)) % (14 : Int32)))]))
              obtain ⟨_, _, ⟨T27, L27, k27, n27⟩, -, X27, ⟨Lc27, hQ27, l27, y27, z27⟩, st27⟩ := Jvm.LawKit.callS X0 hx (y := (⟨"com/example/liveness/liveness/protocol/ApiIsFlexiblePinLaw", "pick", "(I)Lcom/example/liveness/liveness/protocol/Api;"⟩ : MethodName)) hown (mvT hZ (hw _ (List.mem_of_getElem? (i := 1) rfl))) (mvT hZ (hw _ (List.mem_of_getElem? (i := 2) rfl))) (mvT hZ (hw _ (List.mem_of_getElem? (i := 3) rfl))) (mvT hZ (hw _ (List.mem_of_getElem? (i := 4) rfl))) (by decide) (backOf (W := 0) (rm1_5 l Z a0 hw [] ((p0 &&& (2147483647 : Int32)) % (14 : Int32)) w_FIND_COORDINATOR h0 n0 Z0 hs1 hs6 hs11 hs16 hs21 hs26 S_FIND_COORDINATOR) hZ (hw _ (List.mem_of_getElem? (i := 4) rfl)) (hw _ (List.mem_of_getElem? (i := 3) rfl)) (by decide) (by decide)) (g := (mkF m 7 #[.val (.int p0), .val (.int p1), .unset, .unset, .unset] [(.int ((p0 &&& (2147483647 : Int32)) % (14 : Int32)))])) rfl (by rw [hml]; rfl) (argsL := [(.int ((p0 &&& (2147483647 : Int32)) % (14 : Int32)))]) (rest := []) (lenOf pd_0 rfl) rfl (by show 2 * 0 + _ ≤ _; exact Nat.le_of_eq rfl) (hb hby at_7) (fun _ _ => ⟨rfl, e0, (by decide : 0 + 0 ≤ _), (by decide : 0 + 0 ≤ _)⟩)
              dsimp only [Pt.U, Pt.locs, Pt.cells, Pt.slots] at X27 l27 y27 z27 st27 hQ27
              subst l27 y27 z27
              obtain ⟨rfl, Nq27, q27_0⟩ := hQ27
              have N27 := Fr.app N0 Nq27
              refine Go.of st27 ?_
              show Go p e below _ (T27.setTop (mkF m 10 #[.val (.int p0), .val (.int p1), .unset, .unset, .unset] [(.ref w_FIND_COORDINATOR)]))
              refine Go.of (fun _ k => XS.astoreN X27.here hx rfl (hb hby at_10) rfl rfl (l' := #[.val (.int p0), .val (.int p1), .val (.ref w_FIND_COORDINATOR), .unset, .unset]) rfl k) ?_
              show Go p e below _ (T27.setTop (mkF m 11 #[.val (.int p0), .val (.int p1), .val (.ref w_FIND_COORDINATOR), .unset, .unset] []))
              refine Go.of (fun _ k => XS.iloadN X27.here hx rfl (hb hby at_11) rfl  k) ?_
              show Go p e below _ (T27.setTop (mkF m 12 #[.val (.int p0), .val (.int p1), .val (.ref w_FIND_COORDINATOR), .unset, .unset] [(.int p1)]))
              refine Go.of (fun _ k => XS.i2s X27.here hx rfl (hb hby at_12) rfl k) ?_
              show Go p e below _ (T27.setTop (mkF m 13 #[.val (.int p0), .val (.int p1), .val (.ref w_FIND_COORDINATOR), .unset, .unset] [(.int (p1.toInt16.toInt32))]))
              refine Go.of (fun _ k => XS.istoreN X27.here hx rfl (hb hby at_13) rfl (l' := #[.val (.int p0), .val (.int p1), .val (.ref w_FIND_COORDINATOR), .val (.int (p1.toInt16.toInt32)), .unset]) rfl k) ?_
              show Go p e below _ (T27.setTop (mkF m 14 #[.val (.int p0), .val (.int p1), .val (.ref w_FIND_COORDINATOR), .val (.int (p1.toInt16.toInt32)), .unset] []))
              refine Go.of (fun _ k => XS.iconst X27.here hx rfl (hb hby at_14) k) ?_
              show Go p e below _ (T27.setTop (mkF m 15 #[.val (.int p0), .val (.int p1), .val (.ref w_FIND_COORDINATOR), .val (.int (p1.toInt16.toInt32)), .unset] [(.int (0 : Int32))]))
              refine Go.of (fun _ k => XS.istore X27.here hx rfl (hb hby at_15) rfl (l' := #[.val (.int p0), .val (.int p1), .val (.ref w_FIND_COORDINATOR), .val (.int (p1.toInt16.toInt32)), .val (.int (0 : Int32))]) rfl k) ?_
              show Go p e below _ (T27.setTop (mkF m 17 #[.val (.int p0), .val (.int p1), .val (.ref w_FIND_COORDINATOR), .val (.int (p1.toInt16.toInt32)), .val (.int (0 : Int32))] []))
              refine Go.of (fun _ k => XS.aloadN X27.here hx rfl (hb hby at_17) rfl rfl k) ?_
              show Go p e below _ (T27.setTop (mkF m 18 #[.val (.int p0), .val (.int p1), .val (.ref w_FIND_COORDINATOR), .val (.int (p1.toInt16.toInt32)), .val (.int (0 : Int32))] [(.ref w_FIND_COORDINATOR)]))
              obtain ⟨T28, X28, e28, st28⟩ := getS2 X27 hx hZ hown (host := "") (Or.inl (hw _ (List.mem_of_getElem? (i := 8) rfl))) Via.refl q27_0 S_API_VERSIONS (g := (mkF m 18 #[.val (.int p0), .val (.int p1), .val (.ref w_FIND_COORDINATOR), .val (.int (p1.toInt16.toInt32)), .val (.int (0 : Int32))] [(.ref w_FIND_COORDINATOR)])) rfl (hb hby at_18)
              refine Go.of st28 ?_
              show Go p e below _ (T28.setTop (mkF m 21 #[.val (.int p0), .val (.int p1), .val (.ref w_FIND_COORDINATOR), .val (.int (p1.toInt16.toInt32)), .val (.int (0 : Int32))] [(.ref w_API_VERSIONS), (.ref w_FIND_COORDINATOR)]))
              refine Go.of (fun _ k => Jvm.RoadKit.acmp (g := (mkF m 21 #[.val (.int p0), .val (.int p1), .val (.ref w_FIND_COORDINATOR), .val (.int (p1.toInt16.toInt32)), .val (.int (0 : Int32))] [(.ref w_API_VERSIONS), (.ref w_FIND_COORDINATOR)])) X28 hx rfl rfl rfl (pc0 := 21) (pc' := 36) (same := false) rfl (hb hby at_21) rfl (decide_eq_false fun q => (Ne.symm ne_w_API_VERSIONS_w_FIND_COORDINATOR) (Value.ref.inj q)) (by decide) (by decide) k) ?_
              show Go p e below _ (T28.setTop (mkF m 36 #[.val (.int p0), .val (.int p1), .val (.ref w_FIND_COORDINATOR), .val (.int (p1.toInt16.toInt32)), .val (.int (0 : Int32))] []))
              refine Go.of (fun _ k => XS.aloadN X28.here hx rfl (hb hby at_36) rfl rfl k) ?_
              show Go p e below _ (T28.setTop (mkF m 37 #[.val (.int p0), .val (.int p1), .val (.ref w_FIND_COORDINATOR), .val (.int (p1.toInt16.toInt32)), .val (.int (0 : Int32))] [(.ref w_FIND_COORDINATOR)]))
              refine Go.of (fun _ k => XS.iloadN X28.here hx rfl (hb hby at_37) rfl  k) ?_
              show Go p e below _ (T28.setTop (mkF m 38 #[.val (.int p0), .val (.int p1), .val (.ref w_FIND_COORDINATOR), .val (.int (p1.toInt16.toInt32)), .val (.int (0 : Int32))] [(.int (p1.toInt16.toInt32)), (.ref w_FIND_COORDINATOR)]))
              obtain ⟨cq29, kq29, q29a, q29b, q29c⟩ := isOf hZ e28 E_w_FIND_COORDINATOR
              obtain ⟨_, _, ⟨T29, L29, k29, n29⟩, -, X29, ⟨Lc29, hQ29, l29, y29, z29⟩, st29⟩ := X28.virtualBack hx (y := (⟨"com/example/liveness/liveness/protocol/Api", "isFlexible", "(S)Z"⟩ : MethodName)) (z := (⟨"com/example/liveness/liveness/protocol/Api", "isFlexible", "(S)Z"⟩ : MethodName)) hown (mvT hZ (hw _ (List.mem_of_getElem? (i := 10) rfl))) (mvT hZ (hw _ (List.mem_of_getElem? (i := 11) rfl))) (notFace_of_selects (args := #[]) (mvT hZ (hw _ (List.mem_of_getElem? (i := 13) rfl)))) (mvT hZ (hw _ (List.mem_of_getElem? (i := 13) rfl))) (mvT hZ (hw _ (List.mem_of_getElem? (i := 12) rfl))) (by decide) (backOf (W := 0) (rm2_no l Z a0 hw [] w_FIND_COORDINATOR (p1.toInt16.toInt32) (2147483647 : Int32) h0 n0 Z0 F_w_FIND_COORDINATOR_firstFlexibleVersion (own_short p1)) hZ (hw _ (List.mem_of_getElem? (i := 14) rfl)) (hw _ (List.mem_of_getElem? (i := 6) rfl)) (by decide) (by decide)) q29a q29c (g := (mkF m 38 #[.val (.int p0), .val (.int p1), .val (.ref w_FIND_COORDINATOR), .val (.int (p1.toInt16.toInt32)), .val (.int (0 : Int32))] [(.int (p1.toInt16.toInt32)), (.ref w_FIND_COORDINATOR)])) rfl (by rw [hml]; rfl) (Steps.refl _) (argsL := [(.int (p1.toInt16.toInt32))]) (rest := []) (lenOf pd_1 rfl) rfl (by show 2 * 0 + _ ≤ _; exact Nat.le_of_eq rfl) (hb hby at_38) (fun _ _ => ⟨rfl, e28, (by decide : 0 + 0 ≤ _), (by decide : 0 + 0 ≤ _)⟩)
              dsimp only [Pt.U, Pt.locs, Pt.cells, Pt.slots] at X29 l29 y29 z29 st29 hQ29
              subst l29 y29 z29
              obtain ⟨rfl, Nq29, q29_0⟩ := hQ29
              have N29 := Fr.app N27 Nq29
              refine Go.tr st29 ?_
              show Go p e below _ (T29.setTop (mkF m 41 #[.val (.int p0), .val (.int p1), .val (.ref w_FIND_COORDINATOR), .val (.int (p1.toInt16.toInt32)), .val (.int (0 : Int32))] [(.int (0 : Int32))]))
              refine Go.of (fun _ k => XS.iload X29.here hx rfl (hb hby at_41) rfl  k) ?_
              show Go p e below _ (T29.setTop (mkF m 43 #[.val (.int p0), .val (.int p1), .val (.ref w_FIND_COORDINATOR), .val (.int (p1.toInt16.toInt32)), .val (.int (0 : Int32))] [(.int (0 : Int32)), (.int (0 : Int32))]))
              refine Go.of (fun _ k => XS.icmpNo X29.here hx rfl (hb hby at_43) rfl (teq (by decide : (0 : Int32) = (0 : Int32))).2 k) ?_
              show Go p e below _ (T29.setTop (mkF m 46 #[.val (.int p0), .val (.int p1), .val (.ref w_FIND_COORDINATOR), .val (.int (p1.toInt16.toInt32)), .val (.int (0 : Int32))] []))
              refine Go.of (fun _ k => XS.iconst X29.here hx rfl (hb hby at_46) k) ?_
              show Go p e below _ (T29.setTop (mkF m 47 #[.val (.int p0), .val (.int p1), .val (.ref w_FIND_COORDINATOR), .val (.int (p1.toInt16.toInt32)), .val (.int (0 : Int32))] [(.int (1 : Int32))]))
              refine Go.of (fun _ k => XS.goto X29.here hx rfl (pc0 := 47) (pc' := 51) rfl (hb hby at_47) (by decide) (by decide) k) ?_
              show Go p e below _ (T29.setTop (mkF m 51 #[.val (.int p0), .val (.int p1), .val (.ref w_FIND_COORDINATOR), .val (.int (p1.toInt16.toInt32)), .val (.int (0 : Int32))] [(.int (1 : Int32))]))
              obtain ⟨fs, hr, hrun, hended, hW, hsame⟩ := X29.leave (v := some (.int (1 : Int32))) (fun h => by rw [Bd.returns] at h; cases h)
              refine Go.mk _ _ ?_ hrun hended ⟨_, _, rfl, ?_, ⟨_, rfl⟩, hW, hsame.mono (by decide) (by decide)⟩
              · exact retN X29 hx (t := .boolean) Bd.returns (by simp) (hb hby at_51) hr
              · show Q0 Z p0 p1 w_FETCH w_API_VERSIONS w_LIST_OFFSETS w_METADATA w_OFFSET_COMMIT w_OFFSET_FETCH w_FIND_COORDINATOR w_JOIN_GROUP w_HEARTBEAT w_LEAVE_GROUP w_SYNC_GROUP w_DESCRIBE_GROUPS w_LIST_GROUPS w_DELETE_GROUPS h0 n0 _ T29.heap _
                rw [q29_0]
                exact ⟨rfl, N29⟩
            ·
              show Go p e below _ (s₁.setTop (mkF m 7 #[.val (.int p0), .val (.int p1), .unset, .unset, .unset] [(.int ((p0 &&& (2147483647 : Int32)) % (14 : Int32)))]))
              by_cases hs31 : ((p0 &&& (2147483647 : Int32)) % (14 : Int32)) = (6 : Int32)
              ·
                show Go p e below _ (s₁.setTop (mkF m 7 #[.val (.int p0), .val (.int p1), .unset, .unset, .unset] [(.int ((p0 &&& (2147483647 : Int32)) % (14 : Int32)))]))
                obtain ⟨_, _, ⟨T32, L32, k32, n32⟩, -, X32, ⟨Lc32, hQ32, l32, y32, z32⟩, st32⟩ := Jvm.LawKit.callS X0 hx (y := (⟨"com/example/liveness/liveness/protocol/ApiIsFlexiblePinLaw", "pick", "(I)Lcom/example/liveness/liveness/protocol/Api;"⟩ : MethodName)) hown (mvT hZ (hw _ (List.mem_of_getElem? (i := 1) rfl))) (mvT hZ (hw _ (List.mem_of_getElem? (i := 2) rfl))) (mvT hZ (hw _ (List.mem_of_getElem? (i := 3) rfl))) (mvT hZ (hw _ (List.mem_of_getElem? (i := 4) rfl))) (by decide) (backOf (W := 0) (rm1_6 l Z a0 hw [] ((p0 &&& (2147483647 : Int32)) % (14 : Int32)) w_JOIN_GROUP h0 n0 Z0 hs1 hs6 hs11 hs16 hs21 hs26 hs31 S_JOIN_GROUP) hZ (hw _ (List.mem_of_getElem? (i := 4) rfl)) (hw _ (List.mem_of_getElem? (i := 3) rfl)) (by decide) (by decide)) (g := (mkF m 7 #[.val (.int p0), .val (.int p1), .unset, .unset, .unset] [(.int ((p0 &&& (2147483647 : Int32)) % (14 : Int32)))])) rfl (by rw [hml]; rfl) (argsL := [(.int ((p0 &&& (2147483647 : Int32)) % (14 : Int32)))]) (rest := []) (lenOf pd_0 rfl) rfl (by show 2 * 0 + _ ≤ _; exact Nat.le_of_eq rfl) (hb hby at_7) (fun _ _ => ⟨rfl, e0, (by decide : 0 + 0 ≤ _), (by decide : 0 + 0 ≤ _)⟩)
                dsimp only [Pt.U, Pt.locs, Pt.cells, Pt.slots] at X32 l32 y32 z32 st32 hQ32
                subst l32 y32 z32
                obtain ⟨rfl, Nq32, q32_0⟩ := hQ32
                have N32 := Fr.app N0 Nq32
                refine Go.of st32 ?_
                show Go p e below _ (T32.setTop (mkF m 10 #[.val (.int p0), .val (.int p1), .unset, .unset, .unset] [(.ref w_JOIN_GROUP)]))
                refine Go.of (fun _ k => XS.astoreN X32.here hx rfl (hb hby at_10) rfl rfl (l' := #[.val (.int p0), .val (.int p1), .val (.ref w_JOIN_GROUP), .unset, .unset]) rfl k) ?_
                show Go p e below _ (T32.setTop (mkF m 11 #[.val (.int p0), .val (.int p1), .val (.ref w_JOIN_GROUP), .unset, .unset] []))
                refine Go.of (fun _ k => XS.iloadN X32.here hx rfl (hb hby at_11) rfl  k) ?_
                show Go p e below _ (T32.setTop (mkF m 12 #[.val (.int p0), .val (.int p1), .val (.ref w_JOIN_GROUP), .unset, .unset] [(.int p1)]))
                refine Go.of (fun _ k => XS.i2s X32.here hx rfl (hb hby at_12) rfl k) ?_
                show Go p e below _ (T32.setTop (mkF m 13 #[.val (.int p0), .val (.int p1), .val (.ref w_JOIN_GROUP), .unset, .unset] [(.int (p1.toInt16.toInt32))]))
                refine Go.of (fun _ k => XS.istoreN X32.here hx rfl (hb hby at_13) rfl (l' := #[.val (.int p0), .val (.int p1), .val (.ref w_JOIN_GROUP), .val (.int (p1.toInt16.toInt32)), .unset]) rfl k) ?_
                show Go p e below _ (T32.setTop (mkF m 14 #[.val (.int p0), .val (.int p1), .val (.ref w_JOIN_GROUP), .val (.int (p1.toInt16.toInt32)), .unset] []))
                refine Go.of (fun _ k => XS.iconst X32.here hx rfl (hb hby at_14) k) ?_
                show Go p e below _ (T32.setTop (mkF m 15 #[.val (.int p0), .val (.int p1), .val (.ref w_JOIN_GROUP), .val (.int (p1.toInt16.toInt32)), .unset] [(.int (0 : Int32))]))
                refine Go.of (fun _ k => XS.istore X32.here hx rfl (hb hby at_15) rfl (l' := #[.val (.int p0), .val (.int p1), .val (.ref w_JOIN_GROUP), .val (.int (p1.toInt16.toInt32)), .val (.int (0 : Int32))]) rfl k) ?_
                show Go p e below _ (T32.setTop (mkF m 17 #[.val (.int p0), .val (.int p1), .val (.ref w_JOIN_GROUP), .val (.int (p1.toInt16.toInt32)), .val (.int (0 : Int32))] []))
                refine Go.of (fun _ k => XS.aloadN X32.here hx rfl (hb hby at_17) rfl rfl k) ?_
                show Go p e below _ (T32.setTop (mkF m 18 #[.val (.int p0), .val (.int p1), .val (.ref w_JOIN_GROUP), .val (.int (p1.toInt16.toInt32)), .val (.int (0 : Int32))] [(.ref w_JOIN_GROUP)]))
                obtain ⟨T33, X33, e33, st33⟩ := getS2 X32 hx hZ hown (host := "") (Or.inl (hw _ (List.mem_of_getElem? (i := 8) rfl))) Via.refl q32_0 S_API_VERSIONS (g := (mkF m 18 #[.val (.int p0), .val (.int p1), .val (.ref w_JOIN_GROUP), .val (.int (p1.toInt16.toInt32)), .val (.int (0 : Int32))] [(.ref w_JOIN_GROUP)])) rfl (hb hby at_18)
                refine Go.of st33 ?_
                show Go p e below _ (T33.setTop (mkF m 21 #[.val (.int p0), .val (.int p1), .val (.ref w_JOIN_GROUP), .val (.int (p1.toInt16.toInt32)), .val (.int (0 : Int32))] [(.ref w_API_VERSIONS), (.ref w_JOIN_GROUP)]))
                refine Go.of (fun _ k => Jvm.RoadKit.acmp (g := (mkF m 21 #[.val (.int p0), .val (.int p1), .val (.ref w_JOIN_GROUP), .val (.int (p1.toInt16.toInt32)), .val (.int (0 : Int32))] [(.ref w_API_VERSIONS), (.ref w_JOIN_GROUP)])) X33 hx rfl rfl rfl (pc0 := 21) (pc' := 36) (same := false) rfl (hb hby at_21) rfl (decide_eq_false fun q => (Ne.symm ne_w_API_VERSIONS_w_JOIN_GROUP) (Value.ref.inj q)) (by decide) (by decide) k) ?_
                show Go p e below _ (T33.setTop (mkF m 36 #[.val (.int p0), .val (.int p1), .val (.ref w_JOIN_GROUP), .val (.int (p1.toInt16.toInt32)), .val (.int (0 : Int32))] []))
                refine Go.of (fun _ k => XS.aloadN X33.here hx rfl (hb hby at_36) rfl rfl k) ?_
                show Go p e below _ (T33.setTop (mkF m 37 #[.val (.int p0), .val (.int p1), .val (.ref w_JOIN_GROUP), .val (.int (p1.toInt16.toInt32)), .val (.int (0 : Int32))] [(.ref w_JOIN_GROUP)]))
                refine Go.of (fun _ k => XS.iloadN X33.here hx rfl (hb hby at_37) rfl  k) ?_
                show Go p e below _ (T33.setTop (mkF m 38 #[.val (.int p0), .val (.int p1), .val (.ref w_JOIN_GROUP), .val (.int (p1.toInt16.toInt32)), .val (.int (0 : Int32))] [(.int (p1.toInt16.toInt32)), (.ref w_JOIN_GROUP)]))
                obtain ⟨cq34, kq34, q34a, q34b, q34c⟩ := isOf hZ e33 E_w_JOIN_GROUP
                obtain ⟨_, _, ⟨T34, L34, k34, n34⟩, -, X34, ⟨Lc34, hQ34, l34, y34, z34⟩, st34⟩ := X33.virtualBack hx (y := (⟨"com/example/liveness/liveness/protocol/Api", "isFlexible", "(S)Z"⟩ : MethodName)) (z := (⟨"com/example/liveness/liveness/protocol/Api", "isFlexible", "(S)Z"⟩ : MethodName)) hown (mvT hZ (hw _ (List.mem_of_getElem? (i := 10) rfl))) (mvT hZ (hw _ (List.mem_of_getElem? (i := 11) rfl))) (notFace_of_selects (args := #[]) (mvT hZ (hw _ (List.mem_of_getElem? (i := 13) rfl)))) (mvT hZ (hw _ (List.mem_of_getElem? (i := 13) rfl))) (mvT hZ (hw _ (List.mem_of_getElem? (i := 12) rfl))) (by decide) (backOf (W := 0) (rm2_no l Z a0 hw [] w_JOIN_GROUP (p1.toInt16.toInt32) (2147483647 : Int32) h0 n0 Z0 F_w_JOIN_GROUP_firstFlexibleVersion (own_short p1)) hZ (hw _ (List.mem_of_getElem? (i := 14) rfl)) (hw _ (List.mem_of_getElem? (i := 6) rfl)) (by decide) (by decide)) q34a q34c (g := (mkF m 38 #[.val (.int p0), .val (.int p1), .val (.ref w_JOIN_GROUP), .val (.int (p1.toInt16.toInt32)), .val (.int (0 : Int32))] [(.int (p1.toInt16.toInt32)), (.ref w_JOIN_GROUP)])) rfl (by rw [hml]; rfl) (Steps.refl _) (argsL := [(.int (p1.toInt16.toInt32))]) (rest := []) (lenOf pd_1 rfl) rfl (by show 2 * 0 + _ ≤ _; exact Nat.le_of_eq rfl) (hb hby at_38) (fun _ _ => ⟨rfl, e33, (by decide : 0 + 0 ≤ _), (by decide : 0 + 0 ≤ _)⟩)
                dsimp only [Pt.U, Pt.locs, Pt.cells, Pt.slots] at X34 l34 y34 z34 st34 hQ34
                subst l34 y34 z34
                obtain ⟨rfl, Nq34, q34_0⟩ := hQ34
                have N34 := Fr.app N32 Nq34
                refine Go.tr st34 ?_
                show Go p e below _ (T34.setTop (mkF m 41 #[.val (.int p0), .val (.int p1), .val (.ref w_JOIN_GROUP), .val (.int (p1.toInt16.toInt32)), .val (.int (0 : Int32))] [(.int (0 : Int32))]))
                refine Go.of (fun _ k => XS.iload X34.here hx rfl (hb hby at_41) rfl  k) ?_
                show Go p e below _ (T34.setTop (mkF m 43 #[.val (.int p0), .val (.int p1), .val (.ref w_JOIN_GROUP), .val (.int (p1.toInt16.toInt32)), .val (.int (0 : Int32))] [(.int (0 : Int32)), (.int (0 : Int32))]))
                refine Go.of (fun _ k => XS.icmpNo X34.here hx rfl (hb hby at_43) rfl (teq (by decide : (0 : Int32) = (0 : Int32))).2 k) ?_
                show Go p e below _ (T34.setTop (mkF m 46 #[.val (.int p0), .val (.int p1), .val (.ref w_JOIN_GROUP), .val (.int (p1.toInt16.toInt32)), .val (.int (0 : Int32))] []))
                refine Go.of (fun _ k => XS.iconst X34.here hx rfl (hb hby at_46) k) ?_
                show Go p e below _ (T34.setTop (mkF m 47 #[.val (.int p0), .val (.int p1), .val (.ref w_JOIN_GROUP), .val (.int (p1.toInt16.toInt32)), .val (.int (0 : Int32))] [(.int (1 : Int32))]))
                refine Go.of (fun _ k => XS.goto X34.here hx rfl (pc0 := 47) (pc' := 51) rfl (hb hby at_47) (by decide) (by decide) k) ?_
                show Go p e below _ (T34.setTop (mkF m 51 #[.val (.int p0), .val (.int p1), .val (.ref w_JOIN_GROUP), .val (.int (p1.toInt16.toInt32)), .val (.int (0 : Int32))] [(.int (1 : Int32))]))
                obtain ⟨fs, hr, hrun, hended, hW, hsame⟩ := X34.leave (v := some (.int (1 : Int32))) (fun h => by rw [Bd.returns] at h; cases h)
                refine Go.mk _ _ ?_ hrun hended ⟨_, _, rfl, ?_, ⟨_, rfl⟩, hW, hsame.mono (by decide) (by decide)⟩
                · exact retN X34 hx (t := .boolean) Bd.returns (by simp) (hb hby at_51) hr
                · show Q0 Z p0 p1 w_FETCH w_API_VERSIONS w_LIST_OFFSETS w_METADATA w_OFFSET_COMMIT w_OFFSET_FETCH w_FIND_COORDINATOR w_JOIN_GROUP w_HEARTBEAT w_LEAVE_GROUP w_SYNC_GROUP w_DESCRIBE_GROUPS w_LIST_GROUPS w_DELETE_GROUPS h0 n0 _ T34.heap _
                  rw [q34_0]
                  exact ⟨rfl, N34⟩
              ·
                show Go p e below _ (s₁.setTop (mkF m 7 #[.val (.int p0), .val (.int p1), .unset, .unset, .unset] [(.int ((p0 &&& (2147483647 : Int32)) % (14 : Int32)))]))
                by_cases hs36 : ((p0 &&& (2147483647 : Int32)) % (14 : Int32)) = (7 : Int32)
                ·
                  show Go p e below _ (s₁.setTop (mkF m 7 #[.val (.int p0), .val (.int p1), .unset, .unset, .unset] [(.int ((p0 &&& (2147483647 : Int32)) % (14 : Int32)))]))
                  obtain ⟨_, _, ⟨T37, L37, k37, n37⟩, -, X37, ⟨Lc37, hQ37, l37, y37, z37⟩, st37⟩ := Jvm.LawKit.callS X0 hx (y := (⟨"com/example/liveness/liveness/protocol/ApiIsFlexiblePinLaw", "pick", "(I)Lcom/example/liveness/liveness/protocol/Api;"⟩ : MethodName)) hown (mvT hZ (hw _ (List.mem_of_getElem? (i := 1) rfl))) (mvT hZ (hw _ (List.mem_of_getElem? (i := 2) rfl))) (mvT hZ (hw _ (List.mem_of_getElem? (i := 3) rfl))) (mvT hZ (hw _ (List.mem_of_getElem? (i := 4) rfl))) (by decide) (backOf (W := 0) (rm1_7 l Z a0 hw [] ((p0 &&& (2147483647 : Int32)) % (14 : Int32)) w_HEARTBEAT h0 n0 Z0 hs1 hs6 hs11 hs16 hs21 hs26 hs31 hs36 S_HEARTBEAT) hZ (hw _ (List.mem_of_getElem? (i := 4) rfl)) (hw _ (List.mem_of_getElem? (i := 3) rfl)) (by decide) (by decide)) (g := (mkF m 7 #[.val (.int p0), .val (.int p1), .unset, .unset, .unset] [(.int ((p0 &&& (2147483647 : Int32)) % (14 : Int32)))])) rfl (by rw [hml]; rfl) (argsL := [(.int ((p0 &&& (2147483647 : Int32)) % (14 : Int32)))]) (rest := []) (lenOf pd_0 rfl) rfl (by show 2 * 0 + _ ≤ _; exact Nat.le_of_eq rfl) (hb hby at_7) (fun _ _ => ⟨rfl, e0, (by decide : 0 + 0 ≤ _), (by decide : 0 + 0 ≤ _)⟩)
                  dsimp only [Pt.U, Pt.locs, Pt.cells, Pt.slots] at X37 l37 y37 z37 st37 hQ37
                  subst l37 y37 z37
                  obtain ⟨rfl, Nq37, q37_0⟩ := hQ37
                  have N37 := Fr.app N0 Nq37
                  refine Go.of st37 ?_
                  show Go p e below _ (T37.setTop (mkF m 10 #[.val (.int p0), .val (.int p1), .unset, .unset, .unset] [(.ref w_HEARTBEAT)]))
                  refine Go.of (fun _ k => XS.astoreN X37.here hx rfl (hb hby at_10) rfl rfl (l' := #[.val (.int p0), .val (.int p1), .val (.ref w_HEARTBEAT), .unset, .unset]) rfl k) ?_
                  show Go p e below _ (T37.setTop (mkF m 11 #[.val (.int p0), .val (.int p1), .val (.ref w_HEARTBEAT), .unset, .unset] []))
                  refine Go.of (fun _ k => XS.iloadN X37.here hx rfl (hb hby at_11) rfl  k) ?_
                  show Go p e below _ (T37.setTop (mkF m 12 #[.val (.int p0), .val (.int p1), .val (.ref w_HEARTBEAT), .unset, .unset] [(.int p1)]))
                  refine Go.of (fun _ k => XS.i2s X37.here hx rfl (hb hby at_12) rfl k) ?_
                  show Go p e below _ (T37.setTop (mkF m 13 #[.val (.int p0), .val (.int p1), .val (.ref w_HEARTBEAT), .unset, .unset] [(.int (p1.toInt16.toInt32))]))
                  refine Go.of (fun _ k => XS.istoreN X37.here hx rfl (hb hby at_13) rfl (l' := #[.val (.int p0), .val (.int p1), .val (.ref w_HEARTBEAT), .val (.int (p1.toInt16.toInt32)), .unset]) rfl k) ?_
                  show Go p e below _ (T37.setTop (mkF m 14 #[.val (.int p0), .val (.int p1), .val (.ref w_HEARTBEAT), .val (.int (p1.toInt16.toInt32)), .unset] []))
                  refine Go.of (fun _ k => XS.iconst X37.here hx rfl (hb hby at_14) k) ?_
                  show Go p e below _ (T37.setTop (mkF m 15 #[.val (.int p0), .val (.int p1), .val (.ref w_HEARTBEAT), .val (.int (p1.toInt16.toInt32)), .unset] [(.int (0 : Int32))]))
                  refine Go.of (fun _ k => XS.istore X37.here hx rfl (hb hby at_15) rfl (l' := #[.val (.int p0), .val (.int p1), .val (.ref w_HEARTBEAT), .val (.int (p1.toInt16.toInt32)), .val (.int (0 : Int32))]) rfl k) ?_
                  show Go p e below _ (T37.setTop (mkF m 17 #[.val (.int p0), .val (.int p1), .val (.ref w_HEARTBEAT), .val (.int (p1.toInt16.toInt32)), .val (.int (0 : Int32))] []))
                  refine Go.of (fun _ k => XS.aloadN X37.here hx rfl (hb hby at_17) rfl rfl k) ?_
                  show Go p e below _ (T37.setTop (mkF m 18 #[.val (.int p0), .val (.int p1), .val (.ref w_HEARTBEAT), .val (.int (p1.toInt16.toInt32)), .val (.int (0 : Int32))] [(.ref w_HEARTBEAT)]))
                  obtain ⟨T38, X38, e38, st38⟩ := getS2 X37 hx hZ hown (host := "") (Or.inl (hw _ (List.mem_of_getElem? (i := 8) rfl))) Via.refl q37_0 S_API_VERSIONS (g := (mkF m 18 #[.val (.int p0), .val (.int p1), .val (.ref w_HEARTBEAT), .val (.int (p1.toInt16.toInt32)), .val (.int (0 : Int32))] [(.ref w_HEARTBEAT)])) rfl (hb hby at_18)
                  refine Go.of st38 ?_
                  show Go p e below _ (T38.setTop (mkF m 21 #[.val (.int p0), .val (.int p1), .val (.ref w_HEARTBEAT), .val (.int (p1.toInt16.toInt32)), .val (.int (0 : Int32))] [(.ref w_API_VERSIONS), (.ref w_HEARTBEAT)]))
                  refine Go.of (fun _ k => Jvm.RoadKit.acmp (g := (mkF m 21 #[.val (.int p0), .val (.int p1), .val (.ref w_HEARTBEAT), .val (.int (p1.toInt16.toInt32)), .val (.int (0 : Int32))] [(.ref w_API_VERSIONS), (.ref w_HEARTBEAT)])) X38 hx rfl rfl rfl (pc0 := 21) (pc' := 36) (same := false) rfl (hb hby at_21) rfl (decide_eq_false fun q => (Ne.symm ne_w_API_VERSIONS_w_HEARTBEAT) (Value.ref.inj q)) (by decide) (by decide) k) ?_
                  show Go p e below _ (T38.setTop (mkF m 36 #[.val (.int p0), .val (.int p1), .val (.ref w_HEARTBEAT), .val (.int (p1.toInt16.toInt32)), .val (.int (0 : Int32))] []))
                  refine Go.of (fun _ k => XS.aloadN X38.here hx rfl (hb hby at_36) rfl rfl k) ?_
                  show Go p e below _ (T38.setTop (mkF m 37 #[.val (.int p0), .val (.int p1), .val (.ref w_HEARTBEAT), .val (.int (p1.toInt16.toInt32)), .val (.int (0 : Int32))] [(.ref w_HEARTBEAT)]))
                  refine Go.of (fun _ k => XS.iloadN X38.here hx rfl (hb hby at_37) rfl  k) ?_
                  show Go p e below _ (T38.setTop (mkF m 38 #[.val (.int p0), .val (.int p1), .val (.ref w_HEARTBEAT), .val (.int (p1.toInt16.toInt32)), .val (.int (0 : Int32))] [(.int (p1.toInt16.toInt32)), (.ref w_HEARTBEAT)]))
                  obtain ⟨cq39, kq39, q39a, q39b, q39c⟩ := isOf hZ e38 E_w_HEARTBEAT
                  obtain ⟨_, _, ⟨T39, L39, k39, n39⟩, -, X39, ⟨Lc39, hQ39, l39, y39, z39⟩, st39⟩ := X38.virtualBack hx (y := (⟨"com/example/liveness/liveness/protocol/Api", "isFlexible", "(S)Z"⟩ : MethodName)) (z := (⟨"com/example/liveness/liveness/protocol/Api", "isFlexible", "(S)Z"⟩ : MethodName)) hown (mvT hZ (hw _ (List.mem_of_getElem? (i := 10) rfl))) (mvT hZ (hw _ (List.mem_of_getElem? (i := 11) rfl))) (notFace_of_selects (args := #[]) (mvT hZ (hw _ (List.mem_of_getElem? (i := 13) rfl)))) (mvT hZ (hw _ (List.mem_of_getElem? (i := 13) rfl))) (mvT hZ (hw _ (List.mem_of_getElem? (i := 12) rfl))) (by decide) (backOf (W := 0) (rm2_no l Z a0 hw [] w_HEARTBEAT (p1.toInt16.toInt32) (2147483647 : Int32) h0 n0 Z0 F_w_HEARTBEAT_firstFlexibleVersion (own_short p1)) hZ (hw _ (List.mem_of_getElem? (i := 14) rfl)) (hw _ (List.mem_of_getElem? (i := 6) rfl)) (by decide) (by decide)) q39a q39c (g := (mkF m 38 #[.val (.int p0), .val (.int p1), .val (.ref w_HEARTBEAT), .val (.int (p1.toInt16.toInt32)), .val (.int (0 : Int32))] [(.int (p1.toInt16.toInt32)), (.ref w_HEARTBEAT)])) rfl (by rw [hml]; rfl) (Steps.refl _) (argsL := [(.int (p1.toInt16.toInt32))]) (rest := []) (lenOf pd_1 rfl) rfl (by show 2 * 0 + _ ≤ _; exact Nat.le_of_eq rfl) (hb hby at_38) (fun _ _ => ⟨rfl, e38, (by decide : 0 + 0 ≤ _), (by decide : 0 + 0 ≤ _)⟩)
                  dsimp only [Pt.U, Pt.locs, Pt.cells, Pt.slots] at X39 l39 y39 z39 st39 hQ39
                  subst l39 y39 z39
                  obtain ⟨rfl, Nq39, q39_0⟩ := hQ39
                  have N39 := Fr.app N37 Nq39
                  refine Go.tr st39 ?_
                  show Go p e below _ (T39.setTop (mkF m 41 #[.val (.int p0), .val (.int p1), .val (.ref w_HEARTBEAT), .val (.int (p1.toInt16.toInt32)), .val (.int (0 : Int32))] [(.int (0 : Int32))]))
                  refine Go.of (fun _ k => XS.iload X39.here hx rfl (hb hby at_41) rfl  k) ?_
                  show Go p e below _ (T39.setTop (mkF m 43 #[.val (.int p0), .val (.int p1), .val (.ref w_HEARTBEAT), .val (.int (p1.toInt16.toInt32)), .val (.int (0 : Int32))] [(.int (0 : Int32)), (.int (0 : Int32))]))
                  refine Go.of (fun _ k => XS.icmpNo X39.here hx rfl (hb hby at_43) rfl (teq (by decide : (0 : Int32) = (0 : Int32))).2 k) ?_
                  show Go p e below _ (T39.setTop (mkF m 46 #[.val (.int p0), .val (.int p1), .val (.ref w_HEARTBEAT), .val (.int (p1.toInt16.toInt32)), .val (.int (0 : Int32))] []))
                  refine Go.of (fun _ k => XS.iconst X39.here hx rfl (hb hby at_46) k) ?_
                  show Go p e below _ (T39.setTop (mkF m 47 #[.val (.int p0), .val (.int p1), .val (.ref w_HEARTBEAT), .val (.int (p1.toInt16.toInt32)), .val (.int (0 : Int32))] [(.int (1 : Int32))]))
                  refine Go.of (fun _ k => XS.goto X39.here hx rfl (pc0 := 47) (pc' := 51) rfl (hb hby at_47) (by decide) (by decide) k) ?_
                  show Go p e below _ (T39.setTop (mkF m 51 #[.val (.int p0), .val (.int p1), .val (.ref w_HEARTBEAT), .val (.int (p1.toInt16.toInt32)), .val (.int (0 : Int32))] [(.int (1 : Int32))]))
                  obtain ⟨fs, hr, hrun, hended, hW, hsame⟩ := X39.leave (v := some (.int (1 : Int32))) (fun h => by rw [Bd.returns] at h; cases h)
                  refine Go.mk _ _ ?_ hrun hended ⟨_, _, rfl, ?_, ⟨_, rfl⟩, hW, hsame.mono (by decide) (by decide)⟩
                  · exact retN X39 hx (t := .boolean) Bd.returns (by simp) (hb hby at_51) hr
                  · show Q0 Z p0 p1 w_FETCH w_API_VERSIONS w_LIST_OFFSETS w_METADATA w_OFFSET_COMMIT w_OFFSET_FETCH w_FIND_COORDINATOR w_JOIN_GROUP w_HEARTBEAT w_LEAVE_GROUP w_SYNC_GROUP w_DESCRIBE_GROUPS w_LIST_GROUPS w_DELETE_GROUPS h0 n0 _ T39.heap _
                    rw [q39_0]
                    exact ⟨rfl, N39⟩
                ·
                  show Go p e below _ (s₁.setTop (mkF m 7 #[.val (.int p0), .val (.int p1), .unset, .unset, .unset] [(.int ((p0 &&& (2147483647 : Int32)) % (14 : Int32)))]))
                  by_cases hs41 : ((p0 &&& (2147483647 : Int32)) % (14 : Int32)) = (8 : Int32)
                  ·
                    show Go p e below _ (s₁.setTop (mkF m 7 #[.val (.int p0), .val (.int p1), .unset, .unset, .unset] [(.int ((p0 &&& (2147483647 : Int32)) % (14 : Int32)))]))
                    obtain ⟨_, _, ⟨T42, L42, k42, n42⟩, -, X42, ⟨Lc42, hQ42, l42, y42, z42⟩, st42⟩ := Jvm.LawKit.callS X0 hx (y := (⟨"com/example/liveness/liveness/protocol/ApiIsFlexiblePinLaw", "pick", "(I)Lcom/example/liveness/liveness/protocol/Api;"⟩ : MethodName)) hown (mvT hZ (hw _ (List.mem_of_getElem? (i := 1) rfl))) (mvT hZ (hw _ (List.mem_of_getElem? (i := 2) rfl))) (mvT hZ (hw _ (List.mem_of_getElem? (i := 3) rfl))) (mvT hZ (hw _ (List.mem_of_getElem? (i := 4) rfl))) (by decide) (backOf (W := 0) (rm1_8 l Z a0 hw [] ((p0 &&& (2147483647 : Int32)) % (14 : Int32)) w_LEAVE_GROUP h0 n0 Z0 hs1 hs6 hs11 hs16 hs21 hs26 hs31 hs36 hs41 S_LEAVE_GROUP) hZ (hw _ (List.mem_of_getElem? (i := 4) rfl)) (hw _ (List.mem_of_getElem? (i := 3) rfl)) (by decide) (by decide)) (g := (mkF m 7 #[.val (.int p0), .val (.int p1), .unset, .unset, .unset] [(.int ((p0 &&& (2147483647 : Int32)) % (14 : Int32)))])) rfl (by rw [hml]; rfl) (argsL := [(.int ((p0 &&& (2147483647 : Int32)) % (14 : Int32)))]) (rest := []) (lenOf pd_0 rfl) rfl (by show 2 * 0 + _ ≤ _; exact Nat.le_of_eq rfl) (hb hby at_7) (fun _ _ => ⟨rfl, e0, (by decide : 0 + 0 ≤ _), (by decide : 0 + 0 ≤ _)⟩)
                    dsimp only [Pt.U, Pt.locs, Pt.cells, Pt.slots] at X42 l42 y42 z42 st42 hQ42
                    subst l42 y42 z42
                    obtain ⟨rfl, Nq42, q42_0⟩ := hQ42
                    have N42 := Fr.app N0 Nq42
                    refine Go.of st42 ?_
                    show Go p e below _ (T42.setTop (mkF m 10 #[.val (.int p0), .val (.int p1), .unset, .unset, .unset] [(.ref w_LEAVE_GROUP)]))
                    refine Go.of (fun _ k => XS.astoreN X42.here hx rfl (hb hby at_10) rfl rfl (l' := #[.val (.int p0), .val (.int p1), .val (.ref w_LEAVE_GROUP), .unset, .unset]) rfl k) ?_
                    show Go p e below _ (T42.setTop (mkF m 11 #[.val (.int p0), .val (.int p1), .val (.ref w_LEAVE_GROUP), .unset, .unset] []))
                    refine Go.of (fun _ k => XS.iloadN X42.here hx rfl (hb hby at_11) rfl  k) ?_
                    show Go p e below _ (T42.setTop (mkF m 12 #[.val (.int p0), .val (.int p1), .val (.ref w_LEAVE_GROUP), .unset, .unset] [(.int p1)]))
                    refine Go.of (fun _ k => XS.i2s X42.here hx rfl (hb hby at_12) rfl k) ?_
                    show Go p e below _ (T42.setTop (mkF m 13 #[.val (.int p0), .val (.int p1), .val (.ref w_LEAVE_GROUP), .unset, .unset] [(.int (p1.toInt16.toInt32))]))
                    refine Go.of (fun _ k => XS.istoreN X42.here hx rfl (hb hby at_13) rfl (l' := #[.val (.int p0), .val (.int p1), .val (.ref w_LEAVE_GROUP), .val (.int (p1.toInt16.toInt32)), .unset]) rfl k) ?_
                    show Go p e below _ (T42.setTop (mkF m 14 #[.val (.int p0), .val (.int p1), .val (.ref w_LEAVE_GROUP), .val (.int (p1.toInt16.toInt32)), .unset] []))
                    refine Go.of (fun _ k => XS.iconst X42.here hx rfl (hb hby at_14) k) ?_
                    show Go p e below _ (T42.setTop (mkF m 15 #[.val (.int p0), .val (.int p1), .val (.ref w_LEAVE_GROUP), .val (.int (p1.toInt16.toInt32)), .unset] [(.int (0 : Int32))]))
                    refine Go.of (fun _ k => XS.istore X42.here hx rfl (hb hby at_15) rfl (l' := #[.val (.int p0), .val (.int p1), .val (.ref w_LEAVE_GROUP), .val (.int (p1.toInt16.toInt32)), .val (.int (0 : Int32))]) rfl k) ?_
                    show Go p e below _ (T42.setTop (mkF m 17 #[.val (.int p0), .val (.int p1), .val (.ref w_LEAVE_GROUP), .val (.int (p1.toInt16.toInt32)), .val (.int (0 : Int32))] []))
                    refine Go.of (fun _ k => XS.aloadN X42.here hx rfl (hb hby at_17) rfl rfl k) ?_
                    show Go p e below _ (T42.setTop (mkF m 18 #[.val (.int p0), .val (.int p1), .val (.ref w_LEAVE_GROUP), .val (.int (p1.toInt16.toInt32)), .val (.int (0 : Int32))] [(.ref w_LEAVE_GROUP)]))
                    obtain ⟨T43, X43, e43, st43⟩ := getS2 X42 hx hZ hown (host := "") (Or.inl (hw _ (List.mem_of_getElem? (i := 8) rfl))) Via.refl q42_0 S_API_VERSIONS (g := (mkF m 18 #[.val (.int p0), .val (.int p1), .val (.ref w_LEAVE_GROUP), .val (.int (p1.toInt16.toInt32)), .val (.int (0 : Int32))] [(.ref w_LEAVE_GROUP)])) rfl (hb hby at_18)
                    refine Go.of st43 ?_
                    show Go p e below _ (T43.setTop (mkF m 21 #[.val (.int p0), .val (.int p1), .val (.ref w_LEAVE_GROUP), .val (.int (p1.toInt16.toInt32)), .val (.int (0 : Int32))] [(.ref w_API_VERSIONS), (.ref w_LEAVE_GROUP)]))
                    refine Go.of (fun _ k => Jvm.RoadKit.acmp (g := (mkF m 21 #[.val (.int p0), .val (.int p1), .val (.ref w_LEAVE_GROUP), .val (.int (p1.toInt16.toInt32)), .val (.int (0 : Int32))] [(.ref w_API_VERSIONS), (.ref w_LEAVE_GROUP)])) X43 hx rfl rfl rfl (pc0 := 21) (pc' := 36) (same := false) rfl (hb hby at_21) rfl (decide_eq_false fun q => (Ne.symm ne_w_API_VERSIONS_w_LEAVE_GROUP) (Value.ref.inj q)) (by decide) (by decide) k) ?_
                    show Go p e below _ (T43.setTop (mkF m 36 #[.val (.int p0), .val (.int p1), .val (.ref w_LEAVE_GROUP), .val (.int (p1.toInt16.toInt32)), .val (.int (0 : Int32))] []))
                    refine Go.of (fun _ k => XS.aloadN X43.here hx rfl (hb hby at_36) rfl rfl k) ?_
                    show Go p e below _ (T43.setTop (mkF m 37 #[.val (.int p0), .val (.int p1), .val (.ref w_LEAVE_GROUP), .val (.int (p1.toInt16.toInt32)), .val (.int (0 : Int32))] [(.ref w_LEAVE_GROUP)]))
                    refine Go.of (fun _ k => XS.iloadN X43.here hx rfl (hb hby at_37) rfl  k) ?_
                    show Go p e below _ (T43.setTop (mkF m 38 #[.val (.int p0), .val (.int p1), .val (.ref w_LEAVE_GROUP), .val (.int (p1.toInt16.toInt32)), .val (.int (0 : Int32))] [(.int (p1.toInt16.toInt32)), (.ref w_LEAVE_GROUP)]))
                    obtain ⟨cq44, kq44, q44a, q44b, q44c⟩ := isOf hZ e43 E_w_LEAVE_GROUP
                    obtain ⟨_, _, ⟨T44, L44, k44, n44⟩, -, X44, ⟨Lc44, hQ44, l44, y44, z44⟩, st44⟩ := X43.virtualBack hx (y := (⟨"com/example/liveness/liveness/protocol/Api", "isFlexible", "(S)Z"⟩ : MethodName)) (z := (⟨"com/example/liveness/liveness/protocol/Api", "isFlexible", "(S)Z"⟩ : MethodName)) hown (mvT hZ (hw _ (List.mem_of_getElem? (i := 10) rfl))) (mvT hZ (hw _ (List.mem_of_getElem? (i := 11) rfl))) (notFace_of_selects (args := #[]) (mvT hZ (hw _ (List.mem_of_getElem? (i := 13) rfl)))) (mvT hZ (hw _ (List.mem_of_getElem? (i := 13) rfl))) (mvT hZ (hw _ (List.mem_of_getElem? (i := 12) rfl))) (by decide) (backOf (W := 0) (rm2_no l Z a0 hw [] w_LEAVE_GROUP (p1.toInt16.toInt32) (2147483647 : Int32) h0 n0 Z0 F_w_LEAVE_GROUP_firstFlexibleVersion (own_short p1)) hZ (hw _ (List.mem_of_getElem? (i := 14) rfl)) (hw _ (List.mem_of_getElem? (i := 6) rfl)) (by decide) (by decide)) q44a q44c (g := (mkF m 38 #[.val (.int p0), .val (.int p1), .val (.ref w_LEAVE_GROUP), .val (.int (p1.toInt16.toInt32)), .val (.int (0 : Int32))] [(.int (p1.toInt16.toInt32)), (.ref w_LEAVE_GROUP)])) rfl (by rw [hml]; rfl) (Steps.refl _) (argsL := [(.int (p1.toInt16.toInt32))]) (rest := []) (lenOf pd_1 rfl) rfl (by show 2 * 0 + _ ≤ _; exact Nat.le_of_eq rfl) (hb hby at_38) (fun _ _ => ⟨rfl, e43, (by decide : 0 + 0 ≤ _), (by decide : 0 + 0 ≤ _)⟩)
                    dsimp only [Pt.U, Pt.locs, Pt.cells, Pt.slots] at X44 l44 y44 z44 st44 hQ44
                    subst l44 y44 z44
                    obtain ⟨rfl, Nq44, q44_0⟩ := hQ44
                    have N44 := Fr.app N42 Nq44
                    refine Go.tr st44 ?_
                    show Go p e below _ (T44.setTop (mkF m 41 #[.val (.int p0), .val (.int p1), .val (.ref w_LEAVE_GROUP), .val (.int (p1.toInt16.toInt32)), .val (.int (0 : Int32))] [(.int (0 : Int32))]))
                    refine Go.of (fun _ k => XS.iload X44.here hx rfl (hb hby at_41) rfl  k) ?_
                    show Go p e below _ (T44.setTop (mkF m 43 #[.val (.int p0), .val (.int p1), .val (.ref w_LEAVE_GROUP), .val (.int (p1.toInt16.toInt32)), .val (.int (0 : Int32))] [(.int (0 : Int32)), (.int (0 : Int32))]))
                    refine Go.of (fun _ k => XS.icmpNo X44.here hx rfl (hb hby at_43) rfl (teq (by decide : (0 : Int32) = (0 : Int32))).2 k) ?_
                    show Go p e below _ (T44.setTop (mkF m 46 #[.val (.int p0), .val (.int p1), .val (.ref w_LEAVE_GROUP), .val (.int (p1.toInt16.toInt32)), .val (.int (0 : Int32))] []))
                    refine Go.of (fun _ k => XS.iconst X44.here hx rfl (hb hby at_46) k) ?_
                    show Go p e below _ (T44.setTop (mkF m 47 #[.val (.int p0), .val (.int p1), .val (.ref w_LEAVE_GROUP), .val (.int (p1.toInt16.toInt32)), .val (.int (0 : Int32))] [(.int (1 : Int32))]))
                    refine Go.of (fun _ k => XS.goto X44.here hx rfl (pc0 := 47) (pc' := 51) rfl (hb hby at_47) (by decide) (by decide) k) ?_
                    show Go p e below _ (T44.setTop (mkF m 51 #[.val (.int p0), .val (.int p1), .val (.ref w_LEAVE_GROUP), .val (.int (p1.toInt16.toInt32)), .val (.int (0 : Int32))] [(.int (1 : Int32))]))
                    obtain ⟨fs, hr, hrun, hended, hW, hsame⟩ := X44.leave (v := some (.int (1 : Int32))) (fun h => by rw [Bd.returns] at h; cases h)
                    refine Go.mk _ _ ?_ hrun hended ⟨_, _, rfl, ?_, ⟨_, rfl⟩, hW, hsame.mono (by decide) (by decide)⟩
                    · exact retN X44 hx (t := .boolean) Bd.returns (by simp) (hb hby at_51) hr
                    · show Q0 Z p0 p1 w_FETCH w_API_VERSIONS w_LIST_OFFSETS w_METADATA w_OFFSET_COMMIT w_OFFSET_FETCH w_FIND_COORDINATOR w_JOIN_GROUP w_HEARTBEAT w_LEAVE_GROUP w_SYNC_GROUP w_DESCRIBE_GROUPS w_LIST_GROUPS w_DELETE_GROUPS h0 n0 _ T44.heap _
                      rw [q44_0]
                      exact ⟨rfl, N44⟩
                  ·
                    show Go p e below _ (s₁.setTop (mkF m 7 #[.val (.int p0), .val (.int p1), .unset, .unset, .unset] [(.int ((p0 &&& (2147483647 : Int32)) % (14 : Int32)))]))
                    by_cases hs46 : ((p0 &&& (2147483647 : Int32)) % (14 : Int32)) = (9 : Int32)
                    ·
                      show Go p e below _ (s₁.setTop (mkF m 7 #[.val (.int p0), .val (.int p1), .unset, .unset, .unset] [(.int ((p0 &&& (2147483647 : Int32)) % (14 : Int32)))]))
                      obtain ⟨_, _, ⟨T47, L47, k47, n47⟩, -, X47, ⟨Lc47, hQ47, l47, y47, z47⟩, st47⟩ := Jvm.LawKit.callS X0 hx (y := (⟨"com/example/liveness/liveness/protocol/ApiIsFlexiblePinLaw", "pick", "(I)Lcom/example/liveness/liveness/protocol/Api;"⟩ : MethodName)) hown (mvT hZ (hw _ (List.mem_of_getElem? (i := 1) rfl))) (mvT hZ (hw _ (List.mem_of_getElem? (i := 2) rfl))) (mvT hZ (hw _ (List.mem_of_getElem? (i := 3) rfl))) (mvT hZ (hw _ (List.mem_of_getElem? (i := 4) rfl))) (by decide) (backOf (W := 0) (rm1_9 l Z a0 hw [] ((p0 &&& (2147483647 : Int32)) % (14 : Int32)) w_SYNC_GROUP h0 n0 Z0 hs1 hs6 hs11 hs16 hs21 hs26 hs31 hs36 hs41 hs46 S_SYNC_GROUP) hZ (hw _ (List.mem_of_getElem? (i := 4) rfl)) (hw _ (List.mem_of_getElem? (i := 3) rfl)) (by decide) (by decide)) (g := (mkF m 7 #[.val (.int p0), .val (.int p1), .unset, .unset, .unset] [(.int ((p0 &&& (2147483647 : Int32)) % (14 : Int32)))])) rfl (by rw [hml]; rfl) (argsL := [(.int ((p0 &&& (2147483647 : Int32)) % (14 : Int32)))]) (rest := []) (lenOf pd_0 rfl) rfl (by show 2 * 0 + _ ≤ _; exact Nat.le_of_eq rfl) (hb hby at_7) (fun _ _ => ⟨rfl, e0, (by decide : 0 + 0 ≤ _), (by decide : 0 + 0 ≤ _)⟩)
                      dsimp only [Pt.U, Pt.locs, Pt.cells, Pt.slots] at X47 l47 y47 z47 st47 hQ47
                      subst l47 y47 z47
                      obtain ⟨rfl, Nq47, q47_0⟩ := hQ47
                      have N47 := Fr.app N0 Nq47
                      refine Go.of st47 ?_
                      show Go p e below _ (T47.setTop (mkF m 10 #[.val (.int p0), .val (.int p1), .unset, .unset, .unset] [(.ref w_SYNC_GROUP)]))
                      refine Go.of (fun _ k => XS.astoreN X47.here hx rfl (hb hby at_10) rfl rfl (l' := #[.val (.int p0), .val (.int p1), .val (.ref w_SYNC_GROUP), .unset, .unset]) rfl k) ?_
                      show Go p e below _ (T47.setTop (mkF m 11 #[.val (.int p0), .val (.int p1), .val (.ref w_SYNC_GROUP), .unset, .unset] []))
                      refine Go.of (fun _ k => XS.iloadN X47.here hx rfl (hb hby at_11) rfl  k) ?_
                      show Go p e below _ (T47.setTop (mkF m 12 #[.val (.int p0), .val (.int p1), .val (.ref w_SYNC_GROUP), .unset, .unset] [(.int p1)]))
                      refine Go.of (fun _ k => XS.i2s X47.here hx rfl (hb hby at_12) rfl k) ?_
                      show Go p e below _ (T47.setTop (mkF m 13 #[.val (.int p0), .val (.int p1), .val (.ref w_SYNC_GROUP), .unset, .unset] [(.int (p1.toInt16.toInt32))]))
                      refine Go.of (fun _ k => XS.istoreN X47.here hx rfl (hb hby at_13) rfl (l' := #[.val (.int p0), .val (.int p1), .val (.ref w_SYNC_GROUP), .val (.int (p1.toInt16.toInt32)), .unset]) rfl k) ?_
                      show Go p e below _ (T47.setTop (mkF m 14 #[.val (.int p0), .val (.int p1), .val (.ref w_SYNC_GROUP), .val (.int (p1.toInt16.toInt32)), .unset] []))
                      refine Go.of (fun _ k => XS.iconst X47.here hx rfl (hb hby at_14) k) ?_
                      show Go p e below _ (T47.setTop (mkF m 15 #[.val (.int p0), .val (.int p1), .val (.ref w_SYNC_GROUP), .val (.int (p1.toInt16.toInt32)), .unset] [(.int (0 : Int32))]))
                      refine Go.of (fun _ k => XS.istore X47.here hx rfl (hb hby at_15) rfl (l' := #[.val (.int p0), .val (.int p1), .val (.ref w_SYNC_GROUP), .val (.int (p1.toInt16.toInt32)), .val (.int (0 : Int32))]) rfl k) ?_
                      show Go p e below _ (T47.setTop (mkF m 17 #[.val (.int p0), .val (.int p1), .val (.ref w_SYNC_GROUP), .val (.int (p1.toInt16.toInt32)), .val (.int (0 : Int32))] []))
                      refine Go.of (fun _ k => XS.aloadN X47.here hx rfl (hb hby at_17) rfl rfl k) ?_
                      show Go p e below _ (T47.setTop (mkF m 18 #[.val (.int p0), .val (.int p1), .val (.ref w_SYNC_GROUP), .val (.int (p1.toInt16.toInt32)), .val (.int (0 : Int32))] [(.ref w_SYNC_GROUP)]))
                      obtain ⟨T48, X48, e48, st48⟩ := getS2 X47 hx hZ hown (host := "") (Or.inl (hw _ (List.mem_of_getElem? (i := 8) rfl))) Via.refl q47_0 S_API_VERSIONS (g := (mkF m 18 #[.val (.int p0), .val (.int p1), .val (.ref w_SYNC_GROUP), .val (.int (p1.toInt16.toInt32)), .val (.int (0 : Int32))] [(.ref w_SYNC_GROUP)])) rfl (hb hby at_18)
                      refine Go.of st48 ?_
                      show Go p e below _ (T48.setTop (mkF m 21 #[.val (.int p0), .val (.int p1), .val (.ref w_SYNC_GROUP), .val (.int (p1.toInt16.toInt32)), .val (.int (0 : Int32))] [(.ref w_API_VERSIONS), (.ref w_SYNC_GROUP)]))
                      refine Go.of (fun _ k => Jvm.RoadKit.acmp (g := (mkF m 21 #[.val (.int p0), .val (.int p1), .val (.ref w_SYNC_GROUP), .val (.int (p1.toInt16.toInt32)), .val (.int (0 : Int32))] [(.ref w_API_VERSIONS), (.ref w_SYNC_GROUP)])) X48 hx rfl rfl rfl (pc0 := 21) (pc' := 36) (same := false) rfl (hb hby at_21) rfl (decide_eq_false fun q => (Ne.symm ne_w_API_VERSIONS_w_SYNC_GROUP) (Value.ref.inj q)) (by decide) (by decide) k) ?_
                      show Go p e below _ (T48.setTop (mkF m 36 #[.val (.int p0), .val (.int p1), .val (.ref w_SYNC_GROUP), .val (.int (p1.toInt16.toInt32)), .val (.int (0 : Int32))] []))
                      refine Go.of (fun _ k => XS.aloadN X48.here hx rfl (hb hby at_36) rfl rfl k) ?_
                      show Go p e below _ (T48.setTop (mkF m 37 #[.val (.int p0), .val (.int p1), .val (.ref w_SYNC_GROUP), .val (.int (p1.toInt16.toInt32)), .val (.int (0 : Int32))] [(.ref w_SYNC_GROUP)]))
                      refine Go.of (fun _ k => XS.iloadN X48.here hx rfl (hb hby at_37) rfl  k) ?_
                      show Go p e below _ (T48.setTop (mkF m 38 #[.val (.int p0), .val (.int p1), .val (.ref w_SYNC_GROUP), .val (.int (p1.toInt16.toInt32)), .val (.int (0 : Int32))] [(.int (p1.toInt16.toInt32)), (.ref w_SYNC_GROUP)]))
                      obtain ⟨cq49, kq49, q49a, q49b, q49c⟩ := isOf hZ e48 E_w_SYNC_GROUP
                      obtain ⟨_, _, ⟨T49, L49, k49, n49⟩, -, X49, ⟨Lc49, hQ49, l49, y49, z49⟩, st49⟩ := X48.virtualBack hx (y := (⟨"com/example/liveness/liveness/protocol/Api", "isFlexible", "(S)Z"⟩ : MethodName)) (z := (⟨"com/example/liveness/liveness/protocol/Api", "isFlexible", "(S)Z"⟩ : MethodName)) hown (mvT hZ (hw _ (List.mem_of_getElem? (i := 10) rfl))) (mvT hZ (hw _ (List.mem_of_getElem? (i := 11) rfl))) (notFace_of_selects (args := #[]) (mvT hZ (hw _ (List.mem_of_getElem? (i := 13) rfl)))) (mvT hZ (hw _ (List.mem_of_getElem? (i := 13) rfl))) (mvT hZ (hw _ (List.mem_of_getElem? (i := 12) rfl))) (by decide) (backOf (W := 0) (rm2_no l Z a0 hw [] w_SYNC_GROUP (p1.toInt16.toInt32) (2147483647 : Int32) h0 n0 Z0 F_w_SYNC_GROUP_firstFlexibleVersion (own_short p1)) hZ (hw _ (List.mem_of_getElem? (i := 14) rfl)) (hw _ (List.mem_of_getElem? (i := 6) rfl)) (by decide) (by decide)) q49a q49c (g := (mkF m 38 #[.val (.int p0), .val (.int p1), .val (.ref w_SYNC_GROUP), .val (.int (p1.toInt16.toInt32)), .val (.int (0 : Int32))] [(.int (p1.toInt16.toInt32)), (.ref w_SYNC_GROUP)])) rfl (by rw [hml]; rfl) (Steps.refl _) (argsL := [(.int (p1.toInt16.toInt32))]) (rest := []) (lenOf pd_1 rfl) rfl (by show 2 * 0 + _ ≤ _; exact Nat.le_of_eq rfl) (hb hby at_38) (fun _ _ => ⟨rfl, e48, (by decide : 0 + 0 ≤ _), (by decide : 0 + 0 ≤ _)⟩)
                      dsimp only [Pt.U, Pt.locs, Pt.cells, Pt.slots] at X49 l49 y49 z49 st49 hQ49
                      subst l49 y49 z49
                      obtain ⟨rfl, Nq49, q49_0⟩ := hQ49
                      have N49 := Fr.app N47 Nq49
                      refine Go.tr st49 ?_
                      show Go p e below _ (T49.setTop (mkF m 41 #[.val (.int p0), .val (.int p1), .val (.ref w_SYNC_GROUP), .val (.int (p1.toInt16.toInt32)), .val (.int (0 : Int32))] [(.int (0 : Int32))]))
                      refine Go.of (fun _ k => XS.iload X49.here hx rfl (hb hby at_41) rfl  k) ?_
                      show Go p e below _ (T49.setTop (mkF m 43 #[.val (.int p0), .val (.int p1), .val (.ref w_SYNC_GROUP), .val (.int (p1.toInt16.toInt32)), .val (.int (0 : Int32))] [(.int (0 : Int32)), (.int (0 : Int32))]))
                      refine Go.of (fun _ k => XS.icmpNo X49.here hx rfl (hb hby at_43) rfl (teq (by decide : (0 : Int32) = (0 : Int32))).2 k) ?_
                      show Go p e below _ (T49.setTop (mkF m 46 #[.val (.int p0), .val (.int p1), .val (.ref w_SYNC_GROUP), .val (.int (p1.toInt16.toInt32)), .val (.int (0 : Int32))] []))
                      refine Go.of (fun _ k => XS.iconst X49.here hx rfl (hb hby at_46) k) ?_
                      show Go p e below _ (T49.setTop (mkF m 47 #[.val (.int p0), .val (.int p1), .val (.ref w_SYNC_GROUP), .val (.int (p1.toInt16.toInt32)), .val (.int (0 : Int32))] [(.int (1 : Int32))]))
                      refine Go.of (fun _ k => XS.goto X49.here hx rfl (pc0 := 47) (pc' := 51) rfl (hb hby at_47) (by decide) (by decide) k) ?_
                      show Go p e below _ (T49.setTop (mkF m 51 #[.val (.int p0), .val (.int p1), .val (.ref w_SYNC_GROUP), .val (.int (p1.toInt16.toInt32)), .val (.int (0 : Int32))] [(.int (1 : Int32))]))
                      obtain ⟨fs, hr, hrun, hended, hW, hsame⟩ := X49.leave (v := some (.int (1 : Int32))) (fun h => by rw [Bd.returns] at h; cases h)
                      refine Go.mk _ _ ?_ hrun hended ⟨_, _, rfl, ?_, ⟨_, rfl⟩, hW, hsame.mono (by decide) (by decide)⟩
                      · exact retN X49 hx (t := .boolean) Bd.returns (by simp) (hb hby at_51) hr
                      · show Q0 Z p0 p1 w_FETCH w_API_VERSIONS w_LIST_OFFSETS w_METADATA w_OFFSET_COMMIT w_OFFSET_FETCH w_FIND_COORDINATOR w_JOIN_GROUP w_HEARTBEAT w_LEAVE_GROUP w_SYNC_GROUP w_DESCRIBE_GROUPS w_LIST_GROUPS w_DELETE_GROUPS h0 n0 _ T49.heap _
                        rw [q49_0]
                        exact ⟨rfl, N49⟩
                    ·
                      show Go p e below _ (s₁.setTop (mkF m 7 #[.val (.int p0), .val (.int p1), .unset, .unset, .unset] [(.int ((p0 &&& (2147483647 : Int32)) % (14 : Int32)))]))
                      by_cases hs51 : ((p0 &&& (2147483647 : Int32)) % (14 : Int32)) = (10 : Int32)
                      ·
                        show Go p e below _ (s₁.setTop (mkF m 7 #[.val (.int p0), .val (.int p1), .unset, .unset, .unset] [(.int ((p0 &&& (2147483647 : Int32)) % (14 : Int32)))]))
                        obtain ⟨_, _, ⟨T52, L52, k52, n52⟩, -, X52, ⟨Lc52, hQ52, l52, y52, z52⟩, st52⟩ := Jvm.LawKit.callS X0 hx (y := (⟨"com/example/liveness/liveness/protocol/ApiIsFlexiblePinLaw", "pick", "(I)Lcom/example/liveness/liveness/protocol/Api;"⟩ : MethodName)) hown (mvT hZ (hw _ (List.mem_of_getElem? (i := 1) rfl))) (mvT hZ (hw _ (List.mem_of_getElem? (i := 2) rfl))) (mvT hZ (hw _ (List.mem_of_getElem? (i := 3) rfl))) (mvT hZ (hw _ (List.mem_of_getElem? (i := 4) rfl))) (by decide) (backOf (W := 0) (rm1_10 l Z a0 hw [] ((p0 &&& (2147483647 : Int32)) % (14 : Int32)) w_DESCRIBE_GROUPS h0 n0 Z0 hs1 hs6 hs11 hs16 hs21 hs26 hs31 hs36 hs41 hs46 hs51 S_DESCRIBE_GROUPS) hZ (hw _ (List.mem_of_getElem? (i := 4) rfl)) (hw _ (List.mem_of_getElem? (i := 3) rfl)) (by decide) (by decide)) (g := (mkF m 7 #[.val (.int p0), .val (.int p1), .unset, .unset, .unset] [(.int ((p0 &&& (2147483647 : Int32)) % (14 : Int32)))])) rfl (by rw [hml]; rfl) (argsL := [(.int ((p0 &&& (2147483647 : Int32)) % (14 : Int32)))]) (rest := []) (lenOf pd_0 rfl) rfl (by show 2 * 0 + _ ≤ _; exact Nat.le_of_eq rfl) (hb hby at_7) (fun _ _ => ⟨rfl, e0, (by decide : 0 + 0 ≤ _), (by decide : 0 + 0 ≤ _)⟩)
                        dsimp only [Pt.U, Pt.locs, Pt.cells, Pt.slots] at X52 l52 y52 z52 st52 hQ52
                        subst l52 y52 z52
                        obtain ⟨rfl, Nq52, q52_0⟩ := hQ52
                        have N52 := Fr.app N0 Nq52
                        refine Go.of st52 ?_
                        show Go p e below _ (T52.setTop (mkF m 10 #[.val (.int p0), .val (.int p1), .unset, .unset, .unset] [(.ref w_DESCRIBE_GROUPS)]))
                        refine Go.of (fun _ k => XS.astoreN X52.here hx rfl (hb hby at_10) rfl rfl (l' := #[.val (.int p0), .val (.int p1), .val (.ref w_DESCRIBE_GROUPS), .unset, .unset]) rfl k) ?_
                        show Go p e below _ (T52.setTop (mkF m 11 #[.val (.int p0), .val (.int p1), .val (.ref w_DESCRIBE_GROUPS), .unset, .unset] []))
                        refine Go.of (fun _ k => XS.iloadN X52.here hx rfl (hb hby at_11) rfl  k) ?_
                        show Go p e below _ (T52.setTop (mkF m 12 #[.val (.int p0), .val (.int p1), .val (.ref w_DESCRIBE_GROUPS), .unset, .unset] [(.int p1)]))
                        refine Go.of (fun _ k => XS.i2s X52.here hx rfl (hb hby at_12) rfl k) ?_
                        show Go p e below _ (T52.setTop (mkF m 13 #[.val (.int p0), .val (.int p1), .val (.ref w_DESCRIBE_GROUPS), .unset, .unset] [(.int (p1.toInt16.toInt32))]))
                        refine Go.of (fun _ k => XS.istoreN X52.here hx rfl (hb hby at_13) rfl (l' := #[.val (.int p0), .val (.int p1), .val (.ref w_DESCRIBE_GROUPS), .val (.int (p1.toInt16.toInt32)), .unset]) rfl k) ?_
                        show Go p e below _ (T52.setTop (mkF m 14 #[.val (.int p0), .val (.int p1), .val (.ref w_DESCRIBE_GROUPS), .val (.int (p1.toInt16.toInt32)), .unset] []))
                        refine Go.of (fun _ k => XS.iconst X52.here hx rfl (hb hby at_14) k) ?_
                        show Go p e below _ (T52.setTop (mkF m 15 #[.val (.int p0), .val (.int p1), .val (.ref w_DESCRIBE_GROUPS), .val (.int (p1.toInt16.toInt32)), .unset] [(.int (0 : Int32))]))
                        refine Go.of (fun _ k => XS.istore X52.here hx rfl (hb hby at_15) rfl (l' := #[.val (.int p0), .val (.int p1), .val (.ref w_DESCRIBE_GROUPS), .val (.int (p1.toInt16.toInt32)), .val (.int (0 : Int32))]) rfl k) ?_
                        show Go p e below _ (T52.setTop (mkF m 17 #[.val (.int p0), .val (.int p1), .val (.ref w_DESCRIBE_GROUPS), .val (.int (p1.toInt16.toInt32)), .val (.int (0 : Int32))] []))
                        refine Go.of (fun _ k => XS.aloadN X52.here hx rfl (hb hby at_17) rfl rfl k) ?_
                        show Go p e below _ (T52.setTop (mkF m 18 #[.val (.int p0), .val (.int p1), .val (.ref w_DESCRIBE_GROUPS), .val (.int (p1.toInt16.toInt32)), .val (.int (0 : Int32))] [(.ref w_DESCRIBE_GROUPS)]))
                        obtain ⟨T53, X53, e53, st53⟩ := getS2 X52 hx hZ hown (host := "") (Or.inl (hw _ (List.mem_of_getElem? (i := 8) rfl))) Via.refl q52_0 S_API_VERSIONS (g := (mkF m 18 #[.val (.int p0), .val (.int p1), .val (.ref w_DESCRIBE_GROUPS), .val (.int (p1.toInt16.toInt32)), .val (.int (0 : Int32))] [(.ref w_DESCRIBE_GROUPS)])) rfl (hb hby at_18)
                        refine Go.of st53 ?_
                        show Go p e below _ (T53.setTop (mkF m 21 #[.val (.int p0), .val (.int p1), .val (.ref w_DESCRIBE_GROUPS), .val (.int (p1.toInt16.toInt32)), .val (.int (0 : Int32))] [(.ref w_API_VERSIONS), (.ref w_DESCRIBE_GROUPS)]))
                        refine Go.of (fun _ k => Jvm.RoadKit.acmp (g := (mkF m 21 #[.val (.int p0), .val (.int p1), .val (.ref w_DESCRIBE_GROUPS), .val (.int (p1.toInt16.toInt32)), .val (.int (0 : Int32))] [(.ref w_API_VERSIONS), (.ref w_DESCRIBE_GROUPS)])) X53 hx rfl rfl rfl (pc0 := 21) (pc' := 36) (same := false) rfl (hb hby at_21) rfl (decide_eq_false fun q => (Ne.symm ne_w_API_VERSIONS_w_DESCRIBE_GROUPS) (Value.ref.inj q)) (by decide) (by decide) k) ?_
                        show Go p e below _ (T53.setTop (mkF m 36 #[.val (.int p0), .val (.int p1), .val (.ref w_DESCRIBE_GROUPS), .val (.int (p1.toInt16.toInt32)), .val (.int (0 : Int32))] []))
                        refine Go.of (fun _ k => XS.aloadN X53.here hx rfl (hb hby at_36) rfl rfl k) ?_
                        show Go p e below _ (T53.setTop (mkF m 37 #[.val (.int p0), .val (.int p1), .val (.ref w_DESCRIBE_GROUPS), .val (.int (p1.toInt16.toInt32)), .val (.int (0 : Int32))] [(.ref w_DESCRIBE_GROUPS)]))
                        refine Go.of (fun _ k => XS.iloadN X53.here hx rfl (hb hby at_37) rfl  k) ?_
                        show Go p e below _ (T53.setTop (mkF m 38 #[.val (.int p0), .val (.int p1), .val (.ref w_DESCRIBE_GROUPS), .val (.int (p1.toInt16.toInt32)), .val (.int (0 : Int32))] [(.int (p1.toInt16.toInt32)), (.ref w_DESCRIBE_GROUPS)]))
                        obtain ⟨cq54, kq54, q54a, q54b, q54c⟩ := isOf hZ e53 E_w_DESCRIBE_GROUPS
                        obtain ⟨_, _, ⟨T54, L54, k54, n54⟩, -, X54, ⟨Lc54, hQ54, l54, y54, z54⟩, st54⟩ := X53.virtualBack hx (y := (⟨"com/example/liveness/liveness/protocol/Api", "isFlexible", "(S)Z"⟩ : MethodName)) (z := (⟨"com/example/liveness/liveness/protocol/Api", "isFlexible", "(S)Z"⟩ : MethodName)) hown (mvT hZ (hw _ (List.mem_of_getElem? (i := 10) rfl))) (mvT hZ (hw _ (List.mem_of_getElem? (i := 11) rfl))) (notFace_of_selects (args := #[]) (mvT hZ (hw _ (List.mem_of_getElem? (i := 13) rfl)))) (mvT hZ (hw _ (List.mem_of_getElem? (i := 13) rfl))) (mvT hZ (hw _ (List.mem_of_getElem? (i := 12) rfl))) (by decide) (backOf (W := 0) (rm2_no l Z a0 hw [] w_DESCRIBE_GROUPS (p1.toInt16.toInt32) (2147483647 : Int32) h0 n0 Z0 F_w_DESCRIBE_GROUPS_firstFlexibleVersion (own_short p1)) hZ (hw _ (List.mem_of_getElem? (i := 14) rfl)) (hw _ (List.mem_of_getElem? (i := 6) rfl)) (by decide) (by decide)) q54a q54c (g := (mkF m 38 #[.val (.int p0), .val (.int p1), .val (.ref w_DESCRIBE_GROUPS), .val (.int (p1.toInt16.toInt32)), .val (.int (0 : Int32))] [(.int (p1.toInt16.toInt32)), (.ref w_DESCRIBE_GROUPS)])) rfl (by rw [hml]; rfl) (Steps.refl _) (argsL := [(.int (p1.toInt16.toInt32))]) (rest := []) (lenOf pd_1 rfl) rfl (by show 2 * 0 + _ ≤ _; exact Nat.le_of_eq rfl) (hb hby at_38) (fun _ _ => ⟨rfl, e53, (by decide : 0 + 0 ≤ _), (by decide : 0 + 0 ≤ _)⟩)
                        dsimp only [Pt.U, Pt.locs, Pt.cells, Pt.slots] at X54 l54 y54 z54 st54 hQ54
                        subst l54 y54 z54
                        obtain ⟨rfl, Nq54, q54_0⟩ := hQ54
                        have N54 := Fr.app N52 Nq54
                        refine Go.tr st54 ?_
                        show Go p e below _ (T54.setTop (mkF m 41 #[.val (.int p0), .val (.int p1), .val (.ref w_DESCRIBE_GROUPS), .val (.int (p1.toInt16.toInt32)), .val (.int (0 : Int32))] [(.int (0 : Int32))]))
                        refine Go.of (fun _ k => XS.iload X54.here hx rfl (hb hby at_41) rfl  k) ?_
                        show Go p e below _ (T54.setTop (mkF m 43 #[.val (.int p0), .val (.int p1), .val (.ref w_DESCRIBE_GROUPS), .val (.int (p1.toInt16.toInt32)), .val (.int (0 : Int32))] [(.int (0 : Int32)), (.int (0 : Int32))]))
                        refine Go.of (fun _ k => XS.icmpNo X54.here hx rfl (hb hby at_43) rfl (teq (by decide : (0 : Int32) = (0 : Int32))).2 k) ?_
                        show Go p e below _ (T54.setTop (mkF m 46 #[.val (.int p0), .val (.int p1), .val (.ref w_DESCRIBE_GROUPS), .val (.int (p1.toInt16.toInt32)), .val (.int (0 : Int32))] []))
                        refine Go.of (fun _ k => XS.iconst X54.here hx rfl (hb hby at_46) k) ?_
                        show Go p e below _ (T54.setTop (mkF m 47 #[.val (.int p0), .val (.int p1), .val (.ref w_DESCRIBE_GROUPS), .val (.int (p1.toInt16.toInt32)), .val (.int (0 : Int32))] [(.int (1 : Int32))]))
                        refine Go.of (fun _ k => XS.goto X54.here hx rfl (pc0 := 47) (pc' := 51) rfl (hb hby at_47) (by decide) (by decide) k) ?_
                        show Go p e below _ (T54.setTop (mkF m 51 #[.val (.int p0), .val (.int p1), .val (.ref w_DESCRIBE_GROUPS), .val (.int (p1.toInt16.toInt32)), .val (.int (0 : Int32))] [(.int (1 : Int32))]))
                        obtain ⟨fs, hr, hrun, hended, hW, hsame⟩ := X54.leave (v := some (.int (1 : Int32))) (fun h => by rw [Bd.returns] at h; cases h)
                        refine Go.mk _ _ ?_ hrun hended ⟨_, _, rfl, ?_, ⟨_, rfl⟩, hW, hsame.mono (by decide) (by decide)⟩
                        · exact retN X54 hx (t := .boolean) Bd.returns (by simp) (hb hby at_51) hr
                        · show Q0 Z p0 p1 w_FETCH w_API_VERSIONS w_LIST_OFFSETS w_METADATA w_OFFSET_COMMIT w_OFFSET_FETCH w_FIND_COORDINATOR w_JOIN_GROUP w_HEARTBEAT w_LEAVE_GROUP w_SYNC_GROUP w_DESCRIBE_GROUPS w_LIST_GROUPS w_DELETE_GROUPS h0 n0 _ T54.heap _
                          rw [q54_0]
                          exact ⟨rfl, N54⟩
                      ·
                        show Go p e below _ (s₁.setTop (mkF m 7 #[.val (.int p0), .val (.int p1), .unset, .unset, .unset] [(.int ((p0 &&& (2147483647 : Int32)) % (14 : Int32)))]))
                        by_cases hs56 : ((p0 &&& (2147483647 : Int32)) % (14 : Int32)) = (11 : Int32)
                        ·
                          show Go p e below _ (s₁.setTop (mkF m 7 #[.val (.int p0), .val (.int p1), .unset, .unset, .unset] [(.int ((p0 &&& (2147483647 : Int32)) % (14 : Int32)))]))
                          obtain ⟨_, _, ⟨T57, L57, k57, n57⟩, -, X57, ⟨Lc57, hQ57, l57, y57, z57⟩, st57⟩ := Jvm.LawKit.callS X0 hx (y := (⟨"com/example/liveness/liveness/protocol/ApiIsFlexiblePinLaw", "pick", "(I)Lcom/example/liveness/liveness/protocol/Api;"⟩ : MethodName)) hown (mvT hZ (hw _ (List.mem_of_getElem? (i := 1) rfl))) (mvT hZ (hw _ (List.mem_of_getElem? (i := 2) rfl))) (mvT hZ (hw _ (List.mem_of_getElem? (i := 3) rfl))) (mvT hZ (hw _ (List.mem_of_getElem? (i := 4) rfl))) (by decide) (backOf (W := 0) (rm1_11 l Z a0 hw [] ((p0 &&& (2147483647 : Int32)) % (14 : Int32)) w_LIST_GROUPS h0 n0 Z0 hs1 hs6 hs11 hs16 hs21 hs26 hs31 hs36 hs41 hs46 hs51 hs56 S_LIST_GROUPS) hZ (hw _ (List.mem_of_getElem? (i := 4) rfl)) (hw _ (List.mem_of_getElem? (i := 3) rfl)) (by decide) (by decide)) (g := (mkF m 7 #[.val (.int p0), .val (.int p1), .unset, .unset, .unset] [(.int ((p0 &&& (2147483647 : Int32)) % (14 : Int32)))])) rfl (by rw [hml]; rfl) (argsL := [(.int ((p0 &&& (2147483647 : Int32)) % (14 : Int32)))]) (rest := []) (lenOf pd_0 rfl) rfl (by show 2 * 0 + _ ≤ _; exact Nat.le_of_eq rfl) (hb hby at_7) (fun _ _ => ⟨rfl, e0, (by decide : 0 + 0 ≤ _), (by decide : 0 + 0 ≤ _)⟩)
                          dsimp only [Pt.U, Pt.locs, Pt.cells, Pt.slots] at X57 l57 y57 z57 st57 hQ57
                          subst l57 y57 z57
                          obtain ⟨rfl, Nq57, q57_0⟩ := hQ57
                          have N57 := Fr.app N0 Nq57
                          refine Go.of st57 ?_
                          show Go p e below _ (T57.setTop (mkF m 10 #[.val (.int p0), .val (.int p1), .unset, .unset, .unset] [(.ref w_LIST_GROUPS)]))
                          refine Go.of (fun _ k => XS.astoreN X57.here hx rfl (hb hby at_10) rfl rfl (l' := #[.val (.int p0), .val (.int p1), .val (.ref w_LIST_GROUPS), .unset, .unset]) rfl k) ?_
                          show Go p e below _ (T57.setTop (mkF m 11 #[.val (.int p0), .val (.int p1), .val (.ref w_LIST_GROUPS), .unset, .unset] []))
                          refine Go.of (fun _ k => XS.iloadN X57.here hx rfl (hb hby at_11) rfl  k) ?_
                          show Go p e below _ (T57.setTop (mkF m 12 #[.val (.int p0), .val (.int p1), .val (.ref w_LIST_GROUPS), .unset, .unset] [(.int p1)]))
                          refine Go.of (fun _ k => XS.i2s X57.here hx rfl (hb hby at_12) rfl k) ?_
                          show Go p e below _ (T57.setTop (mkF m 13 #[.val (.int p0), .val (.int p1), .val (.ref w_LIST_GROUPS), .unset, .unset] [(.int (p1.toInt16.toInt32))]))
                          refine Go.of (fun _ k => XS.istoreN X57.here hx rfl (hb hby at_13) rfl (l' := #[.val (.int p0), .val (.int p1), .val (.ref w_LIST_GROUPS), .val (.int (p1.toInt16.toInt32)), .unset]) rfl k) ?_
                          show Go p e below _ (T57.setTop (mkF m 14 #[.val (.int p0), .val (.int p1), .val (.ref w_LIST_GROUPS), .val (.int (p1.toInt16.toInt32)), .unset] []))
                          refine Go.of (fun _ k => XS.iconst X57.here hx rfl (hb hby at_14) k) ?_
                          show Go p e below _ (T57.setTop (mkF m 15 #[.val (.int p0), .val (.int p1), .val (.ref w_LIST_GROUPS), .val (.int (p1.toInt16.toInt32)), .unset] [(.int (0 : Int32))]))
                          refine Go.of (fun _ k => XS.istore X57.here hx rfl (hb hby at_15) rfl (l' := #[.val (.int p0), .val (.int p1), .val (.ref w_LIST_GROUPS), .val (.int (p1.toInt16.toInt32)), .val (.int (0 : Int32))]) rfl k) ?_
                          show Go p e below _ (T57.setTop (mkF m 17 #[.val (.int p0), .val (.int p1), .val (.ref w_LIST_GROUPS), .val (.int (p1.toInt16.toInt32)), .val (.int (0 : Int32))] []))
                          refine Go.of (fun _ k => XS.aloadN X57.here hx rfl (hb hby at_17) rfl rfl k) ?_
                          show Go p e below _ (T57.setTop (mkF m 18 #[.val (.int p0), .val (.int p1), .val (.ref w_LIST_GROUPS), .val (.int (p1.toInt16.toInt32)), .val (.int (0 : Int32))] [(.ref w_LIST_GROUPS)]))
                          obtain ⟨T58, X58, e58, st58⟩ := getS2 X57 hx hZ hown (host := "") (Or.inl (hw _ (List.mem_of_getElem? (i := 8) rfl))) Via.refl q57_0 S_API_VERSIONS (g := (mkF m 18 #[.val (.int p0), .val (.int p1), .val (.ref w_LIST_GROUPS), .val (.int (p1.toInt16.toInt32)), .val (.int (0 : Int32))] [(.ref w_LIST_GROUPS)])) rfl (hb hby at_18)
                          refine Go.of st58 ?_
                          show Go p e below _ (T58.setTop (mkF m 21 #[.val (.int p0), .val (.int p1), .val (.ref w_LIST_GROUPS), .val (.int (p1.toInt16.toInt32)), .val (.int (0 : Int32))] [(.ref w_API_VERSIONS), (.ref w_LIST_GROUPS)]))
                          refine Go.of (fun _ k => Jvm.RoadKit.acmp (g := (mkF m 21 #[.val (.int p0), .val (.int p1), .val (.ref w_LIST_GROUPS), .val (.int (p1.toInt16.toInt32)), .val (.int (0 : Int32))] [(.ref w_API_VERSIONS), (.ref w_LIST_GROUPS)])) X58 hx rfl rfl rfl (pc0 := 21) (pc' := 36) (same := false) rfl (hb hby at_21) rfl (decide_eq_false fun q => (Ne.symm ne_w_API_VERSIONS_w_LIST_GROUPS) (Value.ref.inj q)) (by decide) (by decide) k) ?_
                          show Go p e below _ (T58.setTop (mkF m 36 #[.val (.int p0), .val (.int p1), .val (.ref w_LIST_GROUPS), .val (.int (p1.toInt16.toInt32)), .val (.int (0 : Int32))] []))
                          refine Go.of (fun _ k => XS.aloadN X58.here hx rfl (hb hby at_36) rfl rfl k) ?_
                          show Go p e below _ (T58.setTop (mkF m 37 #[.val (.int p0), .val (.int p1), .val (.ref w_LIST_GROUPS), .val (.int (p1.toInt16.toInt32)), .val (.int (0 : Int32))] [(.ref w_LIST_GROUPS)]))
                          refine Go.of (fun _ k => XS.iloadN X58.here hx rfl (hb hby at_37) rfl  k) ?_
                          show Go p e below _ (T58.setTop (mkF m 38 #[.val (.int p0), .val (.int p1), .val (.ref w_LIST_GROUPS), .val (.int (p1.toInt16.toInt32)), .val (.int (0 : Int32))] [(.int (p1.toInt16.toInt32)), (.ref w_LIST_GROUPS)]))
                          obtain ⟨cq59, kq59, q59a, q59b, q59c⟩ := isOf hZ e58 E_w_LIST_GROUPS
                          obtain ⟨_, _, ⟨T59, L59, k59, n59⟩, -, X59, ⟨Lc59, hQ59, l59, y59, z59⟩, st59⟩ := X58.virtualBack hx (y := (⟨"com/example/liveness/liveness/protocol/Api", "isFlexible", "(S)Z"⟩ : MethodName)) (z := (⟨"com/example/liveness/liveness/protocol/Api", "isFlexible", "(S)Z"⟩ : MethodName)) hown (mvT hZ (hw _ (List.mem_of_getElem? (i := 10) rfl))) (mvT hZ (hw _ (List.mem_of_getElem? (i := 11) rfl))) (notFace_of_selects (args := #[]) (mvT hZ (hw _ (List.mem_of_getElem? (i := 13) rfl)))) (mvT hZ (hw _ (List.mem_of_getElem? (i := 13) rfl))) (mvT hZ (hw _ (List.mem_of_getElem? (i := 12) rfl))) (by decide) (backOf (W := 0) (rm2_no l Z a0 hw [] w_LIST_GROUPS (p1.toInt16.toInt32) (2147483647 : Int32) h0 n0 Z0 F_w_LIST_GROUPS_firstFlexibleVersion (own_short p1)) hZ (hw _ (List.mem_of_getElem? (i := 14) rfl)) (hw _ (List.mem_of_getElem? (i := 6) rfl)) (by decide) (by decide)) q59a q59c (g := (mkF m 38 #[.val (.int p0), .val (.int p1), .val (.ref w_LIST_GROUPS), .val (.int (p1.toInt16.toInt32)), .val (.int (0 : Int32))] [(.int (p1.toInt16.toInt32)), (.ref w_LIST_GROUPS)])) rfl (by rw [hml]; rfl) (Steps.refl _) (argsL := [(.int (p1.toInt16.toInt32))]) (rest := []) (lenOf pd_1 rfl) rfl (by show 2 * 0 + _ ≤ _; exact Nat.le_of_eq rfl) (hb hby at_38) (fun _ _ => ⟨rfl, e58, (by decide : 0 + 0 ≤ _), (by decide : 0 + 0 ≤ _)⟩)
                          dsimp only [Pt.U, Pt.locs, Pt.cells, Pt.slots] at X59 l59 y59 z59 st59 hQ59
                          subst l59 y59 z59
                          obtain ⟨rfl, Nq59, q59_0⟩ := hQ59
                          have N59 := Fr.app N57 Nq59
                          refine Go.tr st59 ?_
                          show Go p e below _ (T59.setTop (mkF m 41 #[.val (.int p0), .val (.int p1), .val (.ref w_LIST_GROUPS), .val (.int (p1.toInt16.toInt32)), .val (.int (0 : Int32))] [(.int (0 : Int32))]))
                          refine Go.of (fun _ k => XS.iload X59.here hx rfl (hb hby at_41) rfl  k) ?_
                          show Go p e below _ (T59.setTop (mkF m 43 #[.val (.int p0), .val (.int p1), .val (.ref w_LIST_GROUPS), .val (.int (p1.toInt16.toInt32)), .val (.int (0 : Int32))] [(.int (0 : Int32)), (.int (0 : Int32))]))
                          refine Go.of (fun _ k => XS.icmpNo X59.here hx rfl (hb hby at_43) rfl (teq (by decide : (0 : Int32) = (0 : Int32))).2 k) ?_
                          show Go p e below _ (T59.setTop (mkF m 46 #[.val (.int p0), .val (.int p1), .val (.ref w_LIST_GROUPS), .val (.int (p1.toInt16.toInt32)), .val (.int (0 : Int32))] []))
                          refine Go.of (fun _ k => XS.iconst X59.here hx rfl (hb hby at_46) k) ?_
                          show Go p e below _ (T59.setTop (mkF m 47 #[.val (.int p0), .val (.int p1), .val (.ref w_LIST_GROUPS), .val (.int (p1.toInt16.toInt32)), .val (.int (0 : Int32))] [(.int (1 : Int32))]))
                          refine Go.of (fun _ k => XS.goto X59.here hx rfl (pc0 := 47) (pc' := 51) rfl (hb hby at_47) (by decide) (by decide) k) ?_
                          show Go p e below _ (T59.setTop (mkF m 51 #[.val (.int p0), .val (.int p1), .val (.ref w_LIST_GROUPS), .val (.int (p1.toInt16.toInt32)), .val (.int (0 : Int32))] [(.int (1 : Int32))]))
                          obtain ⟨fs, hr, hrun, hended, hW, hsame⟩ := X59.leave (v := some (.int (1 : Int32))) (fun h => by rw [Bd.returns] at h; cases h)
                          refine Go.mk _ _ ?_ hrun hended ⟨_, _, rfl, ?_, ⟨_, rfl⟩, hW, hsame.mono (by decide) (by decide)⟩
                          · exact retN X59 hx (t := .boolean) Bd.returns (by simp) (hb hby at_51) hr
                          · show Q0 Z p0 p1 w_FETCH w_API_VERSIONS w_LIST_OFFSETS w_METADATA w_OFFSET_COMMIT w_OFFSET_FETCH w_FIND_COORDINATOR w_JOIN_GROUP w_HEARTBEAT w_LEAVE_GROUP w_SYNC_GROUP w_DESCRIBE_GROUPS w_LIST_GROUPS w_DELETE_GROUPS h0 n0 _ T59.heap _
                            rw [q59_0]
                            exact ⟨rfl, N59⟩
                        ·
                          show Go p e below _ (s₁.setTop (mkF m 7 #[.val (.int p0), .val (.int p1), .unset, .unset, .unset] [(.int ((p0 &&& (2147483647 : Int32)) % (14 : Int32)))]))
                          by_cases hs61 : ((p0 &&& (2147483647 : Int32)) % (14 : Int32)) = (12 : Int32)
                          ·
                            show Go p e below _ (s₁.setTop (mkF m 7 #[.val (.int p0), .val (.int p1), .unset, .unset, .unset] [(.int ((p0 &&& (2147483647 : Int32)) % (14 : Int32)))]))
                            obtain ⟨_, _, ⟨T62, L62, k62, n62⟩, -, X62, ⟨Lc62, hQ62, l62, y62, z62⟩, st62⟩ := Jvm.LawKit.callS X0 hx (y := (⟨"com/example/liveness/liveness/protocol/ApiIsFlexiblePinLaw", "pick", "(I)Lcom/example/liveness/liveness/protocol/Api;"⟩ : MethodName)) hown (mvT hZ (hw _ (List.mem_of_getElem? (i := 1) rfl))) (mvT hZ (hw _ (List.mem_of_getElem? (i := 2) rfl))) (mvT hZ (hw _ (List.mem_of_getElem? (i := 3) rfl))) (mvT hZ (hw _ (List.mem_of_getElem? (i := 4) rfl))) (by decide) (backOf (W := 0) (rm1_12 l Z a0 hw [] ((p0 &&& (2147483647 : Int32)) % (14 : Int32)) w_API_VERSIONS h0 n0 Z0 hs1 hs6 hs11 hs16 hs21 hs26 hs31 hs36 hs41 hs46 hs51 hs56 hs61 S_API_VERSIONS) hZ (hw _ (List.mem_of_getElem? (i := 4) rfl)) (hw _ (List.mem_of_getElem? (i := 3) rfl)) (by decide) (by decide)) (g := (mkF m 7 #[.val (.int p0), .val (.int p1), .unset, .unset, .unset] [(.int ((p0 &&& (2147483647 : Int32)) % (14 : Int32)))])) rfl (by rw [hml]; rfl) (argsL := [(.int ((p0 &&& (2147483647 : Int32)) % (14 : Int32)))]) (rest := []) (lenOf pd_0 rfl) rfl (by show 2 * 0 + _ ≤ _; exact Nat.le_of_eq rfl) (hb hby at_7) (fun _ _ => ⟨rfl, e0, (by decide : 0 + 0 ≤ _), (by decide : 0 + 0 ≤ _)⟩)
                            dsimp only [Pt.U, Pt.locs, Pt.cells, Pt.slots] at X62 l62 y62 z62 st62 hQ62
                            subst l62 y62 z62
                            obtain ⟨rfl, Nq62, q62_0⟩ := hQ62
                            have N62 := Fr.app N0 Nq62
                            refine Go.of st62 ?_
                            show Go p e below _ (T62.setTop (mkF m 10 #[.val (.int p0), .val (.int p1), .unset, .unset, .unset] [(.ref w_API_VERSIONS)]))
                            refine Go.of (fun _ k => XS.astoreN X62.here hx rfl (hb hby at_10) rfl rfl (l' := #[.val (.int p0), .val (.int p1), .val (.ref w_API_VERSIONS), .unset, .unset]) rfl k) ?_
                            show Go p e below _ (T62.setTop (mkF m 11 #[.val (.int p0), .val (.int p1), .val (.ref w_API_VERSIONS), .unset, .unset] []))
                            refine Go.of (fun _ k => XS.iloadN X62.here hx rfl (hb hby at_11) rfl  k) ?_
                            show Go p e below _ (T62.setTop (mkF m 12 #[.val (.int p0), .val (.int p1), .val (.ref w_API_VERSIONS), .unset, .unset] [(.int p1)]))
                            refine Go.of (fun _ k => XS.i2s X62.here hx rfl (hb hby at_12) rfl k) ?_
                            show Go p e below _ (T62.setTop (mkF m 13 #[.val (.int p0), .val (.int p1), .val (.ref w_API_VERSIONS), .unset, .unset] [(.int (p1.toInt16.toInt32))]))
                            refine Go.of (fun _ k => XS.istoreN X62.here hx rfl (hb hby at_13) rfl (l' := #[.val (.int p0), .val (.int p1), .val (.ref w_API_VERSIONS), .val (.int (p1.toInt16.toInt32)), .unset]) rfl k) ?_
                            show Go p e below _ (T62.setTop (mkF m 14 #[.val (.int p0), .val (.int p1), .val (.ref w_API_VERSIONS), .val (.int (p1.toInt16.toInt32)), .unset] []))
                            refine Go.of (fun _ k => XS.iconst X62.here hx rfl (hb hby at_14) k) ?_
                            show Go p e below _ (T62.setTop (mkF m 15 #[.val (.int p0), .val (.int p1), .val (.ref w_API_VERSIONS), .val (.int (p1.toInt16.toInt32)), .unset] [(.int (0 : Int32))]))
                            refine Go.of (fun _ k => XS.istore X62.here hx rfl (hb hby at_15) rfl (l' := #[.val (.int p0), .val (.int p1), .val (.ref w_API_VERSIONS), .val (.int (p1.toInt16.toInt32)), .val (.int (0 : Int32))]) rfl k) ?_
                            show Go p e below _ (T62.setTop (mkF m 17 #[.val (.int p0), .val (.int p1), .val (.ref w_API_VERSIONS), .val (.int (p1.toInt16.toInt32)), .val (.int (0 : Int32))] []))
                            refine Go.of (fun _ k => XS.aloadN X62.here hx rfl (hb hby at_17) rfl rfl k) ?_
                            show Go p e below _ (T62.setTop (mkF m 18 #[.val (.int p0), .val (.int p1), .val (.ref w_API_VERSIONS), .val (.int (p1.toInt16.toInt32)), .val (.int (0 : Int32))] [(.ref w_API_VERSIONS)]))
                            obtain ⟨T63, X63, e63, st63⟩ := getS2 X62 hx hZ hown (host := "") (Or.inl (hw _ (List.mem_of_getElem? (i := 8) rfl))) Via.refl q62_0 S_API_VERSIONS (g := (mkF m 18 #[.val (.int p0), .val (.int p1), .val (.ref w_API_VERSIONS), .val (.int (p1.toInt16.toInt32)), .val (.int (0 : Int32))] [(.ref w_API_VERSIONS)])) rfl (hb hby at_18)
                            refine Go.of st63 ?_
                            show Go p e below _ (T63.setTop (mkF m 21 #[.val (.int p0), .val (.int p1), .val (.ref w_API_VERSIONS), .val (.int (p1.toInt16.toInt32)), .val (.int (0 : Int32))] [(.ref w_API_VERSIONS), (.ref w_API_VERSIONS)]))
                            refine Go.of (fun _ k => Jvm.RoadKit.acmp (g := (mkF m 21 #[.val (.int p0), .val (.int p1), .val (.ref w_API_VERSIONS), .val (.int (p1.toInt16.toInt32)), .val (.int (0 : Int32))] [(.ref w_API_VERSIONS), (.ref w_API_VERSIONS)])) X63 hx rfl rfl rfl (pc0 := 21) (pc' := 24) (same := true) rfl (hb hby at_21) rfl (decide_eq_true rfl) (by decide) (by decide) k) ?_
                            show Go p e below _ (T63.setTop (mkF m 24 #[.val (.int p0), .val (.int p1), .val (.ref w_API_VERSIONS), .val (.int (p1.toInt16.toInt32)), .val (.int (0 : Int32))] []))
                            refine Go.of (fun _ k => XS.iloadN X63.here hx rfl (hb hby at_24) rfl  k) ?_
                            show Go p e below _ (T63.setTop (mkF m 25 #[.val (.int p0), .val (.int p1), .val (.ref w_API_VERSIONS), .val (.int (p1.toInt16.toInt32)), .val (.int (0 : Int32))] [(.int (p1.toInt16.toInt32))]))
                            refine Go.of (fun _ k => XS.iconst X63.here hx rfl (hb hby at_25) k) ?_
                            show Go p e below _ (T63.setTop (mkF m 26 #[.val (.int p0), .val (.int p1), .val (.ref w_API_VERSIONS), .val (.int (p1.toInt16.toInt32)), .val (.int (0 : Int32))] [(.int (3 : Int32)), (.int (p1.toInt16.toInt32))]))
                            by_cases hc64 : (p1.toInt16.toInt32) < (3 : Int32)
                            ·
                              refine Go.of (fun _ k => XS.icmpYes X63.here hx rfl (pc0 := 26) (pc' := 33) rfl (hb hby at_26) rfl (tlt hc64).1 (by decide) (by decide) k) ?_
                              show Go p e below _ (T63.setTop (mkF m 33 #[.val (.int p0), .val (.int p1), .val (.ref w_API_VERSIONS), .val (.int (p1.toInt16.toInt32)), .val (.int (0 : Int32))] []))
                              refine Go.of (fun _ k => XS.iconst X63.here hx rfl (hb hby at_33) k) ?_
                              show Go p e below _ (T63.setTop (mkF m 34 #[.val (.int p0), .val (.int p1), .val (.ref w_API_VERSIONS), .val (.int (p1.toInt16.toInt32)), .val (.int (0 : Int32))] [(.int (0 : Int32))]))
                              refine Go.of (fun _ k => XS.istore X63.here hx rfl (hb hby at_34) rfl (l' := #[.val (.int p0), .val (.int p1), .val (.ref w_API_VERSIONS), .val (.int (p1.toInt16.toInt32)), .val (.int (0 : Int32))]) rfl k) ?_
                              show Go p e below _ (T63.setTop (mkF m 36 #[.val (.int p0), .val (.int p1), .val (.ref w_API_VERSIONS), .val (.int (p1.toInt16.toInt32)), .val (.int (0 : Int32))] []))
                              refine Go.of (fun _ k => XS.aloadN X63.here hx rfl (hb hby at_36) rfl rfl k) ?_
                              show Go p e below _ (T63.setTop (mkF m 37 #[.val (.int p0), .val (.int p1), .val (.ref w_API_VERSIONS), .val (.int (p1.toInt16.toInt32)), .val (.int (0 : Int32))] [(.ref w_API_VERSIONS)]))
                              refine Go.of (fun _ k => XS.iloadN X63.here hx rfl (hb hby at_37) rfl  k) ?_
                              show Go p e below _ (T63.setTop (mkF m 38 #[.val (.int p0), .val (.int p1), .val (.ref w_API_VERSIONS), .val (.int (p1.toInt16.toInt32)), .val (.int (0 : Int32))] [(.int (p1.toInt16.toInt32)), (.ref w_API_VERSIONS)]))
                              obtain ⟨cq65, kq65, q65a, q65b, q65c⟩ := isOf hZ e63 E_w_API_VERSIONS
                              obtain ⟨_, _, ⟨T65, L65, k65, n65⟩, -, X65, ⟨Lc65, hQ65, l65, y65, z65⟩, st65⟩ := X63.virtualBack hx (y := (⟨"com/example/liveness/liveness/protocol/Api", "isFlexible", "(S)Z"⟩ : MethodName)) (z := (⟨"com/example/liveness/liveness/protocol/Api", "isFlexible", "(S)Z"⟩ : MethodName)) hown (mvT hZ (hw _ (List.mem_of_getElem? (i := 10) rfl))) (mvT hZ (hw _ (List.mem_of_getElem? (i := 11) rfl))) (notFace_of_selects (args := #[]) (mvT hZ (hw _ (List.mem_of_getElem? (i := 13) rfl)))) (mvT hZ (hw _ (List.mem_of_getElem? (i := 13) rfl))) (mvT hZ (hw _ (List.mem_of_getElem? (i := 12) rfl))) (by decide) (backOf (W := 0) (rm2_no l Z a0 hw [] w_API_VERSIONS (p1.toInt16.toInt32) (3 : Int32) h0 n0 Z0 F_w_API_VERSIONS_firstFlexibleVersion hc64) hZ (hw _ (List.mem_of_getElem? (i := 14) rfl)) (hw _ (List.mem_of_getElem? (i := 6) rfl)) (by decide) (by decide)) q65a q65c (g := (mkF m 38 #[.val (.int p0), .val (.int p1), .val (.ref w_API_VERSIONS), .val (.int (p1.toInt16.toInt32)), .val (.int (0 : Int32))] [(.int (p1.toInt16.toInt32)), (.ref w_API_VERSIONS)])) rfl (by rw [hml]; rfl) (Steps.refl _) (argsL := [(.int (p1.toInt16.toInt32))]) (rest := []) (lenOf pd_1 rfl) rfl (by show 2 * 0 + _ ≤ _; exact Nat.le_of_eq rfl) (hb hby at_38) (fun _ _ => ⟨rfl, e63, (by decide : 0 + 0 ≤ _), (by decide : 0 + 0 ≤ _)⟩)
                              dsimp only [Pt.U, Pt.locs, Pt.cells, Pt.slots] at X65 l65 y65 z65 st65 hQ65
                              subst l65 y65 z65
                              obtain ⟨rfl, Nq65, q65_0⟩ := hQ65
                              have N65 := Fr.app N62 Nq65
                              refine Go.tr st65 ?_
                              show Go p e below _ (T65.setTop (mkF m 41 #[.val (.int p0), .val (.int p1), .val (.ref w_API_VERSIONS), .val (.int (p1.toInt16.toInt32)), .val (.int (0 : Int32))] [(.int (0 : Int32))]))
                              refine Go.of (fun _ k => XS.iload X65.here hx rfl (hb hby at_41) rfl  k) ?_
                              show Go p e below _ (T65.setTop (mkF m 43 #[.val (.int p0), .val (.int p1), .val (.ref w_API_VERSIONS), .val (.int (p1.toInt16.toInt32)), .val (.int (0 : Int32))] [(.int (0 : Int32)), (.int (0 : Int32))]))
                              refine Go.of (fun _ k => XS.icmpNo X65.here hx rfl (hb hby at_43) rfl (teq (by decide : (0 : Int32) = (0 : Int32))).2 k) ?_
                              show Go p e below _ (T65.setTop (mkF m 46 #[.val (.int p0), .val (.int p1), .val (.ref w_API_VERSIONS), .val (.int (p1.toInt16.toInt32)), .val (.int (0 : Int32))] []))
                              refine Go.of (fun _ k => XS.iconst X65.here hx rfl (hb hby at_46) k) ?_
                              show Go p e below _ (T65.setTop (mkF m 47 #[.val (.int p0), .val (.int p1), .val (.ref w_API_VERSIONS), .val (.int (p1.toInt16.toInt32)), .val (.int (0 : Int32))] [(.int (1 : Int32))]))
                              refine Go.of (fun _ k => XS.goto X65.here hx rfl (pc0 := 47) (pc' := 51) rfl (hb hby at_47) (by decide) (by decide) k) ?_
                              show Go p e below _ (T65.setTop (mkF m 51 #[.val (.int p0), .val (.int p1), .val (.ref w_API_VERSIONS), .val (.int (p1.toInt16.toInt32)), .val (.int (0 : Int32))] [(.int (1 : Int32))]))
                              obtain ⟨fs, hr, hrun, hended, hW, hsame⟩ := X65.leave (v := some (.int (1 : Int32))) (fun h => by rw [Bd.returns] at h; cases h)
                              refine Go.mk _ _ ?_ hrun hended ⟨_, _, rfl, ?_, ⟨_, rfl⟩, hW, hsame.mono (by decide) (by decide)⟩
                              · exact retN X65 hx (t := .boolean) Bd.returns (by simp) (hb hby at_51) hr
                              · show Q0 Z p0 p1 w_FETCH w_API_VERSIONS w_LIST_OFFSETS w_METADATA w_OFFSET_COMMIT w_OFFSET_FETCH w_FIND_COORDINATOR w_JOIN_GROUP w_HEARTBEAT w_LEAVE_GROUP w_SYNC_GROUP w_DESCRIBE_GROUPS w_LIST_GROUPS w_DELETE_GROUPS h0 n0 _ T65.heap _
                                rw [q65_0]
                                exact ⟨rfl, N65⟩
                            ·
                              refine Go.of (fun _ k => XS.icmpNo X63.here hx rfl (hb hby at_26) rfl (flt hc64).1 k) ?_
                              show Go p e below _ (T63.setTop (mkF m 29 #[.val (.int p0), .val (.int p1), .val (.ref w_API_VERSIONS), .val (.int (p1.toInt16.toInt32)), .val (.int (0 : Int32))] []))
                              refine Go.of (fun _ k => XS.iconst X63.here hx rfl (hb hby at_29) k) ?_
                              show Go p e below _ (T63.setTop (mkF m 30 #[.val (.int p0), .val (.int p1), .val (.ref w_API_VERSIONS), .val (.int (p1.toInt16.toInt32)), .val (.int (0 : Int32))] [(.int (1 : Int32))]))
                              refine Go.of (fun _ k => XS.goto X63.here hx rfl (pc0 := 30) (pc' := 34) rfl (hb hby at_30) (by decide) (by decide) k) ?_
                              show Go p e below _ (T63.setTop (mkF m 34 #[.val (.int p0), .val (.int p1), .val (.ref w_API_VERSIONS), .val (.int (p1.toInt16.toInt32)), .val (.int (0 : Int32))] [(.int (1 : Int32))]))
                              refine Go.of (fun _ k => XS.istore X63.here hx rfl (hb hby at_34) rfl (l' := #[.val (.int p0), .val (.int p1), .val (.ref w_API_VERSIONS), .val (.int (p1.toInt16.toInt32)), .val (.int (1 : Int32))]) rfl k) ?_
                              show Go p e below _ (T63.setTop (mkF m 36 #[.val (.int p0), .val (.int p1), .val (.ref w_API_VERSIONS), .val (.int (p1.toInt16.toInt32)), .val (.int (1 : Int32))] []))
                              refine Go.of (fun _ k => XS.aloadN X63.here hx rfl (hb hby at_36) rfl rfl k) ?_
                              show Go p e below _ (T63.setTop (mkF m 37 #[.val (.int p0), .val (.int p1), .val (.ref w_API_VERSIONS), .val (.int (p1.toInt16.toInt32)), .val (.int (1 : Int32))] [(.ref w_API_VERSIONS)]))
                              refine Go.of (fun _ k => XS.iloadN X63.here hx rfl (hb hby at_37) rfl  k) ?_
                              show Go p e below _ (T63.setTop (mkF m 38 #[.val (.int p0), .val (.int p1), .val (.ref w_API_VERSIONS), .val (.int (p1.toInt16.toInt32)), .val (.int (1 : Int32))] [(.int (p1.toInt16.toInt32)), (.ref w_API_VERSIONS)]))
                              obtain ⟨cq67, kq67, q67a, q67b, q67c⟩ := isOf hZ e63 E_w_API_VERSIONS
                              obtain ⟨_, _, ⟨T67, L67, k67, n67⟩, -, X67, ⟨Lc67, hQ67, l67, y67, z67⟩, st67⟩ := X63.virtualBack hx (y := (⟨"com/example/liveness/liveness/protocol/Api", "isFlexible", "(S)Z"⟩ : MethodName)) (z := (⟨"com/example/liveness/liveness/protocol/Api", "isFlexible", "(S)Z"⟩ : MethodName)) hown (mvT hZ (hw _ (List.mem_of_getElem? (i := 10) rfl))) (mvT hZ (hw _ (List.mem_of_getElem? (i := 11) rfl))) (notFace_of_selects (args := #[]) (mvT hZ (hw _ (List.mem_of_getElem? (i := 13) rfl)))) (mvT hZ (hw _ (List.mem_of_getElem? (i := 13) rfl))) (mvT hZ (hw _ (List.mem_of_getElem? (i := 12) rfl))) (by decide) (backOf (W := 0) (rm2_yes l Z a0 hw [] w_API_VERSIONS (p1.toInt16.toInt32) (3 : Int32) h0 n0 Z0 F_w_API_VERSIONS_firstFlexibleVersion hc64) hZ (hw _ (List.mem_of_getElem? (i := 14) rfl)) (hw _ (List.mem_of_getElem? (i := 6) rfl)) (by decide) (by decide)) q67a q67c (g := (mkF m 38 #[.val (.int p0), .val (.int p1), .val (.ref w_API_VERSIONS), .val (.int (p1.toInt16.toInt32)), .val (.int (1 : Int32))] [(.int (p1.toInt16.toInt32)), (.ref w_API_VERSIONS)])) rfl (by rw [hml]; rfl) (Steps.refl _) (argsL := [(.int (p1.toInt16.toInt32))]) (rest := []) (lenOf pd_1 rfl) rfl (by show 2 * 0 + _ ≤ _; exact Nat.le_of_eq rfl) (hb hby at_38) (fun _ _ => ⟨rfl, e63, (by decide : 0 + 0 ≤ _), (by decide : 0 + 0 ≤ _)⟩)
                              dsimp only [Pt.U, Pt.locs, Pt.cells, Pt.slots] at X67 l67 y67 z67 st67 hQ67
                              subst l67 y67 z67
                              obtain ⟨rfl, Nq67, q67_0⟩ := hQ67
                              have N67 := Fr.app N62 Nq67
                              refine Go.tr st67 ?_
                              show Go p e below _ (T67.setTop (mkF m 41 #[.val (.int p0), .val (.int p1), .val (.ref w_API_VERSIONS), .val (.int (p1.toInt16.toInt32)), .val (.int (1 : Int32))] [(.int (1 : Int32))]))
                              refine Go.of (fun _ k => XS.iload X67.here hx rfl (hb hby at_41) rfl  k) ?_
                              show Go p e below _ (T67.setTop (mkF m 43 #[.val (.int p0), .val (.int p1), .val (.ref w_API_VERSIONS), .val (.int (p1.toInt16.toInt32)), .val (.int (1 : Int32))] [(.int (1 : Int32)), (.int (1 : Int32))]))
                              refine Go.of (fun _ k => XS.icmpNo X67.here hx rfl (hb hby at_43) rfl (teq (by decide : (1 : Int32) = (1 : Int32))).2 k) ?_
                              show Go p e below _ (T67.setTop (mkF m 46 #[.val (.int p0), .val (.int p1), .val (.ref w_API_VERSIONS), .val (.int (p1.toInt16.toInt32)), .val (.int (1 : Int32))] []))
                              refine Go.of (fun _ k => XS.iconst X67.here hx rfl (hb hby at_46) k) ?_
                              show Go p e below _ (T67.setTop (mkF m 47 #[.val (.int p0), .val (.int p1), .val (.ref w_API_VERSIONS), .val (.int (p1.toInt16.toInt32)), .val (.int (1 : Int32))] [(.int (1 : Int32))]))
                              refine Go.of (fun _ k => XS.goto X67.here hx rfl (pc0 := 47) (pc' := 51) rfl (hb hby at_47) (by decide) (by decide) k) ?_
                              show Go p e below _ (T67.setTop (mkF m 51 #[.val (.int p0), .val (.int p1), .val (.ref w_API_VERSIONS), .val (.int (p1.toInt16.toInt32)), .val (.int (1 : Int32))] [(.int (1 : Int32))]))
                              obtain ⟨fs, hr, hrun, hended, hW, hsame⟩ := X67.leave (v := some (.int (1 : Int32))) (fun h => by rw [Bd.returns] at h; cases h)
                              refine Go.mk _ _ ?_ hrun hended ⟨_, _, rfl, ?_, ⟨_, rfl⟩, hW, hsame.mono (by decide) (by decide)⟩
                              · exact retN X67 hx (t := .boolean) Bd.returns (by simp) (hb hby at_51) hr
                              · show Q0 Z p0 p1 w_FETCH w_API_VERSIONS w_LIST_OFFSETS w_METADATA w_OFFSET_COMMIT w_OFFSET_FETCH w_FIND_COORDINATOR w_JOIN_GROUP w_HEARTBEAT w_LEAVE_GROUP w_SYNC_GROUP w_DESCRIBE_GROUPS w_LIST_GROUPS w_DELETE_GROUPS h0 n0 _ T67.heap _
                                rw [q67_0]
                                exact ⟨rfl, N67⟩
                          ·
                            show Go p e below _ (s₁.setTop (mkF m 7 #[.val (.int p0), .val (.int p1), .unset, .unset, .unset] [(.int ((p0 &&& (2147483647 : Int32)) % (14 : Int32)))]))
                            obtain ⟨_, _, ⟨T69, L69, k69, n69⟩, -, X69, ⟨Lc69, hQ69, l69, y69, z69⟩, st69⟩ := Jvm.LawKit.callS X0 hx (y := (⟨"com/example/liveness/liveness/protocol/ApiIsFlexiblePinLaw", "pick", "(I)Lcom/example/liveness/liveness/protocol/Api;"⟩ : MethodName)) hown (mvT hZ (hw _ (List.mem_of_getElem? (i := 1) rfl))) (mvT hZ (hw _ (List.mem_of_getElem? (i := 2) rfl))) (mvT hZ (hw _ (List.mem_of_getElem? (i := 3) rfl))) (mvT hZ (hw _ (List.mem_of_getElem? (i := 4) rfl))) (by decide) (backOf (W := 0) (rm1_13 l Z a0 hw [] ((p0 &&& (2147483647 : Int32)) % (14 : Int32)) w_DELETE_GROUPS h0 n0 Z0 hs1 hs6 hs11 hs16 hs21 hs26 hs31 hs36 hs41 hs46 hs51 hs56 hs61 S_DELETE_GROUPS) hZ (hw _ (List.mem_of_getElem? (i := 4) rfl)) (hw _ (List.mem_of_getElem? (i := 3) rfl)) (by decide) (by decide)) (g := (mkF m 7 #[.val (.int p0), .val (.int p1), .unset, .unset, .unset] [(.int ((p0 &&& (2147483647 : Int32)) % (14 : Int32)))])) rfl (by rw [hml]; rfl) (argsL := [(.int ((p0 &&& (2147483647 : Int32)) % (14 : Int32)))]) (rest := []) (lenOf pd_0 rfl) rfl (by show 2 * 0 + _ ≤ _; exact Nat.le_of_eq rfl) (hb hby at_7) (fun _ _ => ⟨rfl, e0, (by decide : 0 + 0 ≤ _), (by decide : 0 + 0 ≤ _)⟩)
                            dsimp only [Pt.U, Pt.locs, Pt.cells, Pt.slots] at X69 l69 y69 z69 st69 hQ69
                            subst l69 y69 z69
                            obtain ⟨rfl, Nq69, q69_0⟩ := hQ69
                            have N69 := Fr.app N0 Nq69
                            refine Go.of st69 ?_
                            show Go p e below _ (T69.setTop (mkF m 10 #[.val (.int p0), .val (.int p1), .unset, .unset, .unset] [(.ref w_DELETE_GROUPS)]))
                            refine Go.of (fun _ k => XS.astoreN X69.here hx rfl (hb hby at_10) rfl rfl (l' := #[.val (.int p0), .val (.int p1), .val (.ref w_DELETE_GROUPS), .unset, .unset]) rfl k) ?_
                            show Go p e below _ (T69.setTop (mkF m 11 #[.val (.int p0), .val (.int p1), .val (.ref w_DELETE_GROUPS), .unset, .unset] []))
                            refine Go.of (fun _ k => XS.iloadN X69.here hx rfl (hb hby at_11) rfl  k) ?_
                            show Go p e below _ (T69.setTop (mkF m 12 #[.val (.int p0), .val (.int p1), .val (.ref w_DELETE_GROUPS), .unset, .unset] [(.int p1)]))
                            refine Go.of (fun _ k => XS.i2s X69.here hx rfl (hb hby at_12) rfl k) ?_
                            show Go p e below _ (T69.setTop (mkF m 13 #[.val (.int p0), .val (.int p1), .val (.ref w_DELETE_GROUPS), .unset, .unset] [(.int (p1.toInt16.toInt32))]))
                            refine Go.of (fun _ k => XS.istoreN X69.here hx rfl (hb hby at_13) rfl (l' := #[.val (.int p0), .val (.int p1), .val (.ref w_DELETE_GROUPS), .val (.int (p1.toInt16.toInt32)), .unset]) rfl k) ?_
                            show Go p e below _ (T69.setTop (mkF m 14 #[.val (.int p0), .val (.int p1), .val (.ref w_DELETE_GROUPS), .val (.int (p1.toInt16.toInt32)), .unset] []))
                            refine Go.of (fun _ k => XS.iconst X69.here hx rfl (hb hby at_14) k) ?_
                            show Go p e below _ (T69.setTop (mkF m 15 #[.val (.int p0), .val (.int p1), .val (.ref w_DELETE_GROUPS), .val (.int (p1.toInt16.toInt32)), .unset] [(.int (0 : Int32))]))
                            refine Go.of (fun _ k => XS.istore X69.here hx rfl (hb hby at_15) rfl (l' := #[.val (.int p0), .val (.int p1), .val (.ref w_DELETE_GROUPS), .val (.int (p1.toInt16.toInt32)), .val (.int (0 : Int32))]) rfl k) ?_
                            show Go p e below _ (T69.setTop (mkF m 17 #[.val (.int p0), .val (.int p1), .val (.ref w_DELETE_GROUPS), .val (.int (p1.toInt16.toInt32)), .val (.int (0 : Int32))] []))
                            refine Go.of (fun _ k => XS.aloadN X69.here hx rfl (hb hby at_17) rfl rfl k) ?_
                            show Go p e below _ (T69.setTop (mkF m 18 #[.val (.int p0), .val (.int p1), .val (.ref w_DELETE_GROUPS), .val (.int (p1.toInt16.toInt32)), .val (.int (0 : Int32))] [(.ref w_DELETE_GROUPS)]))
                            obtain ⟨T70, X70, e70, st70⟩ := getS2 X69 hx hZ hown (host := "") (Or.inl (hw _ (List.mem_of_getElem? (i := 8) rfl))) Via.refl q69_0 S_API_VERSIONS (g := (mkF m 18 #[.val (.int p0), .val (.int p1), .val (.ref w_DELETE_GROUPS), .val (.int (p1.toInt16.toInt32)), .val (.int (0 : Int32))] [(.ref w_DELETE_GROUPS)])) rfl (hb hby at_18)
                            refine Go.of st70 ?_
                            show Go p e below _ (T70.setTop (mkF m 21 #[.val (.int p0), .val (.int p1), .val (.ref w_DELETE_GROUPS), .val (.int (p1.toInt16.toInt32)), .val (.int (0 : Int32))] [(.ref w_API_VERSIONS), (.ref w_DELETE_GROUPS)]))
                            refine Go.of (fun _ k => Jvm.RoadKit.acmp (g := (mkF m 21 #[.val (.int p0), .val (.int p1), .val (.ref w_DELETE_GROUPS), .val (.int (p1.toInt16.toInt32)), .val (.int (0 : Int32))] [(.ref w_API_VERSIONS), (.ref w_DELETE_GROUPS)])) X70 hx rfl rfl rfl (pc0 := 21) (pc' := 36) (same := false) rfl (hb hby at_21) rfl (decide_eq_false fun q => (Ne.symm ne_w_API_VERSIONS_w_DELETE_GROUPS) (Value.ref.inj q)) (by decide) (by decide) k) ?_
                            show Go p e below _ (T70.setTop (mkF m 36 #[.val (.int p0), .val (.int p1), .val (.ref w_DELETE_GROUPS), .val (.int (p1.toInt16.toInt32)), .val (.int (0 : Int32))] []))
                            refine Go.of (fun _ k => XS.aloadN X70.here hx rfl (hb hby at_36) rfl rfl k) ?_
                            show Go p e below _ (T70.setTop (mkF m 37 #[.val (.int p0), .val (.int p1), .val (.ref w_DELETE_GROUPS), .val (.int (p1.toInt16.toInt32)), .val (.int (0 : Int32))] [(.ref w_DELETE_GROUPS)]))
                            refine Go.of (fun _ k => XS.iloadN X70.here hx rfl (hb hby at_37) rfl  k) ?_
                            show Go p e below _ (T70.setTop (mkF m 38 #[.val (.int p0), .val (.int p1), .val (.ref w_DELETE_GROUPS), .val (.int (p1.toInt16.toInt32)), .val (.int (0 : Int32))] [(.int (p1.toInt16.toInt32)), (.ref w_DELETE_GROUPS)]))
                            obtain ⟨cq71, kq71, q71a, q71b, q71c⟩ := isOf hZ e70 E_w_DELETE_GROUPS
                            obtain ⟨_, _, ⟨T71, L71, k71, n71⟩, -, X71, ⟨Lc71, hQ71, l71, y71, z71⟩, st71⟩ := X70.virtualBack hx (y := (⟨"com/example/liveness/liveness/protocol/Api", "isFlexible", "(S)Z"⟩ : MethodName)) (z := (⟨"com/example/liveness/liveness/protocol/Api", "isFlexible", "(S)Z"⟩ : MethodName)) hown (mvT hZ (hw _ (List.mem_of_getElem? (i := 10) rfl))) (mvT hZ (hw _ (List.mem_of_getElem? (i := 11) rfl))) (notFace_of_selects (args := #[]) (mvT hZ (hw _ (List.mem_of_getElem? (i := 13) rfl)))) (mvT hZ (hw _ (List.mem_of_getElem? (i := 13) rfl))) (mvT hZ (hw _ (List.mem_of_getElem? (i := 12) rfl))) (by decide) (backOf (W := 0) (rm2_no l Z a0 hw [] w_DELETE_GROUPS (p1.toInt16.toInt32) (2147483647 : Int32) h0 n0 Z0 F_w_DELETE_GROUPS_firstFlexibleVersion (own_short p1)) hZ (hw _ (List.mem_of_getElem? (i := 14) rfl)) (hw _ (List.mem_of_getElem? (i := 6) rfl)) (by decide) (by decide)) q71a q71c (g := (mkF m 38 #[.val (.int p0), .val (.int p1), .val (.ref w_DELETE_GROUPS), .val (.int (p1.toInt16.toInt32)), .val (.int (0 : Int32))] [(.int (p1.toInt16.toInt32)), (.ref w_DELETE_GROUPS)])) rfl (by rw [hml]; rfl) (Steps.refl _) (argsL := [(.int (p1.toInt16.toInt32))]) (rest := []) (lenOf pd_1 rfl) rfl (by show 2 * 0 + _ ≤ _; exact Nat.le_of_eq rfl) (hb hby at_38) (fun _ _ => ⟨rfl, e70, (by decide : 0 + 0 ≤ _), (by decide : 0 + 0 ≤ _)⟩)
                            dsimp only [Pt.U, Pt.locs, Pt.cells, Pt.slots] at X71 l71 y71 z71 st71 hQ71
                            subst l71 y71 z71
                            obtain ⟨rfl, Nq71, q71_0⟩ := hQ71
                            have N71 := Fr.app N69 Nq71
                            refine Go.tr st71 ?_
                            show Go p e below _ (T71.setTop (mkF m 41 #[.val (.int p0), .val (.int p1), .val (.ref w_DELETE_GROUPS), .val (.int (p1.toInt16.toInt32)), .val (.int (0 : Int32))] [(.int (0 : Int32))]))
                            refine Go.of (fun _ k => XS.iload X71.here hx rfl (hb hby at_41) rfl  k) ?_
                            show Go p e below _ (T71.setTop (mkF m 43 #[.val (.int p0), .val (.int p1), .val (.ref w_DELETE_GROUPS), .val (.int (p1.toInt16.toInt32)), .val (.int (0 : Int32))] [(.int (0 : Int32)), (.int (0 : Int32))]))
                            refine Go.of (fun _ k => XS.icmpNo X71.here hx rfl (hb hby at_43) rfl (teq (by decide : (0 : Int32) = (0 : Int32))).2 k) ?_
                            show Go p e below _ (T71.setTop (mkF m 46 #[.val (.int p0), .val (.int p1), .val (.ref w_DELETE_GROUPS), .val (.int (p1.toInt16.toInt32)), .val (.int (0 : Int32))] []))
                            refine Go.of (fun _ k => XS.iconst X71.here hx rfl (hb hby at_46) k) ?_
                            show Go p e below _ (T71.setTop (mkF m 47 #[.val (.int p0), .val (.int p1), .val (.ref w_DELETE_GROUPS), .val (.int (p1.toInt16.toInt32)), .val (.int (0 : Int32))] [(.int (1 : Int32))]))
                            refine Go.of (fun _ k => XS.goto X71.here hx rfl (pc0 := 47) (pc' := 51) rfl (hb hby at_47) (by decide) (by decide) k) ?_
                            show Go p e below _ (T71.setTop (mkF m 51 #[.val (.int p0), .val (.int p1), .val (.ref w_DELETE_GROUPS), .val (.int (p1.toInt16.toInt32)), .val (.int (0 : Int32))] [(.int (1 : Int32))]))
                            obtain ⟨fs, hr, hrun, hended, hW, hsame⟩ := X71.leave (v := some (.int (1 : Int32))) (fun h => by rw [Bd.returns] at h; cases h)
                            refine Go.mk _ _ ?_ hrun hended ⟨_, _, rfl, ?_, ⟨_, rfl⟩, hW, hsame.mono (by decide) (by decide)⟩
                            · exact retN X71 hx (t := .boolean) Bd.returns (by simp) (hb hby at_51) hr
                            · show Q0 Z p0 p1 w_FETCH w_API_VERSIONS w_LIST_OFFSETS w_METADATA w_OFFSET_COMMIT w_OFFSET_FETCH w_FIND_COORDINATOR w_JOIN_GROUP w_HEARTBEAT w_LEAVE_GROUP w_SYNC_GROUP w_DESCRIBE_GROUPS w_LIST_GROUPS w_DELETE_GROUPS h0 n0 _ T71.heap _
                              rw [q71_0]
                              exact ⟨rfl, N71⟩
set_option maxRecDepth 65536 in
set_option maxHeartbeats 40000000 in
theorem comes_1 {Post : Tables → Env → Array Value → State → Outcome → State → Prop} (hpost : ∀ tb e args s v u, (limb_1_1.after args s (.returned v) u = true ∧ limb_1_2.after args s (.returned v) u = true ∧ True) → FrameEnd s (.returned v) u (Jvm.fieldLocs frame_1_writes args s ++ Jvm.arrayLocs frame_1_arrays args s ++ Jvm.staticLocs frame_1_statics s) 0 0 → Post tb e args s (.returned v) u) :
    ArmFor flags0 classFile x code maxLocals ret World_1 tables_1 room_1 Calls_1 rest_1 Pre_1 Post := by
  intro l hfl _ _ p e ha hc hk s m args below hf hA hF happ hP
  obtain ⟨hcalls, hrest, hpre⟩ := hP
  obtain ⟨-, -, -, hnamed, -, -, -, hat⟩ := (Spec.applies_iff hf).mp happ
  obtain ⟨hg, hn⟩ := and_e (Cond.before_iff.mp (show (Jvm.Cond.and given_1 narrow_1).before args s = true from hpre))
  obtain ⟨g1, g2⟩ := and_e hg
  obtain ⟨g3, g4⟩ := and_e g2
  obtain ⟨w0, w1, rfl⟩ : ∃ w0 w1 : Value, args = #[w0, w1] := by
    have hs : args.size = 2 := by simpa [Cond.value, given_1] using g1
    obtain ⟨L⟩ := args
    match L, hs with
    | [w0, w1], _ => exact ⟨w0, w1, rfl⟩
  have hw := fun d (hd : d ∈ tables_1) => atoms_spec (ws := Jvm.Cond.code x code maxLocals ret :: tables_1) hat d (List.mem_cons_of_mem _ hd)
  have hfit : Fit s := fun {y c} hc i hi => by
    obtain ⟨ha, rfl⟩ := Array.getElem?_eq_some_iff.mp hc
    have q := List.all_eq_true.mp ((Array.all_eq_true_iff_forall_mem.mp hF) _ (Array.getElem_mem ha)) i (List.mem_range.mpr hi)
    simpa [Array.getElem?_eq_getElem hi] using q
  obtain ⟨i0, ei0⟩ := is_v g3
  obtain rfl : w0 = (.int i0) := Option.some.inj ei0
  obtain ⟨i1, ei1⟩ := is_v g4
  obtain rfl : w1 = (.int i1) := Option.some.inj ei1
  obtain ⟨g5, g6⟩ := and_e hn
  obtain ⟨g7, g8⟩ := and_e g6
  obtain ⟨g9, g10⟩ := and_e g8
  obtain ⟨g11, g12⟩ := and_e g10
  obtain ⟨g13, g14⟩ := and_e g12
  obtain ⟨g15, g16⟩ := and_e g14
  obtain ⟨g17, g18⟩ := and_e g16
  obtain ⟨g19, g20⟩ := and_e g18
  obtain ⟨g21, g22⟩ := and_e g20
  obtain ⟨g23, g24⟩ := and_e g22
  obtain ⟨g25, g26⟩ := and_e g24
  obtain ⟨g27, g28⟩ := and_e g26
  obtain ⟨g29, g30⟩ := and_e g28
  obtain ⟨g31, g32⟩ := and_e g30
  obtain ⟨g33, g34⟩ := and_e g32
  obtain ⟨g35, g36⟩ := and_e g34
  obtain ⟨g37, g38⟩ := and_e g36
  obtain ⟨g39, g40⟩ := and_e g38
  obtain ⟨g41, g42⟩ := and_e g40
  obtain ⟨g43, g44⟩ := and_e g42
  obtain ⟨g45, g46⟩ := and_e g44
  obtain ⟨g47, g48⟩ := and_e g46
  obtain ⟨g49, g50⟩ := and_e g48
  obtain ⟨g51, g52⟩ := and_e g50
  obtain ⟨g53, g54⟩ := and_e g52
  obtain ⟨g55, g56⟩ := and_e g54
  obtain ⟨g57, g58⟩ := and_e g56
  obtain ⟨g59, g60⟩ := and_e g58
  obtain ⟨g61, g62⟩ := and_e g60
  obtain ⟨g63, g64⟩ := and_e g62
  obtain ⟨g65, g66⟩ := and_e g64
  obtain ⟨g67, g68⟩ := and_e g66
  obtain ⟨g69, g70⟩ := and_e g68
  obtain ⟨g71, g72⟩ := and_e g70
  obtain ⟨g73, g74⟩ := and_e g72
  obtain ⟨g75, g76⟩ := and_e g74
  obtain ⟨g77, g78⟩ := and_e g76
  obtain ⟨g79, g80⟩ := and_e g78
  obtain ⟨g81, g82⟩ := and_e g80
  obtain ⟨g83, g84⟩ := and_e g82
  obtain ⟨g85, g86⟩ := and_e g84
  obtain ⟨w_FETCH, ev_FETCH, E_w_FETCH⟩ := own_sta g5
  have S_FETCH := Sta.start ev_FETCH (Or.inr ⟨(hw _ (List.mem_of_getElem? (i := 6) rfl)), (hw _ (List.mem_of_getElem? (i := 7) rfl))⟩)
  obtain ⟨w_API_VERSIONS, ev_API_VERSIONS, E_w_API_VERSIONS⟩ := own_sta g7
  have S_API_VERSIONS := Sta.start ev_API_VERSIONS (Or.inr ⟨(hw _ (List.mem_of_getElem? (i := 6) rfl)), (hw _ (List.mem_of_getElem? (i := 9) rfl))⟩)
  obtain ⟨w_DESCRIBE_GROUPS, ev_DESCRIBE_GROUPS, E_w_DESCRIBE_GROUPS⟩ := own_sta g15
  have S_DESCRIBE_GROUPS := Sta.start ev_DESCRIBE_GROUPS (Or.inr ⟨(hw _ (List.mem_of_getElem? (i := 6) rfl)), (hw _ (List.mem_of_getElem? (i := 18) rfl))⟩)
  obtain ⟨w_LEAVE_GROUP, ev_LEAVE_GROUP, E_w_LEAVE_GROUP⟩ := own_sta g21
  have S_LEAVE_GROUP := Sta.start ev_LEAVE_GROUP (Or.inr ⟨(hw _ (List.mem_of_getElem? (i := 6) rfl)), (hw _ (List.mem_of_getElem? (i := 20) rfl))⟩)
  obtain ⟨w_OFFSET_FETCH, ev_OFFSET_FETCH, E_w_OFFSET_FETCH⟩ := own_sta g27
  have S_OFFSET_FETCH := Sta.start ev_OFFSET_FETCH (Or.inr ⟨(hw _ (List.mem_of_getElem? (i := 6) rfl)), (hw _ (List.mem_of_getElem? (i := 22) rfl))⟩)
  obtain ⟨w_LIST_GROUPS, ev_LIST_GROUPS, E_w_LIST_GROUPS⟩ := own_sta g33
  have S_LIST_GROUPS := Sta.start ev_LIST_GROUPS (Or.inr ⟨(hw _ (List.mem_of_getElem? (i := 6) rfl)), (hw _ (List.mem_of_getElem? (i := 24) rfl))⟩)
  obtain ⟨w_JOIN_GROUP, ev_JOIN_GROUP, E_w_JOIN_GROUP⟩ := own_sta g39
  have S_JOIN_GROUP := Sta.start ev_JOIN_GROUP (Or.inr ⟨(hw _ (List.mem_of_getElem? (i := 6) rfl)), (hw _ (List.mem_of_getElem? (i := 26) rfl))⟩)
  obtain ⟨w_HEARTBEAT, ev_HEARTBEAT, E_w_HEARTBEAT⟩ := own_sta g47
  have S_HEARTBEAT := Sta.start ev_HEARTBEAT (Or.inr ⟨(hw _ (List.mem_of_getElem? (i := 6) rfl)), (hw _ (List.mem_of_getElem? (i := 28) rfl))⟩)
  obtain ⟨w_OFFSET_COMMIT, ev_OFFSET_COMMIT, E_w_OFFSET_COMMIT⟩ := own_sta g53
  have S_OFFSET_COMMIT := Sta.start ev_OFFSET_COMMIT (Or.inr ⟨(hw _ (List.mem_of_getElem? (i := 6) rfl)), (hw _ (List.mem_of_getElem? (i := 30) rfl))⟩)
  obtain ⟨w_FIND_COORDINATOR, ev_FIND_COORDINATOR, E_w_FIND_COORDINATOR⟩ := own_sta g59
  have S_FIND_COORDINATOR := Sta.start ev_FIND_COORDINATOR (Or.inr ⟨(hw _ (List.mem_of_getElem? (i := 6) rfl)), (hw _ (List.mem_of_getElem? (i := 32) rfl))⟩)
  obtain ⟨w_LIST_OFFSETS, ev_LIST_OFFSETS, E_w_LIST_OFFSETS⟩ := own_sta g65
  have S_LIST_OFFSETS := Sta.start ev_LIST_OFFSETS (Or.inr ⟨(hw _ (List.mem_of_getElem? (i := 6) rfl)), (hw _ (List.mem_of_getElem? (i := 34) rfl))⟩)
  obtain ⟨w_METADATA, ev_METADATA, E_w_METADATA⟩ := own_sta g71
  have S_METADATA := Sta.start ev_METADATA (Or.inr ⟨(hw _ (List.mem_of_getElem? (i := 6) rfl)), (hw _ (List.mem_of_getElem? (i := 36) rfl))⟩)
  obtain ⟨w_DELETE_GROUPS, ev_DELETE_GROUPS, E_w_DELETE_GROUPS⟩ := own_sta g77
  have S_DELETE_GROUPS := Sta.start ev_DELETE_GROUPS (Or.inr ⟨(hw _ (List.mem_of_getElem? (i := 6) rfl)), (hw _ (List.mem_of_getElem? (i := 38) rfl))⟩)
  obtain ⟨w_SYNC_GROUP, ev_SYNC_GROUP, E_w_SYNC_GROUP⟩ := own_sta g83
  have S_SYNC_GROUP := Sta.start ev_SYNC_GROUP (Or.inr ⟨(hw _ (List.mem_of_getElem? (i := 6) rfl)), (hw _ (List.mem_of_getElem? (i := 40) rfl))⟩)
  have F_w_FETCH_ordinal := own_fldI ev_FETCH g9
  have F_w_API_VERSIONS_ordinal := own_fldI ev_API_VERSIONS g11
  have F_w_FETCH_firstFlexibleVersion := own_fldI ev_FETCH g13
  have F_w_DESCRIBE_GROUPS_ordinal := own_fldI ev_DESCRIBE_GROUPS g17
  have F_w_DESCRIBE_GROUPS_firstFlexibleVersion := own_fldI ev_DESCRIBE_GROUPS g19
  have F_w_LEAVE_GROUP_ordinal := own_fldI ev_LEAVE_GROUP g23
  have F_w_LEAVE_GROUP_firstFlexibleVersion := own_fldI ev_LEAVE_GROUP g25
  have F_w_OFFSET_FETCH_ordinal := own_fldI ev_OFFSET_FETCH g29
  have F_w_OFFSET_FETCH_firstFlexibleVersion := own_fldI ev_OFFSET_FETCH g31
  have F_w_LIST_GROUPS_ordinal := own_fldI ev_LIST_GROUPS g35
  have F_w_LIST_GROUPS_firstFlexibleVersion := own_fldI ev_LIST_GROUPS g37
  have F_w_JOIN_GROUP_ordinal := own_fldI ev_JOIN_GROUP g41
  have F_w_JOIN_GROUP_firstFlexibleVersion := own_fldI ev_JOIN_GROUP g43
  have F_w_API_VERSIONS_firstFlexibleVersion := own_fldI ev_API_VERSIONS g45
  have F_w_HEARTBEAT_ordinal := own_fldI ev_HEARTBEAT g49
  have F_w_HEARTBEAT_firstFlexibleVersion := own_fldI ev_HEARTBEAT g51
  have F_w_OFFSET_COMMIT_ordinal := own_fldI ev_OFFSET_COMMIT g55
  have F_w_OFFSET_COMMIT_firstFlexibleVersion := own_fldI ev_OFFSET_COMMIT g57
  have F_w_FIND_COORDINATOR_ordinal := own_fldI ev_FIND_COORDINATOR g61
  have F_w_FIND_COORDINATOR_firstFlexibleVersion := own_fldI ev_FIND_COORDINATOR g63
  have F_w_LIST_OFFSETS_ordinal := own_fldI ev_LIST_OFFSETS g67
  have F_w_LIST_OFFSETS_firstFlexibleVersion := own_fldI ev_LIST_OFFSETS g69
  have F_w_METADATA_ordinal := own_fldI ev_METADATA g73
  have F_w_METADATA_firstFlexibleVersion := own_fldI ev_METADATA g75
  have F_w_DELETE_GROUPS_ordinal := own_fldI ev_DELETE_GROUPS g79
  have F_w_DELETE_GROUPS_firstFlexibleVersion := own_fldI ev_DELETE_GROUPS g81
  have F_w_SYNC_GROUP_ordinal := own_fldI ev_SYNC_GROUP g85
  have F_w_SYNC_GROUP_firstFlexibleVersion := own_fldI ev_SYNC_GROUP g86
  obtain ⟨n, o, h1, h2, h3, _, L, rfl, ⟨rfl, N⟩, hq⟩ := rm0 l s _ hw tables_1 i0 i1 w_FETCH w_API_VERSIONS w_LIST_OFFSETS w_METADATA w_OFFSET_COMMIT w_OFFSET_FETCH w_FIND_COORDINATOR w_JOIN_GROUP w_HEARTBEAT w_LEAVE_GROUP w_SYNC_GROUP w_DESCRIBE_GROUPS w_LIST_GROUPS w_DELETE_GROUPS s.heap s.heap.size (Nat.le_refl _) S_FETCH S_API_VERSIONS (Fld.ne F_w_API_VERSIONS_ordinal F_w_FETCH_ordinal (by simp)) F_w_FETCH_firstFlexibleVersion E_w_FETCH S_LIST_OFFSETS (Fld.ne F_w_API_VERSIONS_ordinal F_w_LIST_OFFSETS_ordinal (by simp)) F_w_LIST_OFFSETS_firstFlexibleVersion E_w_LIST_OFFSETS S_METADATA (Fld.ne F_w_API_VERSIONS_ordinal F_w_METADATA_ordinal (by simp)) F_w_METADATA_firstFlexibleVersion E_w_METADATA S_OFFSET_COMMIT (Fld.ne F_w_API_VERSIONS_ordinal F_w_OFFSET_COMMIT_ordinal (by simp)) F_w_OFFSET_COMMIT_firstFlexibleVersion E_w_OFFSET_COMMIT S_OFFSET_FETCH (Fld.ne F_w_API_VERSIONS_ordinal F_w_OFFSET_FETCH_ordinal (by simp)) F_w_OFFSET_FETCH_firstFlexibleVersion E_w_OFFSET_FETCH S_FIND_COORDINATOR (Fld.ne F_w_API_VERSIONS_ordinal F_w_FIND_COORDINATOR_ordinal (by simp)) F_w_FIND_COORDINATOR_firstFlexibleVersion E_w_FIND_COORDINATOR S_JOIN_GROUP (Fld.ne F_w_API_VERSIONS_ordinal F_w_JOIN_GROUP_ordinal (by simp)) F_w_JOIN_GROUP_firstFlexibleVersion E_w_JOIN_GROUP S_HEARTBEAT (Fld.ne F_w_API_VERSIONS_ordinal F_w_HEARTBEAT_ordinal (by simp)) F_w_HEARTBEAT_firstFlexibleVersion E_w_HEARTBEAT S_LEAVE_GROUP (Fld.ne F_w_API_VERSIONS_ordinal F_w_LEAVE_GROUP_ordinal (by simp)) F_w_LEAVE_GROUP_firstFlexibleVersion E_w_LEAVE_GROUP S_SYNC_GROUP (Fld.ne F_w_API_VERSIONS_ordinal F_w_SYNC_GROUP_ordinal (by simp)) F_w_SYNC_GROUP_firstFlexibleVersion E_w_SYNC_GROUP S_DESCRIBE_GROUPS (Fld.ne F_w_API_VERSIONS_ordinal F_w_DESCRIBE_GROUPS_ordinal (by simp)) F_w_DESCRIBE_GROUPS_firstFlexibleVersion E_w_DESCRIBE_GROUPS S_LIST_GROUPS (Fld.ne F_w_API_VERSIONS_ordinal F_w_LIST_GROUPS_ordinal (by simp)) F_w_LIST_GROUPS_firstFlexibleVersion E_w_LIST_GROUPS F_w_API_VERSIONS_firstFlexibleVersion E_w_API_VERSIONS S_DELETE_GROUPS (Fld.ne F_w_API_VERSIONS_ordinal F_w_DELETE_GROUPS_ordinal (by simp)) F_w_DELETE_GROUPS_firstFlexibleVersion E_w_DELETE_GROUPS p e ha hc hk s m _ below hf ((Spec.applies_iff_loose hf).mp happ).1 ⟨rfl, State.Warmed39.refl s, rfl⟩ trivial
  refine ⟨n, _, h1, h2, h3, hpost _ _ _ _ _ _ ⟨Cond.after_iff.mpr rfl, Cond.after_iff.mpr (eq_i res_at (Term.int_eval (1)) rfl), trivial⟩ ⟨hq.1, hq.2.1, (hq.2.2.sift fun y hy => Or.inr (N y hy)).mono (by decide) (by decide)⟩⟩
theorem main_1_1 : Claimed_1_1 := comes_1 fun _ _ _ _ _ _ h hF => ⟨h.1, hF⟩
theorem main_1_2 : Claimed_1_2 := comes_1 fun _ _ _ _ _ _ h hF => ⟨h.2.1, hF⟩
end Jvm.Pilot.@@N@@
namespace Jvm.Pilot.@@N@@
open Jvm Jvm.ClassFile Sem Op Lib Jvm.Free Jvm.Stand Jvm.Pilot.@@N@@.Jvm.D
/-! MADE BY PROGRAM (witnessworld.py) out of the Statement's table words and the real class files: 12 classes; the members and pool entries that the words name. The judged class is class 1, her method 2. -/
namespace start1
open Jvm.ClassFile
def u (s : String) : CpInfo := .utf8 (stringToUtf16 s)
/-- a pool by its gaps: so many unusable entries, then the entry; so many at the end -/
def gap : Nat → List CpInfo → List CpInfo
  | 0, r => r
  | n + 1, r => .unusable :: gap n r
def poolList (es : List (Nat × CpInfo)) (last : Nat) : List CpInfo := es.foldr (fun e r => gap e.1 (e.2 :: r)) (gap last [])
def pool (es : List (Nat × CpInfo)) (last : Nat) : Array CpInfo := ⟨poolList es last⟩
def fileOf (pool : Array CpInfo) (this : Nat) (attrs : Array Attribute := #[]) (ms : Array MethodInfo := #[]) (fl : Nat := 33) (sup : Nat := 0) (ifs : Array Nat := #[]) (fds : Array FieldInfo := #[]) : ClassFile where
  minorVersion := 0
  majorVersion := 65
  constantPool := pool
  accessFlags := fl
  thisClass := this
  superClass := sup
  interfaces := ifs
  fields := fds
  methods := ms
  attributes := attrs
def plain (name : String) (sup : Option ClassId) : Class where
  name := name
  kind := .ordinary
  loader := none
  accessFlags := 33
  super := sup
  interfaces := #[]
  cf := none
  fields := #[]
  methods := #[]
  instanceTypes := #[]
  staticTypes := #[]
  resolved := #[]
  callSites := []
  init := .initialized
  statics := none
  mirror := none

def pool0 : Array CpInfo := pool [(5, u "<init>"), (0, u "()V"), (1, .class_ 10), (1, u "java/lang/Object")] 113

def k0m0 : Method := { name := "<init>", desc := "()V", sig := { parameters := [], returnType := none }, accessFlags := 1, code := none }
/-- java/lang/Object -/
def k0 : Class := { plain "java/lang/Object" none with
  accessFlags := 33
  interfaces := #[]
  cf := some (fileOf pool0 8 #[] #[{ accessFlags := 1, nameIndex := 5, descriptorIndex := 6, attributes := #[] }] 33 0 #[] #[])
  fields := #[]
  methods := #[k0m0]
  instanceTypes := #[]
  staticTypes := #[]
  resolved := Array.replicate 124 none
  statics := none }

def pool1 : Array CpInfo := pool [(2, .class_ 4), (1, u "java/lang/Object"), (0, u "<init>"), (0, u "()V"), (0, .fieldref 8 9), (0, .class_ 10), (0, .nameAndType 11 12), (0, u "com/example/liveness/liveness/protocol/Api"), (0, u "FETCH"), (0, u "Lcom/example/liveness/liveness/protocol/Api;"), (0, .fieldref 8 14), (0, .nameAndType 15 12), (0, u "LIST_OFFSETS"), (0, .fieldref 8 17), (0, .nameAndType 18 12), (0, u "METADATA"), (0, .fieldref 8 20), (0, .nameAndType 21 12), (0, u "OFFSET_COMMIT"), (0, .fieldref 8 23), (0, .nameAndType 24 12), (0, u "OFFSET_FETCH"), (0, .fieldref 8 26), (0, .nameAndType 27 12), (0, u "FIND_COORDINATOR"), (0, .fieldref 8 29), (0, .nameAndType 30 12), (0, u "JOIN_GROUP"), (0, .fieldref 8 32), (0, .nameAndType 33 12), (0, u "HEARTBEAT"), (0, .fieldref 8 35), (0, .nameAndType 36 12), (0, u "LEAVE_GROUP"), (0, .fieldref 8 38), (0, .nameAndType 39 12), (0, u "SYNC_GROUP"), (0, .fieldref 8 41), (0, .nameAndType 42 12), (0, u "DESCRIBE_GROUPS"), (0, .fieldref 8 44), (0, .nameAndType 45 12), (0, u "LIST_GROUPS"), (0, .fieldref 8 47), (0, .nameAndType 48 12), (0, u "API_VERSIONS"), (0, .fieldref 8 50), (0, .nameAndType 51 12), (0, u "DELETE_GROUPS"), (0, .integer 2147483647), (0, .methodref 54 55), (0, .class_ 56), (0, .nameAndType 57 58), (0, u "com/example/liveness/liveness/protocol/ApiIsFlexiblePinLaw"), (0, u "pick"), (0, u "(I)Lcom/example/liveness/liveness/protocol/Api;"), (0, .methodref 8 60), (0, .nameAndType 61 62), (0, u "isFlexible"), (0, u "(S)Z"), (3, u "law"), (0, u "(II)Z")] 2

def k1m0 : Method := { name := "<init>", desc := "()V", sig := { parameters := [], returnType := none }, accessFlags := 1, code := none }
def k1c1 : Code := { maxStack := 2, maxLocals := 1, code := method_2_code, exceptionTable := #[], attributes := #[] }
def k1m1 : Method := { name := "pick", desc := "(I)Lcom/example/liveness/liveness/protocol/Api;", sig := { parameters := [.int], returnType := some (.object "com/example/liveness/liveness/protocol/Api") }, accessFlags := 10, code := some k1c1 }
def k1c2 : Code := { maxStack := 2, maxLocals := 5, code := code, exceptionTable := #[], attributes := #[] }
def k1m2 : Method := { name := "law", desc := "(II)Z", sig := { parameters := [.int, .int], returnType := some .boolean }, accessFlags := 9, code := some k1c2 }
/-- com/example/liveness/liveness/protocol/ApiIsFlexiblePinLaw -/
def k1 : Class := { plain "com/example/liveness/liveness/protocol/ApiIsFlexiblePinLaw" (some 0) with
  accessFlags := 49
  interfaces := #[]
  cf := some (fileOf pool1 54 #[] #[{ accessFlags := 1, nameIndex := 5, descriptorIndex := 6, attributes := #[] }, { accessFlags := 10, nameIndex := 57, descriptorIndex := 58, attributes := #[] }, { accessFlags := 9, nameIndex := 66, descriptorIndex := 67, attributes := #[] }] 49 2 #[] #[])
  fields := #[]
  methods := #[k1m0, k1m1, k1m2]
  instanceTypes := #[]
  staticTypes := #[]
  resolved := Array.replicate 70 none
  statics := none }

def pool2 : Array CpInfo := pool [(1, .class_ 2), (0, u "java/lang/constant/Constable"), (0, .class_ 4), (0, u "java/lang/Object")] 6

/-- java/lang/constant/Constable -/
def k2 : Class := { plain "java/lang/constant/Constable" (some 0) with
  accessFlags := 1537
  interfaces := #[]
  cf := some (fileOf pool2 1 #[] #[] 1537 3 #[] #[])
  fields := #[]
  methods := #[]
  instanceTypes := #[]
  staticTypes := #[]
  resolved := Array.replicate 11 none
  statics := none }

def pool3 : Array CpInfo := pool [(1, .class_ 2), (0, u "java/lang/Comparable"), (0, .class_ 4), (0, u "java/lang/Object")] 7

/-- java/lang/Comparable -/
def k3 : Class := { plain "java/lang/Comparable" (some 0) with
  accessFlags := 1537
  interfaces := #[]
  cf := some (fileOf pool3 1 #[] #[] 1537 3 #[] #[])
  fields := #[]
  methods := #[]
  instanceTypes := #[]
  staticTypes := #[]
  resolved := Array.replicate 12 none
  statics := none }

def pool4 : Array CpInfo := pool [(1, .class_ 2), (0, u "java/io/Serializable"), (0, .class_ 4), (0, u "java/lang/Object")] 2

/-- java/io/Serializable -/
def k4 : Class := { plain "java/io/Serializable" (some 0) with
  accessFlags := 1537
  interfaces := #[]
  cf := some (fileOf pool4 1 #[] #[] 1537 3 #[] #[])
  fields := #[]
  methods := #[]
  instanceTypes := #[]
  staticTypes := #[]
  resolved := Array.replicate 7 none
  statics := none }

def pool5 : Array CpInfo := pool [(2, .class_ 4), (1, u "java/lang/Enum"), (0, u "name"), (0, u "Ljava/lang/String;"), (2, u "ordinal"), (0, u "I"), (1, .class_ 14), (1, u "java/lang/Object"), (4, u "hash"), (86, .class_ 108), (1, u "java/lang/Enum$EnumDesc"), (2, .class_ 112), (0, u "java/lang/constant/Constable"), (0, .class_ 114), (0, u "java/lang/Comparable"), (0, .class_ 116), (0, u "java/io/Serializable")] 87

/-- java/lang/Enum -/
def k5 : Class := { plain "java/lang/Enum" (some 0) with
  accessFlags := 1057
  interfaces := #[2, 3, 4]
  cf := some (fileOf pool5 2 #[.nestMembers #[106]] #[] 1057 12 #[111, 113, 115] #[{ accessFlags := 18, nameIndex := 5, descriptorIndex := 6, attributes := #[] }, { accessFlags := 18, nameIndex := 9, descriptorIndex := 10, attributes := #[] }, { accessFlags := 2, nameIndex := 19, descriptorIndex := 10, attributes := #[] }])
  fields := #[{ name := "name", type := (.object "java/lang/String"), accessFlags := 18, slot := 0, constantValue := 0 }, { name := "ordinal", type := .int, accessFlags := 18, slot := 1, constantValue := 0 }, { name := "hash", type := .int, accessFlags := 2, slot := 2, constantValue := 0 }]
  methods := #[]
  instanceTypes := #[(.object "java/lang/String"), .int, .int]
  staticTypes := #[]
  resolved := Array.replicate 204 none
  statics := none }

def pool6 : Array CpInfo := pool [(1, .class_ 2), (0, u "com/example/liveness/liveness/protocol/Api"), (2, u "FETCH"), (0, u "Lcom/example/liveness/liveness/protocol/Api;"), (2, u "LIST_OFFSETS"), (2, u "METADATA"), (2, u "OFFSET_COMMIT"), (2, u "OFFSET_FETCH"), (2, u "FIND_COORDINATOR"), (2, u "JOIN_GROUP"), (2, u "HEARTBEAT"), (2, u "LEAVE_GROUP"), (2, u "SYNC_GROUP"), (2, u "DESCRIBE_GROUPS"), (2, u "LIST_GROUPS"), (2, u "API_VERSIONS"), (2, u "DELETE_GROUPS"), (2, u "$VALUES"), (0, u "[Lcom/example/liveness/liveness/protocol/Api;"), (6, .class_ 58), (1, u "java/lang/Enum"), (14, u "key"), (0, u "S"), (2, u "apiName"), (0, u "Ljava/lang/String;"), (2, u "minVersion"), (2, u "maxVersion"), (0, .fieldref 1 86), (0, .nameAndType 87 88), (0, u "firstFlexibleVersion"), (0, u "I"), (65, u "(S)Z"), (0, u "isFlexible")] 5

def k6c0 : Code := { maxStack := 2, maxLocals := 2, code := prog_19_method_11_code, exceptionTable := #[], attributes := #[] }
def k6m0 : Method := { name := "isFlexible", desc := "(S)Z", sig := { parameters := [.short], returnType := some .boolean }, accessFlags := 0, code := some k6c0 }
/-- com/example/liveness/liveness/protocol/Api -/
def k6 : Class := { plain "com/example/liveness/liveness/protocol/Api" (some 5) with
  accessFlags := 16432
  interfaces := #[]
  cf := some (fileOf pool6 1 #[] #[{ accessFlags := 0, nameIndex := 155, descriptorIndex := 154, attributes := #[] }] 16432 56 #[] #[{ accessFlags := 16409, nameIndex := 5, descriptorIndex := 6, attributes := #[] }, { accessFlags := 16409, nameIndex := 9, descriptorIndex := 6, attributes := #[] }, { accessFlags := 16409, nameIndex := 12, descriptorIndex := 6, attributes := #[] }, { accessFlags := 16409, nameIndex := 15, descriptorIndex := 6, attributes := #[] }, { accessFlags := 16409, nameIndex := 18, descriptorIndex := 6, attributes := #[] }, { accessFlags := 16409, nameIndex := 21, descriptorIndex := 6, attributes := #[] }, { accessFlags := 16409, nameIndex := 24, descriptorIndex := 6, attributes := #[] }, { accessFlags := 16409, nameIndex := 27, descriptorIndex := 6, attributes := #[] }, { accessFlags := 16409, nameIndex := 30, descriptorIndex := 6, attributes := #[] }, { accessFlags := 16409, nameIndex := 33, descriptorIndex := 6, attributes := #[] }, { accessFlags := 16409, nameIndex := 36, descriptorIndex := 6, attributes := #[] }, { accessFlags := 16409, nameIndex := 39, descriptorIndex := 6, attributes := #[] }, { accessFlags := 16409, nameIndex := 42, descriptorIndex := 6, attributes := #[] }, { accessFlags := 16409, nameIndex := 45, descriptorIndex := 6, attributes := #[] }, { accessFlags := 18, nameIndex := 73, descriptorIndex := 74, attributes := #[] }, { accessFlags := 18, nameIndex := 77, descriptorIndex := 78, attributes := #[] }, { accessFlags := 18, nameIndex := 81, descriptorIndex := 74, attributes := #[] }, { accessFlags := 18, nameIndex := 84, descriptorIndex := 74, attributes := #[] }, { accessFlags := 18, nameIndex := 87, descriptorIndex := 88, attributes := #[] }, { accessFlags := 4122, nameIndex := 48, descriptorIndex := 49, attributes := #[] }])
  fields := #[{ name := "FETCH", type := (.object "com/example/liveness/liveness/protocol/Api"), accessFlags := 16409, slot := 0, constantValue := 0 }, { name := "LIST_OFFSETS", type := (.object "com/example/liveness/liveness/protocol/Api"), accessFlags := 16409, slot := 1, constantValue := 0 }, { name := "METADATA", type := (.object "com/example/liveness/liveness/protocol/Api"), accessFlags := 16409, slot := 2, constantValue := 0 }, { name := "OFFSET_COMMIT", type := (.object "com/example/liveness/liveness/protocol/Api"), accessFlags := 16409, slot := 3, constantValue := 0 }, { name := "OFFSET_FETCH", type := (.object "com/example/liveness/liveness/protocol/Api"), accessFlags := 16409, slot := 4, constantValue := 0 }, { name := "FIND_COORDINATOR", type := (.object "com/example/liveness/liveness/protocol/Api"), accessFlags := 16409, slot := 5, constantValue := 0 }, { name := "JOIN_GROUP", type := (.object "com/example/liveness/liveness/protocol/Api"), accessFlags := 16409, slot := 6, constantValue := 0 }, { name := "HEARTBEAT", type := (.object "com/example/liveness/liveness/protocol/Api"), accessFlags := 16409, slot := 7, constantValue := 0 }, { name := "LEAVE_GROUP", type := (.object "com/example/liveness/liveness/protocol/Api"), accessFlags := 16409, slot := 8, constantValue := 0 }, { name := "SYNC_GROUP", type := (.object "com/example/liveness/liveness/protocol/Api"), accessFlags := 16409, slot := 9, constantValue := 0 }, { name := "DESCRIBE_GROUPS", type := (.object "com/example/liveness/liveness/protocol/Api"), accessFlags := 16409, slot := 10, constantValue := 0 }, { name := "LIST_GROUPS", type := (.object "com/example/liveness/liveness/protocol/Api"), accessFlags := 16409, slot := 11, constantValue := 0 }, { name := "API_VERSIONS", type := (.object "com/example/liveness/liveness/protocol/Api"), accessFlags := 16409, slot := 12, constantValue := 0 }, { name := "DELETE_GROUPS", type := (.object "com/example/liveness/liveness/protocol/Api"), accessFlags := 16409, slot := 13, constantValue := 0 }, { name := "key", type := .short, accessFlags := 18, slot := 3, constantValue := 0 }, { name := "apiName", type := (.object "java/lang/String"), accessFlags := 18, slot := 4, constantValue := 0 }, { name := "minVersion", type := .short, accessFlags := 18, slot := 5, constantValue := 0 }, { name := "maxVersion", type := .short, accessFlags := 18, slot := 6, constantValue := 0 }, { name := "firstFlexibleVersion", type := .int, accessFlags := 18, slot := 7, constantValue := 0 }, { name := "$VALUES", type := (.array (.object "com/example/liveness/liveness/protocol/Api")), accessFlags := 4122, slot := 14, constantValue := 0 }]
  methods := #[k6m0]
  instanceTypes := #[(.object "java/lang/String"), .int, .int, .short, (.object "java/lang/String"), .short, .short, .int]
  staticTypes := #[(.object "com/example/liveness/liveness/protocol/Api"), (.object "com/example/liveness/liveness/protocol/Api"), (.object "com/example/liveness/liveness/protocol/Api"), (.object "com/example/liveness/liveness/protocol/Api"), (.object "com/example/liveness/liveness/protocol/Api"), (.object "com/example/liveness/liveness/protocol/Api"), (.object "com/example/liveness/liveness/protocol/Api"), (.object "com/example/liveness/liveness/protocol/Api"), (.object "com/example/liveness/liveness/protocol/Api"), (.object "com/example/liveness/liveness/protocol/Api"), (.object "com/example/liveness/liveness/protocol/Api"), (.object "com/example/liveness/liveness/protocol/Api"), (.object "com/example/liveness/liveness/protocol/Api"), (.object "com/example/liveness/liveness/protocol/Api"), (.array (.object "com/example/liveness/liveness/protocol/Api"))]
  resolved := Array.replicate 161 none
  statics := some 0 }

def pool7 : Array CpInfo := pool [(1, u "java/lang/Cloneable"), (0, .class_ 1), (0, u "java/lang/Object"), (0, .class_ 3)] 3

/-- java/lang/Cloneable -/
def k7 : Class := { plain "java/lang/Cloneable" (some 0) with
  accessFlags := 1537
  interfaces := #[]
  cf := some (fileOf pool7 2 #[] #[] 1537 4 #[] #[])
  fields := #[]
  methods := #[]
  instanceTypes := #[]
  staticTypes := #[]
  resolved := Array.replicate 8 none
  statics := none }

/-- the primitive byte -/
def k8 : Class := { plain "byte" none with kind := .primitive 'B', accessFlags := 0x411 }
/-- [B -/
def k9 : Class := { plain "[B" (some 0) with kind := .array 8 .byte, interfaces := #[7, 4], accessFlags := 1041 }

/-- the primitive int -/
def k10 : Class := { plain "int" none with kind := .primitive 'I', accessFlags := 0x411 }
/-- [I -/
def k11 : Class := { plain "[I" (some 0) with kind := .array 10 .int, interfaces := #[7, 4], accessFlags := 1041 }

def heap : Heap := #[{ cls := 6, slots := #[.ref 1, .ref 11, .ref 12, .ref 9, .ref 5, .ref 10, .ref 7, .ref 8, .ref 4, .ref 14, .ref 3, .ref 6, .ref 2, .ref 13, .null], vm := .statics 6 },
  { cls := 6, slots := #[.null, .int 0, .int 0, .int 0, .null, .int 0, .int 0, .int 2147483647], vm := .none },
  { cls := 6, slots := #[.null, .int 12, .int 0, .int 0, .null, .int 0, .int 0, .int 3], vm := .none },
  { cls := 6, slots := #[.null, .int 10, .int 0, .int 0, .null, .int 0, .int 0, .int 2147483647], vm := .none },
  { cls := 6, slots := #[.null, .int 8, .int 0, .int 0, .null, .int 0, .int 0, .int 2147483647], vm := .none },
  { cls := 6, slots := #[.null, .int 4, .int 0, .int 0, .null, .int 0, .int 0, .int 2147483647], vm := .none },
  { cls := 6, slots := #[.null, .int 11, .int 0, .int 0, .null, .int 0, .int 0, .int 2147483647], vm := .none },
  { cls := 6, slots := #[.null, .int 6, .int 0, .int 0, .null, .int 0, .int 0, .int 2147483647], vm := .none },
  { cls := 6, slots := #[.null, .int 7, .int 0, .int 0, .null, .int 0, .int 0, .int 2147483647], vm := .none },
  { cls := 6, slots := #[.null, .int 3, .int 0, .int 0, .null, .int 0, .int 0, .int 2147483647], vm := .none },
  { cls := 6, slots := #[.null, .int 5, .int 0, .int 0, .null, .int 0, .int 0, .int 2147483647], vm := .none },
  { cls := 6, slots := #[.null, .int 1, .int 0, .int 0, .null, .int 0, .int 0, .int 2147483647], vm := .none },
  { cls := 6, slots := #[.null, .int 2, .int 0, .int 0, .null, .int 0, .int 0, .int 2147483647], vm := .none },
  { cls := 6, slots := #[.null, .int 13, .int 0, .int 0, .null, .int 0, .int 0, .int 2147483647], vm := .none },
  { cls := 6, slots := #[.null, .int 9, .int 0, .int 0, .null, .int 0, .int 0, .int 2147483647], vm := .none }]
def classes : Array Class := #[k0, k1, k2, k3, k4, k5, k6, k7, k8, k9, k10, k11]
def interned : List (Array UInt16 × Addr) := []
def slotsUsed : Nat := 127
def theMethod : MethodId := ⟨1, 2⟩
def args0 : Array Value := #[.int 5, .int 1]
def aboutOver (below : List Frame) : State where
  vm := { classes := classes, interned := interned.toArray }
  heap := heap
  slotsUsed := slotsUsed
  threads := #[{ frames := .invoking theMethod args0 :: below }]
def below0 : List Frame := [.native { method := ⟨0, 0⟩, args := #[] }]
def about1 : State := aboutOver below0
def p0 : Program := .bare "" "" ""
def e0 : Env := launch0.env 0 0 0
theorem w_frames : about1.frames = Frame.invoking theMethod args0 :: below0 := rfl
set_option maxRecDepth 65536 in
theorem w_args : argsFit about1.vm theMethod args0 = true := by decide +kernel
set_option maxRecDepth 65536 in
theorem w_heap : heapFits about1 = true := by decide +kernel
set_option maxRecDepth 65536 in
theorem w_runnable : about1.curStatus? = some .runnable := by decide +kernel
set_option maxRecDepth 65536 in
theorem w_alone : about1.alone = true := by decide +kernel
set_option maxRecDepth 65536 in
theorem w_named : about1.methodNamed? x = some theMethod := by decide +kernel
set_option maxRecDepth 65536 in
theorem w_hears : about1.hears theMethod below0 = true := by decide +kernel
set_option maxRecDepth 65536 in
theorem w_ripe : about1.ripe theMethod args0 below0 = true := by decide +kernel
theorem w_running : about1.status = .running := rfl
set_option maxRecDepth 65536 in
theorem w_room : about1.hasRoom e0.platform room_1 = true :=
  launch0.hasRoom_least _ room_1 (by decide +kernel) (by decide +kernel) (by decide +kernel) (by decide +kernel) (by decide +kernel) (by decide +kernel)
theorem allAtoms_all (ts : List Jvm.Cond) (a : Array Jvm.Value) (st : Jvm.State) : (allAtoms ts).before a st = ts.all (fun c => c.before a st) := by
  induction ts with
  | nil => rfl
  | cons c t ih =>
    show (Jvm.Cond.and c (allAtoms t)).before a st = _
    rw [Jvm.Cond.before_and, ih, List.all_cons]
def words1 : List Jvm.Cond := Jvm.Cond.code x code maxLocals ret :: tables_1
/-- a 'code' word, met by the world's own term for the bytes: nothing is compared byte by byte -/
theorem code_word {y : MethodName} {bytes : ByteArray} {mx : Nat} {rt : Option FieldType} {a : Array Value} {s : State} {m : MethodId} {meth : Method} {c : Code} (h1 : s.methodNamed? y = some m) (h2 : s.vm.method? m = some meth) (h3 : meth.code = some c) (h4 : c.code = bytes)
    (h5 : (c.maxLocals == mx && c.exceptionTable.isEmpty && decide (c.maxStack ≤ mostOperands) && decide (meth.sig.returnType = rt) && !meth.locks && decide (parseMethodDescriptor y.desc = some meth.sig)) = true) : (Jvm.Cond.code y bytes mx rt).before a s = true := by
  simp only [Bool.and_eq_true, beq_iff_eq, Bool.not_eq_true', decide_eq_true_eq] at h5
  obtain ⟨⟨⟨⟨⟨g1, g2⟩, g3⟩, g4⟩, g5⟩, g6⟩ := h5
  simp [Cond.before, Cond.holds, Cond.value, h1, h2, h3, h4, g1, g2, g3, g4, g5, g6]
def isCode : Jvm.Cond → Bool
  | .code _ _ _ _ => true
  | _ => false
theorem all_split {L : List Jvm.Cond} {P : Jvm.Cond → Bool} (h1 : L.all (fun c => isCode c || P c) = true) (h2 : ∀ c ∈ L.filter isCode, P c = true) : L.all P = true := by
  refine List.all_eq_true.mpr fun c hc => ?_
  have h := List.all_eq_true.mp h1 c hc
  rcases Bool.eq_false_or_eq_true (isCode c) with hi | hi
  · exact h2 c (List.mem_filter.mpr ⟨hc, hi⟩)
  · simpa [hi] using h
set_option maxRecDepth 65536 in
theorem w_c0 : (Jvm.Cond.code x code maxLocals ret).before args0 about1 = true := code_word (m := ⟨1, 2⟩) (meth := k1m2) (c := k1c2) (by decide +kernel) rfl rfl rfl (by decide +kernel)
set_option maxRecDepth 65536 in
theorem w_c1 : (Jvm.Cond.code ({ cls := "com/example/liveness/liveness/protocol/ApiIsFlexiblePinLaw", name := "pick", desc := "(I)Lcom/example/liveness/liveness/protocol/Api;" } : Jvm.MethodName) method_2_code (1 : Nat) (Option.some (Jvm.ClassFile.FieldType.object "com/example/liveness/liveness/protocol/Api"))).before args0 about1 = true := code_word (m := ⟨1, 1⟩) (meth := k1m1) (c := k1c1) (by decide +kernel) rfl rfl rfl (by decide +kernel)
set_option maxRecDepth 65536 in
theorem w_c2 : (Jvm.Cond.code ({ cls := "com/example/liveness/liveness/protocol/Api", name := "isFlexible", desc := "(S)Z" } : Jvm.MethodName) prog_19_method_11_code (2 : Nat) (Option.some Jvm.ClassFile.FieldType.boolean)).before args0 about1 = true := code_word (m := ⟨6, 0⟩) (meth := k6m0) (c := k6c0) (by decide +kernel) rfl rfl rfl (by decide +kernel)
def codes1 : List Jvm.Cond := [Jvm.Cond.code x code maxLocals ret, Jvm.Cond.code ({ cls := "com/example/liveness/liveness/protocol/ApiIsFlexiblePinLaw", name := "pick", desc := "(I)Lcom/example/liveness/liveness/protocol/Api;" } : Jvm.MethodName) method_2_code (1 : Nat) (Option.some (Jvm.ClassFile.FieldType.object "com/example/liveness/liveness/protocol/Api")), Jvm.Cond.code ({ cls := "com/example/liveness/liveness/protocol/Api", name := "isFlexible", desc := "(S)Z" } : Jvm.MethodName) prog_19_method_11_code (2 : Nat) (Option.some Jvm.ClassFile.FieldType.boolean)]
set_option maxRecDepth 65536 in
theorem codes_eq : words1.filter isCode = codes1 := rfl
theorem w_codes : ∀ c ∈ words1.filter isCode, c.before args0 about1 = true := by
  rw [codes_eq]
  intro c hc
  simp only [codes1, List.mem_cons, List.not_mem_nil, or_false] at hc
  rcases hc with rfl | rfl | rfl
  · exact w_c0
  · exact w_c1
  · exact w_c2
set_option maxRecDepth 65536 in
theorem w_t1 : (words1.take 24).all (fun c => isCode c || c.before args0 about1) = true := by decide +kernel
set_option maxRecDepth 65536 in
theorem w_t2 : (words1.drop 24).all (fun c => isCode c || c.before args0 about1) = true := by decide +kernel
theorem w_tables : (allAtoms (Jvm.Cond.code x code maxLocals ret :: tables_1)).before args0 about1 = true := by
  rw [allAtoms_all]
  show words1.all (fun c => c.before args0 about1) = true
  refine all_split ?_ w_codes
  rw [← List.take_append_drop 24 words1, List.all_append, w_t1, w_t2]
  rfl
set_option maxRecDepth 65536 in
theorem w_case : (Jvm.Cond.and given_1 narrow_1).before args0 about1 = true := by decide +kernel
theorem w_applies : (headSpec (Jvm.Cond.code x code maxLocals ret :: tables_1) room_1).applies x e0.platform about1 = true :=
  (Spec.applies_iff w_frames).mpr ⟨w_running, w_runnable, w_alone, w_named, w_hears, w_ripe, w_room, w_tables⟩
theorem atStart : AtStart classFile x code maxLocals ret World_1 tables_1 room_1 Calls_1 rest_1 Pre_1 launch0 p0 e0 about1 theMethod args0 below0 :=
  ⟨lists_1, trivial, launch0.admits_env _ _ _, launch0.least_env, fairChoices_fair.cas, fairChoices_fair.clock, w_frames, w_args, w_heap, w_applies, trivial, trivial, w_case⟩
end start1
theorem witness_1 : WitnessClaimed_1 := ⟨start1.p0, start1.e0, start1.about1, start1.theMethod, start1.args0, start1.below0, start1.atStart⟩
end Jvm.Pilot.@@N@@
