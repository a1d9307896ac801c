import JvmDerived
import JvmDerived.Pilot.@@N@@Statement
import JvmDerived.Pilot.@@N@@Code
set_option linter.unusedVariables false
set_option linter.unusedSimpArgs false
namespace Jvm.RoadKit
open Sem ClassFile Op Lib Jvm.Stand Jvm.Free Jvm.LawKit
section New
variable {p : Program} {l : Launch} {e : Env} {R : Room} {s : State} {m : MethodId} {args : Array Value} {below : List Frame} {meth : Method} {c : Code} {T : State} {locs : List Loc} {cells slots : Nat}
theorem retI (X : Stand p l e R s m args below meth c T locs cells slots) (hx : p.tables.exec = Jvm.exec) {pc : Nat} {Ls : Array Slot} {z : Int32} {rest : List Value} (hret : meth.sig.returnType = some .int) (hd : decode c.code pc = .ok (.ireturn, 1)) {fs : List Frame}
    (hl : ∀ (f : JFrame) (acts : List Action), f.method = m → f.locked = none → f.entered = [] → (doReturn e (T.setTop f) acts (some (.int z))).1 = T.setFrames fs) : Steps p.tables e below (T.setTop (mkF m pc Ls (.int z :: rest))) (T.setFrames fs) := by
  have hm' : T.vm.method? m = some meth := X.method'
  have hn : narrow .int (.int z) = .int z := rfl
  show Steps p.tables e below (T.setTop { method := m, pc := pc, locals := Ls, stack := _ :: rest, locked := none }) _
  jvm_step X.here [X.here.top, hx, hd, hm', hret, hn]
  first | (intro acts; rw [hl _ acts rfl rfl rfl]) | rw [hl _ _ rfl rfl rfl]
  exact Steps.refl _
end New
end Jvm.RoadKit
namespace Jvm.Pilot.@@N@@
open Jvm Jvm.ClassFile Sem Op Lib Jvm.Free Jvm.Stand Jvm.LawKit Jvm.RoadKit Bundle Jvm.Pilot.@@N@@.Jvm.D
/-- the run from U comes to an end of which P holds -/
def Go (p : Program) (e : Env) (below : List Frame) (P : Outcome → State → Prop) (U : State) : Prop := ∃ s₂ o, Steps p.tables e below U s₂ ∧ s₂.status = .running ∧ Ended s₂ below o ∧ P o s₂
theorem Go.mk {p : Program} {e : Env} {below : List Frame} {P : Outcome → State → Prop} {U : State} (s₂ : State) (o : Outcome) (h1 : Steps p.tables e below U s₂) (h2 : s₂.status = .running) (h3 : Ended s₂ below o) (h4 : P o s₂) : Go p e below P U := ⟨s₂, o, h1, h2, h3, h4⟩
theorem Go.of {p : Program} {e : Env} {below : List Frame} {P : Outcome → State → Prop} {U V : State} (st : ∀ t, Steps p.tables e below V t → Steps p.tables e below U t) (h : Go p e below P V) : Go p e below P U := by
  obtain ⟨s₂, o, h1, h⟩ := h
  exact ⟨s₂, o, st _ h1, h⟩
theorem Go.tr {p : Program} {e : Env} {below : List Frame} {P : Outcome → State → Prop} {U V : State} (st : Steps p.tables e below U V) (h : Go p e below P V) : Go p e below P U := by
  obtain ⟨s₂, o, h1, h⟩ := h
  exact ⟨s₂, o, st.trans h1, h⟩
theorem own_sta {args : Array Value} {s : State} {C n d K : String} (h : (Jvm.Cond.exactly (Term.static C n d) K).value args s none s [] = some true) : ∃ a, (Term.static C n d).eval args s none [] s = some (.ref a) ∧ Exa s s.heap a K := by
  obtain ⟨a, ev⟩ := exa_v h
  exact ⟨a, ev, Exa.start ev h⟩
theorem own_fldI {args : Array Value} {s : State} {t : Term} {a : Addr} {C n d : String} {k : Int32} (ev : t.eval args s none [] s = some (.ref a)) (h : (Jvm.Cond.eq (.field t C n d) (.int k)).value args s none s [] = some true) : Fld s s.heap a C n d (.int k) := by
  obtain ⟨x, y, h1, h2, k1, -⟩ := cmp_v (Or.inl h)
  cases h2
  obtain ⟨z, rfl⟩ : ∃ z, x = .int z := by cases x <;> simp [Kin, Value.isRef] at k1 ⊢
  have e : z = k := gotT (Cond.eq_ints h1 rfl) h
  subst e
  rw [fld_at ev] at h1
  exact Fld.start h1
theorem own_fldR {args : Array Value} {s : State} {t t2 : Term} {a b : Addr} {C n d : String} (ev : t.eval args s none [] s = some (.ref a)) (ev2 : t2.eval args s none [] s = some (.ref b)) (h : (Jvm.Cond.eq (.field t C n d) t2).value args s none s [] = some true) : Fld s s.heap a C n d (.ref b) := by
  obtain ⟨x, y, h1, h2, k1, k2⟩ := cmp_v (Or.inl h)
  cases ev2.symm.trans h2
  have e : x = .ref b := by
    have q := gotT (eq_R h1 h2 (by cases x <;> simp [Kin, Value.isRef] at k1 ⊢) rfl) h
    exact q
  subst e
  rw [fld_at ev] at h1
  exact Fld.start h1
theorem own_Sta_keep {Z : State} {h h' : Heap} {C n d : String} {v : Value} {ws : List Addr} (F : Sta Z h C n d v) (K : Keep h h' ws) (q : ∀ x ∈ ws, ∀ cell : Cell, h[x]? = some cell → cell.vm.isStatics = false) : Sta Z h' C n d v := by
  obtain ⟨cf, i, k, f, st, cell, h1, h2, h3, h4, h5, h6, h7⟩ := F
  exact ⟨cf, i, k, f, st, cell, h1, h2, h3, h4, K.2.1 _ _ h5 (fun z => by have := q st z cell h5; rw [h6] at this; cases this), h6, h7⟩
theorem own_Ins_keep {Z : State} {h h' : Heap} {C : String} {a : Addr} {b : Bool} {ws : List Addr} (F : Ins Z h a C b) (K : Keep h h' ws) : Ins Z h' a C b := by
  obtain ⟨cell, cT, h1, h2, h3⟩ := F
  obtain ⟨c', q1, q2, q3, -⟩ := K.2.2 _ _ h1
  exact ⟨c', cT, q1, h2, by rw [q2, q3]; exact h3⟩
theorem own_p0 {h : Heap} : ∀ x ∈ ([] : List Addr), ∀ cell : Cell, h[x]? = some cell → cell.vm.isStatics = false := fun _ q => nomatch q
theorem own_pS {h : Heap} {y : Addr} {L : List Addr} (q : ∀ cell : Cell, h[y]? = some cell → cell.vm.isStatics = false) (r : ∀ x ∈ L, ∀ cell : Cell, h[x]? = some cell → cell.vm.isStatics = false) : ∀ x ∈ y :: L, ∀ cell : Cell, h[x]? = some cell → cell.vm.isStatics = false := fun x z => (List.mem_cons.mp z).elim (fun u => u ▸ q) (r x)
theorem own_plainE {Z : State} {h : Heap} {a : Addr} {C : String} (F : Exa Z h a C) : ∀ cell : Cell, h[a]? = some cell → cell.vm.isStatics = false := fun cell hc => by
  obtain ⟨c', k, h1, -, -, h4, -⟩ := F
  cases hc.symm.trans h1
  exact h4
theorem own_plainF {Z : State} {h : Heap} {a : Addr} {C n d : String} {v : Value} (F : Fld Z h a C n d v) : ∀ cell : Cell, h[a]? = some cell → cell.vm.isStatics = false := old_plain F
theorem own_plainV {Z : State} {h : Heap} {a : Addr} {k : ClassId} {ty : FieldType} {z : Int32} {vs : List Value} {dv : Value} (F : Arv Z h a k ty z vs dv) : ∀ cell : Cell, h[a]? = some cell → cell.vm.isStatics = false := fun cell hc => by
  obtain ⟨c', A, -⟩ := F
  cases hc.symm.trans A.1
  exact A.plain
theorem own_selpriv {args : Array Value} {s : State} {C : String} {y : MethodName} (h : (Jvm.Cond.selects C y y).before args s = true) (hp : s.PrivateAt y) (hi : (Jvm.Cond.instanceMethod y).before args s = true) (hy : y.cls ≠ "java/lang/invoke/MethodHandle" ∧ y.cls ≠ "java/lang/invoke/VarHandle") : (Jvm.Cond.selects y.cls y y).before args s = true := by
  obtain ⟨c, r, m, -, -, q3, -, k, q4, q5⟩ := Cond.selects_spec h
  exact selects_self_of_private (findClass_of_methodNamed q3) q4 q5 hp hi hy
theorem own_same {args : Array Value} {s : State} {C : String} {x y z : MethodName} (h : (Jvm.Cond.selects C x z).before args s = true) (hc : z.cls = y.cls) (hi : (Jvm.Cond.instanceMethod y).before args s = true) (hy : y.cls ≠ "java/lang/invoke/MethodHandle" ∧ y.cls ≠ "java/lang/invoke/VarHandle") : (Jvm.Cond.sameMethod y.cls y.cls y.name y.desc).before args s = true := by
  obtain ⟨c, r, m, -, -, q3, -, k, q4, q5⟩ := Cond.selects_spec h
  obtain ⟨mk, methM, hnamed, -, -, -⟩ := Cond.instanceMethod_spec hi
  have hfound : s.methodFound? y.cls y.name y.desc = some mk := State.methodFound?_of_named hnamed hy
  have e1 := findClass_of_methodNamed hnamed
  have e2 := findClass_of_methodNamed q3
  rw [hc] at e2
  have e3 : m.cls = mk.cls := Option.some.inj (e2.symm.trans e1)
  rw [e3] at q4
  have hn' : s.methodNamed? ⟨y.cls, y.name, y.desc⟩ = some mk := hnamed
  simp [Cond.before, Cond.holds, Cond.value, e1, hfound, hn', q4, q5]
theorem own_nf {args : Array Value} {s : State} {C : String} {x y z : MethodName} (h : (Jvm.Cond.selects C x z).before args s = true) (hc : z.cls = y.cls) : NotFace s y := fun r0 h0 => by
  obtain ⟨c, r, m, -, -, q3, -, k, q4, q5⟩ := Cond.selects_spec h
  have e1 := findClass_of_methodNamed h0
  have e2 := findClass_of_methodNamed q3
  rw [hc] at e2
  have e3 : m.cls = r0.cls := Option.some.inj (e2.symm.trans e1)
  rw [e3] at q4
  exact ⟨k, q4, q5⟩
theorem d6_0 : decode jdk_68_method_2_code 0 = .ok (.aload_n 0, 1) := by decide +kernel
theorem d6_1 : decode jdk_68_method_2_code 1 = .ok (.invokespecial 3, 3) := by decide +kernel
theorem d6_4 : decode jdk_68_method_2_code 4 = .ok (.getstatic 18, 3) := by decide +kernel
theorem d6_7 : decode jdk_68_method_2_code 7 = .ok (.ifCond .eq 18, 3) := by decide +kernel
theorem d6_10 : decode jdk_68_method_2_code 10 = .ok (.aload_n 0, 1) := by decide +kernel
theorem d6_11 : decode jdk_68_method_2_code 11 = .ok (.iload_n 1, 1) := by decide +kernel
theorem d6_12 : decode jdk_68_method_2_code 12 = .ok (.newarray .byte, 2) := by decide +kernel
theorem d6_14 : decode jdk_68_method_2_code 14 = .ok (.putfield 15, 3) := by decide +kernel
theorem d6_17 : decode jdk_68_method_2_code 17 = .ok (.aload_n 0, 1) := by decide +kernel
theorem d6_18 : decode jdk_68_method_2_code 18 = .ok (.iconst 0, 1) := by decide +kernel
theorem d6_19 : decode jdk_68_method_2_code 19 = .ok (.putfield 22, 3) := by decide +kernel
theorem d6_22 : decode jdk_68_method_2_code 22 = .ok (.goto 16, 3) := by decide +kernel
theorem d6_38 : decode jdk_68_method_2_code 38 = .ok (.return_, 1) := by decide +kernel
theorem pn_java_lang_AbstractStringBuilder : plainName "java/lang/AbstractStringBuilder" = true := by first | (simp [plainName, overriddenIn]; done) | decide +kernel
theorem ef_6l1_16 (m : MethodId) (x0 : Addr) : entryFrame m #[(.ref x0), (.int (16 : Int32))] 2 = mkF m 0 #[.val (.ref x0), .val (.int (16 : Int32))] [] := by first | (simp [entryFrame, mkF, argsToLocals, Value.category]; done) | rfl
def Q6 (Z : State) (o0 : Addr) (u_o0_count : Value) (w_COMPACT_STRINGS : Int32) (u_o0_value : Value) (u_o0_coder : Value) (h0 : Heap) (n0 : Nat) (v : Option Value) (h : Heap) (L : List Loc) : Prop := ∃ r0 : Addr, ∃ rk1 : ClassId, v = none ∧ Fr n0 L ∧ Keep h0 h [o0] ∧ Exa Z h o0 "java/lang/StringBuilder" ∧ Fld Z h o0 "java/lang/AbstractStringBuilder" "coder" "B" (.int (0 : Int32)) ∧ Fld Z h o0 "java/lang/AbstractStringBuilder" "count" "I" u_o0_count ∧ Fld Z h o0 "java/lang/AbstractStringBuilder" "value" "[B" (.ref r0) ∧ (h0.size ≤ r0 ∧ n0 ≤ r0) ∧ Arv Z h r0 rk1 .byte (16 : Int32) [(.int (0 : Int32)), (.int (0 : Int32)), (.int (0 : Int32)), (.int (0 : Int32)), (.int (0 : Int32)), (.int (0 : Int32)), (.int (0 : Int32)), (.int (0 : Int32)), (.int (0 : Int32)), (.int (0 : Int32)), (.int (0 : Int32)), (.int (0 : Int32)), (.int (0 : Int32)), (.int (0 : Int32)), (.int (0 : Int32)), (.int (0 : Int32))] (.int (0 : Int32))
set_option maxRecDepth 65536 in
set_option maxHeartbeats 40000000 in
theorem rm6 (l : Launch) (Z : State) (a0 : Array Value) (hw : ∀ d ∈ tables_1, d.before a0 Z = true) (ws : List Jvm.Cond) (o0 : Addr) (u_o0_count : Value) (w_COMPACT_STRINGS : Int32) (u_o0_value : Value) (u_o0_coder : Value) (h0 : Heap) (n0 : Nat) (Z0 : n0 ≤ h0.size) (F_o0_count : Fld Z h0 o0 "java/lang/AbstractStringBuilder" "count" "I" u_o0_count) (S_COMPACT_STRINGS : Sta Z h0 "java/lang/String" "COMPACT_STRINGS" "Z" (.int w_COMPACT_STRINGS)) (hc7 : ¬ (w_COMPACT_STRINGS = (0 : Int32))) (E_o0 : Exa Z h0 o0 "java/lang/StringBuilder") (F_o0_value : Fld Z h0 o0 "java/lang/AbstractStringBuilder" "value" "[B" u_o0_value) (g_o0 : n0 ≤ o0) (F_o0_coder : Fld Z h0 o0 "java/lang/AbstractStringBuilder" "coder" "B" u_o0_coder) :
    MetFree l (⟨"java/lang/AbstractStringBuilder", "<init>", "(I)V"⟩ : MethodName) (head1 (Jvm.Cond.code (⟨"java/lang/AbstractStringBuilder", "<init>", "(I)V"⟩ : MethodName) jdk_68_method_2_code 2 none :: ws) ({ frames := 1, cells := 1, slots := 16, locals := 12 } : Room)) (fun a U => a = #[(.ref o0), (.int (16 : Int32))] ∧ Z.Warmed39 U.vm ∧ U.heap = h0) (fun _ _ _ _ _ => True) (fun _ U o U' => ∃ v L, o = .returned v ∧ Q6 Z o0 u_o0_count w_COMPACT_STRINGS u_o0_value u_o0_coder h0 n0 v U'.heap L ∧ FrameEnd U o U' L ({ frames := 1, cells := 1, slots := 16, locals := 12 } : Room).cells ({ frames := 1, cells := 1, slots := 16, locals := 12 } : Room).slots) := by
  refine MetFree.of_bodySF (plainFor_of_name pn_java_lang_AbstractStringBuilder) hisR ?_
  intro p e s m args below meth c s₁ Bd hml0 hP hK
  obtain ⟨rfl, hZ, hh⟩ := hP
  have hx := Bd.exec
  have hby := Bd.bytes
  have hml : c.maxLocals = 2 := hml0
  have hown : s.vm.findClass "java/lang/AbstractStringBuilder" = some m.cls := findClass_of_methodNamed Bd.named
  have hnm := (name_of_methodNamed Bd.named Bd.method).1
  have X0 : Stand p l e ({ frames := 1, cells := 1, slots := 16, locals := 12 } : Room) s m #[(.ref o0), (.int (16 : Int32))] below meth c s₁ [] 0 0 := Stand.of_body Bd
  have e0 : s₁.heap = h0 := by rw [← hh, Bd.state]; rfl
  have N0 := Fr.nil n0
  show Go p e below (fun o U' => ∃ v L, o = .returned v ∧ Q6 Z o0 u_o0_count w_COMPACT_STRINGS u_o0_value u_o0_coder h0 n0 v U'.heap L ∧ FrameEnd s o U' L ({ frames := 1, cells := 1, slots := 16, locals := 12 } : Room).cells ({ frames := 1, cells := 1, slots := 16, locals := 12 } : Room).slots) (s₁.setTop (entryFrame m #[(.ref o0), (.int (16 : Int32))] 2))
  refine Go.of (fun _ k => castTop (ef_6l1_16 m o0) k) ?_
  show Go p e below _ (s₁.setTop (mkF m 0 #[.val (.ref o0), .val (.int (16 : Int32))] []))
  refine Go.of (fun _ k => XS.aloadN X0.here hx rfl (hb hby d6_0) rfl rfl k) ?_
  show Go p e below _ (s₁.setTop (mkF m 1 #[.val (.ref o0), .val (.int (16 : Int32))] [(.ref o0)]))
  obtain ⟨T1, X1, e1, st1⟩ := initO X0 hx hZ hown (hw _ (List.mem_of_getElem? (i := 36) rfl)) (hw _ (List.mem_of_getElem? (i := 13) rfl)) (hw _ (List.mem_of_getElem? (i := 14) rfl)) e0 (g := (mkF m 1 #[.val (.ref o0), .val (.int (16 : Int32))] [(.ref o0)])) rfl (by rw [hml]; rfl) rfl (hb hby d6_1) (by decide) (W := 0) (by show 2 * 0 + _ ≤ _; exact Nat.le_of_eq rfl) (by decide)
  refine Go.of st1 ?_
  show Go p e below _ (T1.setTop (mkF m 4 #[.val (.ref o0), .val (.int (16 : Int32))] []))
  obtain ⟨T2, X2, e2, st2⟩ := getS2 X1 hx hZ hown (host := "") (Or.inl (hw _ (List.mem_of_getElem? (i := 37) rfl))) Via.refl e1 S_COMPACT_STRINGS (g := (mkF m 4 #[.val (.ref o0), .val (.int (16 : Int32))] [])) rfl (hb hby d6_4)
  refine Go.of st2 ?_
  show Go p e below _ (T2.setTop (mkF m 7 #[.val (.ref o0), .val (.int (16 : Int32))] [(.int w_COMPACT_STRINGS)]))
  refine Go.of (fun _ k => XS.ifNo X2.here hx rfl (hb hby d6_7) rfl ((if0 _ _).trans (feq hc7).1) k) ?_
  show Go p e below _ (T2.setTop (mkF m 10 #[.val (.ref o0), .val (.int (16 : Int32))] []))
  refine Go.of (fun _ k => XS.aloadN X2.here hx rfl (hb hby d6_10) rfl rfl k) ?_
  show Go p e below _ (T2.setTop (mkF m 11 #[.val (.ref o0), .val (.int (16 : Int32))] [(.ref o0)]))
  refine Go.of (fun _ k => XS.iloadN X2.here hx rfl (hb hby d6_11) rfl  k) ?_
  show Go p e below _ (T2.setTop (mkF m 12 #[.val (.ref o0), .val (.int (16 : Int32))] [(.int (16 : Int32)), (.ref o0)]))
  obtain ⟨T3, h3, k3, X3, e3, E3, A3, st3⟩ := newP X2 hx hZ (hw _ (List.mem_of_getElem? (i := 39) rfl)) e2 (g := (mkF m 12 #[.val (.ref o0), .val (.int (16 : Int32))] [(.int (16 : Int32)), (.ref o0)])) rfl (hb hby d6_12) rfl (by decide) (cap := 16) (by decide) (by decide) (by decide) (by decide)
  obtain ⟨ob3, g3⟩ : ∃ z, z = h0.size := ⟨_, rfl⟩
  rw [← g3] at A3 st3
  refine Go.of st3 ?_
  have g_ob3 : n0 ≤ ob3 := Nat.le_trans Z0 (Nat.le_of_eq g3.symm)
  have sz_ob3 : h0.size ≤ ob3 := Nat.le_trans ((Keep.refl h0 [o0])).1 (Nat.le_of_eq g3.symm)
  have K3 : Keep h0 h3 [o0] := ((Keep.refl h0 [o0])).ext E3
  have Z3 : n0 ≤ h3.size := Nat.le_trans Z0 E3.1
  have V3 : Arv Z h3 ob3 k3 .byte (16 : Int32) [(.int (0 : Int32)), (.int (0 : Int32)), (.int (0 : Int32)), (.int (0 : Int32)), (.int (0 : Int32)), (.int (0 : Int32)), (.int (0 : Int32)), (.int (0 : Int32)), (.int (0 : Int32)), (.int (0 : Int32)), (.int (0 : Int32)), (.int (0 : Int32)), (.int (0 : Int32)), (.int (0 : Int32)), (.int (0 : Int32)), (.int (0 : Int32))] (.int (0 : Int32)) := (Arv.new A3 (by decide)).pad (pad_rep [] (.int (0 : Int32)) 16)
  show Go p e below _ (T3.setTop (mkF m 14 #[.val (.ref o0), .val (.int (16 : Int32))] [(.ref ob3), (.ref o0)]))
  have c4 : Fld Z h3 o0 "java/lang/AbstractStringBuilder" "value" "[B" u_o0_value := (Fld.ext E3 F_o0_value)
  have c5 : Exa Z h3 o0 "java/lang/StringBuilder" := (Exa.ext E3 E_o0)
  obtain ⟨T6, h6, X6, e6, W6, st6⟩ := putF X3 hx hZ hown (host := "") (Or.inl (hw _ (List.mem_of_getElem? (i := 40) rfl))) Via.refl e3 c4 c5 (Or.inl (hw _ (List.mem_of_getElem? (i := 41) rfl))) (hw _ (List.mem_of_getElem? (i := 25) rfl)) (ty := (.array .byte)) (by decide) rfl rfl (g := (mkF m 14 #[.val (.ref o0), .val (.int (16 : Int32))] [(.ref ob3), (.ref o0)])) rfl rfl (hb hby d6_14)
  refine Go.of st6 ?_
  have N6 := Fr.snoc X6 N0 g_o0
  have K6 : Keep h0 h6 [o0] := (K3).wr W6 (Or.inl (List.mem_of_getElem? (i := 0) rfl))
  have Z6 : n0 ≤ h6.size := Nat.le_trans Z3 (Keep.of_wr W6).1
  have f7 : Fld Z h6 o0 "java/lang/AbstractStringBuilder" "value" "[B" (.ref ob3) := Fld.same W6 c4
  show Go p e below _ (T6.setTop (mkF m 17 #[.val (.ref o0), .val (.int (16 : Int32))] []))
  refine Go.of (fun _ k => XS.aloadN X6.here hx rfl (hb hby d6_17) rfl rfl k) ?_
  show Go p e below _ (T6.setTop (mkF m 18 #[.val (.ref o0), .val (.int (16 : Int32))] [(.ref o0)]))
  refine Go.of (fun _ k => XS.iconst X6.here hx rfl (hb hby d6_18) k) ?_
  show Go p e below _ (T6.setTop (mkF m 19 #[.val (.ref o0), .val (.int (16 : Int32))] [(.int (0 : Int32)), (.ref o0)]))
  have c8 : Fld Z h3 o0 "java/lang/AbstractStringBuilder" "coder" "B" u_o0_coder := (Fld.ext E3 F_o0_coder)
  have c9 : Fld Z h6 o0 "java/lang/AbstractStringBuilder" "coder" "B" u_o0_coder := (Fld.other W6 c8 (Or.inr (slot_ne (Or.inl (hw _ (List.mem_of_getElem? (i := 43) rfl))) (Or.inl (hw _ (List.mem_of_getElem? (i := 41) rfl))) (by decide) (t := .byte) (t' := (.array .byte)) (by decide) (by decide))))
  have c10 : Exa Z h6 o0 "java/lang/StringBuilder" := (Exa.wr W6 c5)
  obtain ⟨T11, h11, X11, e11, W11, st11⟩ := putFN X6 hx hZ hown (hw _ (List.mem_of_getElem? (i := 42) rfl)) Via.refl e6 c9 c10 (Or.inl (hw _ (List.mem_of_getElem? (i := 43) rfl))) (hw _ (List.mem_of_getElem? (i := 25) rfl)) (ty := .byte) (v' := .int (0 : Int32)) (by decide) rfl rfl (g := (mkF m 19 #[.val (.ref o0), .val (.int (16 : Int32))] [(.int (0 : Int32)), (.ref o0)])) rfl rfl (hb hby d6_19)
  refine Go.of st11 ?_
  have N11 := Fr.snoc X11 N6 g_o0
  have K11 : Keep h0 h11 [o0] := (K6).wr W11 (Or.inl (List.mem_of_getElem? (i := 0) rfl))
  have Z11 : n0 ≤ h11.size := Nat.le_trans Z6 (Keep.of_wr W11).1
  have f12 : Fld Z h11 o0 "java/lang/AbstractStringBuilder" "coder" "B" (.int (0 : Int32)) := Fld.same W11 c9
  show Go p e below _ (T11.setTop (mkF m 22 #[.val (.ref o0), .val (.int (16 : Int32))] []))
  refine Go.of (fun _ k => XS.goto X11.here hx rfl (pc0 := 22) (pc' := 38) rfl (hb hby d6_22) (by decide) (by decide) k) ?_
  show Go p e below _ (T11.setTop (mkF m 38 #[.val (.ref o0), .val (.int (16 : Int32))] []))
  have c14 : Exa Z h11 o0 "java/lang/StringBuilder" := (Exa.wr W11 c10)
  have c15 : Fld Z h3 o0 "java/lang/AbstractStringBuilder" "count" "I" u_o0_count := (Fld.ext E3 F_o0_count)
  have c16 : Fld Z h6 o0 "java/lang/AbstractStringBuilder" "count" "I" u_o0_count := (Fld.other W6 c15 (Or.inr (slot_ne (Or.inl (hw _ (List.mem_of_getElem? (i := 55) rfl))) (Or.inl (hw _ (List.mem_of_getElem? (i := 41) rfl))) (by decide) (t := .int) (t' := (.array .byte)) (by decide) (by decide))))
  have c17 : Fld Z h11 o0 "java/lang/AbstractStringBuilder" "count" "I" u_o0_count := (Fld.other W11 c16 (Or.inr (slot_ne (Or.inl (hw _ (List.mem_of_getElem? (i := 55) rfl))) (Or.inl (hw _ (List.mem_of_getElem? (i := 43) rfl))) (by decide) (t := .int) (t' := .byte) (by decide) (by decide))))
  have c18 : Fld Z h11 o0 "java/lang/AbstractStringBuilder" "value" "[B" (.ref ob3) := (Fld.other W11 f7 (Or.inr (slot_ne (Or.inl (hw _ (List.mem_of_getElem? (i := 41) rfl))) (Or.inl (hw _ (List.mem_of_getElem? (i := 43) rfl))) (by decide) (t := (.array .byte)) (t' := .byte) (by decide) (by decide))))
  have c19 : Arv Z h6 ob3 k3 .byte (16 : Int32) [(.int (0 : Int32)), (.int (0 : Int32)), (.int (0 : Int32)), (.int (0 : Int32)), (.int (0 : Int32)), (.int (0 : Int32)), (.int (0 : Int32)), (.int (0 : Int32)), (.int (0 : Int32)), (.int (0 : Int32)), (.int (0 : Int32)), (.int (0 : Int32)), (.int (0 : Int32)), (.int (0 : Int32)), (.int (0 : Int32)), (.int (0 : Int32))] (.int (0 : Int32)) := (V3.other W6 (Ne.symm (Nat.ne_of_lt (Nat.lt_of_lt_of_le E_o0.lt (Nat.le_of_eq g3.symm)))))
  have c20 : Arv Z h11 ob3 k3 .byte (16 : Int32) [(.int (0 : Int32)), (.int (0 : Int32)), (.int (0 : Int32)), (.int (0 : Int32)), (.int (0 : Int32)), (.int (0 : Int32)), (.int (0 : Int32)), (.int (0 : Int32)), (.int (0 : Int32)), (.int (0 : Int32)), (.int (0 : Int32)), (.int (0 : Int32)), (.int (0 : Int32)), (.int (0 : Int32)), (.int (0 : Int32)), (.int (0 : Int32))] (.int (0 : Int32)) := (c19.other W11 (Ne.symm (Nat.ne_of_lt (Nat.lt_of_lt_of_le E_o0.lt (Nat.le_of_eq g3.symm)))))
  obtain ⟨fs, hr, hrun, hended, hW, hsame⟩ := X11.leave (v := none) (fun _ => rfl)
  refine Go.mk _ _ ?_ hrun hended ⟨_, _, rfl, ?_, ⟨_, rfl⟩, hW, hsame.mono (by decide) (by decide)⟩
  · exact X11.returnOut hx Bd.returns (hb hby d6_38) hr
  · show Q6 Z o0 u_o0_count w_COMPACT_STRINGS u_o0_value u_o0_coder h0 n0 _ T11.heap _
    rw [e11]
    exact ⟨ob3, k3, rfl, N11, K11, c14, f12, c17, c18, ⟨sz_ob3, g_ob3⟩, c20⟩
theorem d5_0 : decode jdk_67_method_1_code 0 = .ok (.aload_n 0, 1) := by decide +kernel
theorem d5_1 : decode jdk_67_method_1_code 1 = .ok (.bipush 16, 2) := by decide +kernel
theorem d5_3 : decode jdk_67_method_1_code 3 = .ok (.invokespecial 1, 3) := by decide +kernel
theorem pd_0 : parseMethodDescriptor "(I)V" = some ⟨[.int], none⟩ := by decide +kernel
theorem d5_6 : decode jdk_67_method_1_code 6 = .ok (.return_, 1) := by decide +kernel
theorem pn_java_lang_StringBuilder : plainName "java/lang/StringBuilder" = true := by first | (simp [plainName, overriddenIn]; done) | decide +kernel
theorem ef_5 (m : MethodId) (x0 : Addr) : entryFrame m #[(.ref x0)] 1 = mkF m 0 #[.val (.ref x0)] [] := by first | (simp [entryFrame, mkF, argsToLocals, Value.category]; done) | rfl
def Q5 (Z : State) (o0 : Addr) (u_o0_count : Value) (w_COMPACT_STRINGS : Int32) (u_o0_value : Value) (u_o0_coder : Value) (h0 : Heap) (n0 : Nat) (v : Option Value) (h : Heap) (L : List Loc) : Prop := ∃ r0 : Addr, ∃ rk1 : ClassId, v = none ∧ Fr n0 L ∧ Keep h0 h [o0] ∧ Exa Z h o0 "java/lang/StringBuilder" ∧ Fld Z h o0 "java/lang/AbstractStringBuilder" "coder" "B" (.int (0 : Int32)) ∧ Fld Z h o0 "java/lang/AbstractStringBuilder" "count" "I" u_o0_count ∧ Fld Z h o0 "java/lang/AbstractStringBuilder" "value" "[B" (.ref r0) ∧ (h0.size ≤ r0 ∧ n0 ≤ r0) ∧ Arv Z h r0 rk1 .byte (16 : Int32) [(.int (0 : Int32)), (.int (0 : Int32)), (.int (0 : Int32)), (.int (0 : Int32)), (.int (0 : Int32)), (.int (0 : Int32)), (.int (0 : Int32)), (.int (0 : Int32)), (.int (0 : Int32)), (.int (0 : Int32)), (.int (0 : Int32)), (.int (0 : Int32)), (.int (0 : Int32)), (.int (0 : Int32)), (.int (0 : Int32)), (.int (0 : Int32))] (.int (0 : Int32))
set_option maxRecDepth 65536 in
set_option maxHeartbeats 40000000 in
theorem rm5 (l : Launch) (Z : State) (a0 : Array Value) (hw : ∀ d ∈ tables_1, d.before a0 Z = true) (ws : List Jvm.Cond) (o0 : Addr) (u_o0_count : Value) (w_COMPACT_STRINGS : Int32) (u_o0_value : Value) (u_o0_coder : Value) (h0 : Heap) (n0 : Nat) (Z0 : n0 ≤ h0.size) (F_o0_count : Fld Z h0 o0 "java/lang/AbstractStringBuilder" "count" "I" u_o0_count) (S_COMPACT_STRINGS : Sta Z h0 "java/lang/String" "COMPACT_STRINGS" "Z" (.int w_COMPACT_STRINGS)) (hc7_1 : ¬ (w_COMPACT_STRINGS = (0 : Int32))) (E_o0 : Exa Z h0 o0 "java/lang/StringBuilder") (F_o0_value : Fld Z h0 o0 "java/lang/AbstractStringBuilder" "value" "[B" u_o0_value) (g_o0 : n0 ≤ o0) (F_o0_coder : Fld Z h0 o0 "java/lang/AbstractStringBuilder" "coder" "B" u_o0_coder) :
    MetFree l (⟨"java/lang/StringBuilder", "<init>", "()V"⟩ : MethodName) (head1 (Jvm.Cond.code (⟨"java/lang/StringBuilder", "<init>", "()V"⟩ : MethodName) jdk_67_method_1_code 1 none :: ws) ({ frames := 2, cells := 1, slots := 16, locals := 25 } : Room)) (fun a U => a = #[(.ref o0)] ∧ Z.Warmed39 U.vm ∧ U.heap = h0) (fun _ _ _ _ _ => True) (fun _ U o U' => ∃ v L, o = .returned v ∧ Q5 Z o0 u_o0_count w_COMPACT_STRINGS u_o0_value u_o0_coder h0 n0 v U'.heap L ∧ FrameEnd U o U' L ({ frames := 2, cells := 1, slots := 16, locals := 25 } : Room).cells ({ frames := 2, cells := 1, slots := 16, locals := 25 } : Room).slots) := by
  refine MetFree.of_bodySF (plainFor_of_name pn_java_lang_StringBuilder) hisR ?_
  intro p e s m args below meth c s₁ Bd hml0 hP hK
  obtain ⟨rfl, hZ, hh⟩ := hP
  have hx := Bd.exec
  have hby := Bd.bytes
  have hml : c.maxLocals = 1 := hml0
  have hown : s.vm.findClass "java/lang/StringBuilder" = some m.cls := findClass_of_methodNamed Bd.named
  have hnm := (name_of_methodNamed Bd.named Bd.method).1
  have X0 : Stand p l e ({ frames := 2, cells := 1, slots := 16, locals := 25 } : Room) s m #[(.ref o0)] below meth c s₁ [] 0 0 := Stand.of_body Bd
  have e0 : s₁.heap = h0 := by rw [← hh, Bd.state]; rfl
  have N0 := Fr.nil n0
  show Go p e below (fun o U' => ∃ v L, o = .returned v ∧ Q5 Z o0 u_o0_count w_COMPACT_STRINGS u_o0_value u_o0_coder h0 n0 v U'.heap L ∧ FrameEnd s o U' L ({ frames := 2, cells := 1, slots := 16, locals := 25 } : Room).cells ({ frames := 2, cells := 1, slots := 16, locals := 25 } : Room).slots) (s₁.setTop (entryFrame m #[(.ref o0)] 1))
  refine Go.of (fun _ k => castTop (ef_5 m o0) k) ?_
  show Go p e below _ (s₁.setTop (mkF m 0 #[.val (.ref o0)] []))
  refine Go.of (fun _ k => XS.aloadN X0.here hx rfl (hb hby d5_0) rfl rfl k) ?_
  show Go p e below _ (s₁.setTop (mkF m 1 #[.val (.ref o0)] [(.ref o0)]))
  refine Go.of (fun _ k => XS.bipush X0.here hx rfl (hb hby d5_1) k) ?_
  show Go p e below _ (s₁.setTop (mkF m 3 #[.val (.ref o0)] [(.int (16 : Int32)), (.ref o0)]))
  obtain ⟨_, _, ⟨T1, L1, k1, n1⟩, -, X1, ⟨Lc1, hQ1, l1, y1, z1⟩, st1⟩ := X0.specialBack hx (y := (⟨"java/lang/AbstractStringBuilder", "<init>", "(I)V"⟩ : MethodName)) rfl hown (mvT hZ (hw _ (List.mem_of_getElem? (i := 30) rfl))) (mvT hZ (hw _ (List.mem_of_getElem? (i := 31) rfl))) (mvT hZ (hw _ (List.mem_of_getElem? (i := 35) rfl))) (by decide) (backOf (W := 0) (rm6 l Z a0 hw [] o0 u_o0_count w_COMPACT_STRINGS u_o0_value u_o0_coder h0 n0 Z0 F_o0_count S_COMPACT_STRINGS hc7_1 E_o0 F_o0_value g_o0 F_o0_coder) hZ (hw _ (List.mem_of_getElem? (i := 35) rfl)) (hw _ (List.mem_of_getElem? (i := 34) rfl)) (by decide) (by decide)) (g := (mkF m 3 #[.val (.ref o0)] [(.int (16 : Int32)), (.ref o0)])) rfl (by rw [hml]; rfl) (Steps.refl _) (a := o0) (argsL := [(.int (16 : Int32))]) (rest := []) (lenOf pd_0 rfl) rfl (by show 2 * 0 + _ ≤ _; exact Nat.le_of_eq rfl) (hb hby d5_3) (fun _ _ => ⟨rfl, e0, (by decide : 0 + 1 ≤ _), (by decide : 0 + 16 ≤ _)⟩)
  dsimp only [Pt.U, Pt.locs, Pt.cells, Pt.slots] at X1 l1 y1 z1 st1 hQ1
  subst l1 y1 z1
  obtain ⟨r0_1, rk1_1, rfl, Nq1, q1_0, q1_1, q1_2, q1_3, q1_4, q1_5, q1_6⟩ := hQ1
  have N1 := Fr.app N0 Nq1
  refine Go.tr st1 ?_
  have K1 : Keep h0 T1.heap [o0] := ((Keep.refl h0 [o0])).trans q1_0 (allS (Or.inl (List.mem_of_getElem? (i := 0) rfl)) all0)
  have Z1 : n0 ≤ T1.heap.size := Nat.le_trans Z0 q1_0.1
  have g_r0_1 : n0 ≤ r0_1 := q1_5.2
  have sz_r0_1 : h0.size ≤ r0_1 := Nat.le_trans ((Keep.refl h0 [o0])).1 q1_5.1
  show Go p e below _ (T1.setTop (mkF m 6 #[.val (.ref o0)] []))
  obtain ⟨fs, hr, hrun, hended, hW, hsame⟩ := X1.leave (v := none) (fun _ => rfl)
  refine Go.mk _ _ ?_ hrun hended ⟨_, _, rfl, ?_, ⟨_, rfl⟩, hW, hsame.mono (by decide) (by decide)⟩
  · exact X1.returnOut hx Bd.returns (hb hby d5_6) hr
  · show Q5 Z o0 u_o0_count w_COMPACT_STRINGS u_o0_value u_o0_coder h0 n0 _ T1.heap _
    exact ⟨r0_1, rk1_1, rfl, N1, K1, q1_1, q1_2, q1_3, q1_4, ⟨sz_r0_1, g_r0_1⟩, q1_6⟩
theorem d11_0 : decode jdk_68_method_68_code 0 = .ok (.getstatic 18, 3) := by decide +kernel
theorem d11_3 : decode jdk_68_method_68_code 3 = .ok (.ifCond .eq 14, 3) := by decide +kernel
theorem d11_6 : decode jdk_68_method_68_code 6 = .ok (.aload_n 0, 1) := by decide +kernel
theorem d11_7 : decode jdk_68_method_68_code 7 = .ok (.getfield 22, 3) := by decide +kernel
theorem d11_10 : decode jdk_68_method_68_code 10 = .ok (.ifCond .ne 7, 3) := by decide +kernel
theorem d11_13 : decode jdk_68_method_68_code 13 = .ok (.iconst 1, 1) := by decide +kernel
theorem d11_14 : decode jdk_68_method_68_code 14 = .ok (.goto 4, 3) := by decide +kernel
theorem d11_18 : decode jdk_68_method_68_code 18 = .ok (.ireturn, 1) := by decide +kernel
theorem ef_11 (m : MethodId) (x0 : Addr) : entryFrame m #[(.ref x0)] 1 = mkF m 0 #[.val (.ref x0)] [] := by first | (simp [entryFrame, mkF, argsToLocals, Value.category]; done) | rfl
def Q11 (Z : State) (o0 : Addr) (w_COMPACT_STRINGS : Int32) (h0 : Heap) (n0 : Nat) (v : Option Value) (h : Heap) (L : List Loc) : Prop := v = some (.int (1 : Int32)) ∧ Fr n0 L ∧ h = h0
set_option maxRecDepth 65536 in
set_option maxHeartbeats 40000000 in
theorem rm11 (l : Launch) (Z : State) (a0 : Array Value) (hw : ∀ d ∈ tables_1, d.before a0 Z = true) (ws : List Jvm.Cond) (o0 : Addr) (w_COMPACT_STRINGS : Int32) (h0 : Heap) (n0 : Nat) (Z0 : n0 ≤ h0.size) (S_COMPACT_STRINGS : Sta Z h0 "java/lang/String" "COMPACT_STRINGS" "Z" (.int w_COMPACT_STRINGS)) (hc3 : ¬ (w_COMPACT_STRINGS = (0 : Int32))) (F_o0_coder : Fld Z h0 o0 "java/lang/AbstractStringBuilder" "coder" "B" (.int (0 : Int32))) :
    MetFree l (⟨"java/lang/AbstractStringBuilder", "isLatin1", "()Z"⟩ : MethodName) (head1 (Jvm.Cond.code (⟨"java/lang/AbstractStringBuilder", "isLatin1", "()Z"⟩ : MethodName) jdk_68_method_68_code 1 (some .boolean) :: ws) ({ frames := 0, cells := 0, slots := 0, locals := 0 } : Room)) (fun a U => a = #[(.ref o0)] ∧ Z.Warmed39 U.vm ∧ U.heap = h0) (fun _ _ _ _ _ => True) (fun _ U o U' => ∃ v L, o = .returned v ∧ Q11 Z o0 w_COMPACT_STRINGS h0 n0 v U'.heap L ∧ FrameEnd U o U' L ({ frames := 0, cells := 0, slots := 0, locals := 0 } : Room).cells ({ frames := 0, cells := 0, slots := 0, locals := 0 } : Room).slots) := by
  refine MetFree.of_bodySF (plainFor_of_name pn_java_lang_AbstractStringBuilder) hisR ?_
  intro p e s m args below meth c s₁ Bd hml0 hP hK
  obtain ⟨rfl, hZ, hh⟩ := hP
  have hx := Bd.exec
  have hby := Bd.bytes
  have hml : c.maxLocals = 1 := hml0
  have hown : s.vm.findClass "java/lang/AbstractStringBuilder" = some m.cls := findClass_of_methodNamed Bd.named
  have hnm := (name_of_methodNamed Bd.named Bd.method).1
  have X0 : Stand p l e ({ frames := 0, cells := 0, slots := 0, locals := 0 } : Room) s m #[(.ref o0)] below meth c s₁ [] 0 0 := Stand.of_body Bd
  have e0 : s₁.heap = h0 := by rw [← hh, Bd.state]; rfl
  have N0 := Fr.nil n0
  show Go p e below (fun o U' => ∃ v L, o = .returned v ∧ Q11 Z o0 w_COMPACT_STRINGS h0 n0 v U'.heap L ∧ FrameEnd s o U' L ({ frames := 0, cells := 0, slots := 0, locals := 0 } : Room).cells ({ frames := 0, cells := 0, slots := 0, locals := 0 } : Room).slots) (s₁.setTop (entryFrame m #[(.ref o0)] 1))
  refine Go.of (fun _ k => castTop (ef_11 m o0) k) ?_
  show Go p e below _ (s₁.setTop (mkF m 0 #[.val (.ref o0)] []))
  obtain ⟨T1, X1, e1, st1⟩ := getS2 X0 hx hZ hown (host := "") (Or.inl (hw _ (List.mem_of_getElem? (i := 37) rfl))) Via.refl e0 S_COMPACT_STRINGS (g := (mkF m 0 #[.val (.ref o0)] [])) rfl (hb hby d11_0)
  refine Go.of st1 ?_
  show Go p e below _ (T1.setTop (mkF m 3 #[.val (.ref o0)] [(.int w_COMPACT_STRINGS)]))
  refine Go.of (fun _ k => XS.ifNo X1.here hx rfl (hb hby d11_3) rfl ((if0 _ _).trans (feq hc3).1) k) ?_
  show Go p e below _ (T1.setTop (mkF m 6 #[.val (.ref o0)] []))
  refine Go.of (fun _ k => XS.aloadN X1.here hx rfl (hb hby d11_6) rfl rfl k) ?_
  show Go p e below _ (T1.setTop (mkF m 7 #[.val (.ref o0)] [(.ref o0)]))
  obtain ⟨T2, X2, e2, st2⟩ := getF X1 hx hZ hown (host := "") (Or.inl (hw _ (List.mem_of_getElem? (i := 42) rfl))) Via.refl e1 F_o0_coder (g := (mkF m 7 #[.val (.ref o0)] [(.ref o0)])) rfl rfl (hb hby d11_7)
  refine Go.of st2 ?_
  show Go p e below _ (T2.setTop (mkF m 10 #[.val (.ref o0)] [(.int (0 : Int32))]))
  refine Go.of (fun _ k => XS.ifNo X2.here hx rfl (hb hby d11_10) rfl ((if0 _ _).trans (teq (by decide : (0 : Int32) = (0 : Int32))).2) k) ?_
  show Go p e below _ (T2.setTop (mkF m 13 #[.val (.ref o0)] []))
  refine Go.of (fun _ k => XS.iconst X2.here hx rfl (hb hby d11_13) k) ?_
  show Go p e below _ (T2.setTop (mkF m 14 #[.val (.ref o0)] [(.int (1 : Int32))]))
  refine Go.of (fun _ k => XS.goto X2.here hx rfl (pc0 := 14) (pc' := 18) rfl (hb hby d11_14) (by decide) (by decide) k) ?_
  show Go p e below _ (T2.setTop (mkF m 18 #[.val (.ref o0)] [(.int (1 : Int32))]))
  obtain ⟨fs, hr, hrun, hended, hW, hsame⟩ := X2.leave (v := some (.int (1 : Int32))) (fun h => by rw [Bd.returns] at h; cases h)
  refine Go.mk _ _ ?_ hrun hended ⟨_, _, rfl, ?_, ⟨_, rfl⟩, hW, hsame.mono (by decide) (by decide)⟩
  · exact retN X2 hx (t := .boolean) Bd.returns (by simp) (hb hby d11_18) hr
  · show Q11 Z o0 w_COMPACT_STRINGS h0 n0 _ T2.heap _
    rw [e2]
    exact ⟨rfl, N0, rfl⟩
theorem d16_0 : decode jdk_42_method_152_code 0 = .ok (.getstatic 38, 3) := by decide +kernel
theorem d16_3 : decode jdk_42_method_152_code 3 = .ok (.ifCond .eq 10, 3) := by decide +kernel
theorem d16_6 : decode jdk_42_method_152_code 6 = .ok (.aload_n 0, 1) := by decide +kernel
theorem d16_7 : decode jdk_42_method_152_code 7 = .ok (.getfield 15, 3) := by decide +kernel
theorem d16_10 : decode jdk_42_method_152_code 10 = .ok (.goto 4, 3) := by decide +kernel
theorem d16_14 : decode jdk_42_method_152_code 14 = .ok (.ireturn, 1) := by decide +kernel
theorem pn_java_lang_String : plainName "java/lang/String" = true := by first | (simp [plainName, overriddenIn]; done) | decide +kernel
theorem ef_16 (m : MethodId) (x0 : Addr) : entryFrame m #[(.ref x0)] 1 = mkF m 0 #[.val (.ref x0)] [] := by first | (simp [entryFrame, mkF, argsToLocals, Value.category]; done) | rfl
def Q16 (Z : State) (o0 : Addr) (w_COMPACT_STRINGS : Int32) (h0 : Heap) (n0 : Nat) (v : Option Value) (h : Heap) (L : List Loc) : Prop := v = some (.int (0 : Int32)) ∧ Fr n0 L ∧ h = h0
set_option maxRecDepth 65536 in
set_option maxHeartbeats 40000000 in
theorem rm16 (l : Launch) (Z : State) (a0 : Array Value) (hw : ∀ d ∈ tables_1, d.before a0 Z = true) (ws : List Jvm.Cond) (o0 : Addr) (w_COMPACT_STRINGS : Int32) (h0 : Heap) (n0 : Nat) (Z0 : n0 ≤ h0.size) (S_COMPACT_STRINGS : Sta Z h0 "java/lang/String" "COMPACT_STRINGS" "Z" (.int w_COMPACT_STRINGS)) (hc3 : ¬ (w_COMPACT_STRINGS = (0 : Int32))) (F_o0_coder : Fld Z h0 o0 "java/lang/String" "coder" "B" (.int (0 : Int32))) :
    MetFree l (⟨"java/lang/String", "coder", "()B"⟩ : MethodName) (head1 (Jvm.Cond.code (⟨"java/lang/String", "coder", "()B"⟩ : MethodName) jdk_42_method_152_code 1 (some .byte) :: ws) ({ frames := 0, cells := 0, slots := 0, locals := 0 } : Room)) (fun a U => a = #[(.ref o0)] ∧ Z.Warmed39 U.vm ∧ U.heap = h0) (fun _ _ _ _ _ => True) (fun _ U o U' => ∃ v L, o = .returned v ∧ Q16 Z o0 w_COMPACT_STRINGS h0 n0 v U'.heap L ∧ FrameEnd U o U' L ({ frames := 0, cells := 0, slots := 0, locals := 0 } : Room).cells ({ frames := 0, cells := 0, slots := 0, locals := 0 } : Room).slots) := by
  refine MetFree.of_bodySF (plainFor_of_name pn_java_lang_String) hisR ?_
  intro p e s m args below meth c s₁ Bd hml0 hP hK
  obtain ⟨rfl, hZ, hh⟩ := hP
  have hx := Bd.exec
  have hby := Bd.bytes
  have hml : c.maxLocals = 1 := hml0
  have hown : s.vm.findClass "java/lang/String" = some m.cls := findClass_of_methodNamed Bd.named
  have hnm := (name_of_methodNamed Bd.named Bd.method).1
  have X0 : Stand p l e ({ frames := 0, cells := 0, slots := 0, locals := 0 } : Room) s m #[(.ref o0)] below meth c s₁ [] 0 0 := Stand.of_body Bd
  have e0 : s₁.heap = h0 := by rw [← hh, Bd.state]; rfl
  have N0 := Fr.nil n0
  show Go p e below (fun o U' => ∃ v L, o = .returned v ∧ Q16 Z o0 w_COMPACT_STRINGS h0 n0 v U'.heap L ∧ FrameEnd s o U' L ({ frames := 0, cells := 0, slots := 0, locals := 0 } : Room).cells ({ frames := 0, cells := 0, slots := 0, locals := 0 } : Room).slots) (s₁.setTop (entryFrame m #[(.ref o0)] 1))
  refine Go.of (fun _ k => castTop (ef_16 m o0) k) ?_
  show Go p e below _ (s₁.setTop (mkF m 0 #[.val (.ref o0)] []))
  obtain ⟨T1, X1, e1, st1⟩ := getS2 X0 hx hZ hown (host := "") (Or.inl (hw _ (List.mem_of_getElem? (i := 100) rfl))) Via.refl e0 S_COMPACT_STRINGS (g := (mkF m 0 #[.val (.ref o0)] [])) rfl (hb hby d16_0)
  refine Go.of st1 ?_
  show Go p e below _ (T1.setTop (mkF m 3 #[.val (.ref o0)] [(.int w_COMPACT_STRINGS)]))
  refine Go.of (fun _ k => XS.ifNo X1.here hx rfl (hb hby d16_3) rfl ((if0 _ _).trans (feq hc3).1) k) ?_
  show Go p e below _ (T1.setTop (mkF m 6 #[.val (.ref o0)] []))
  refine Go.of (fun _ k => XS.aloadN X1.here hx rfl (hb hby d16_6) rfl rfl k) ?_
  show Go p e below _ (T1.setTop (mkF m 7 #[.val (.ref o0)] [(.ref o0)]))
  obtain ⟨T2, X2, e2, st2⟩ := getF X1 hx hZ hown (host := "") (Or.inl (hw _ (List.mem_of_getElem? (i := 101) rfl))) Via.refl e1 F_o0_coder (g := (mkF m 7 #[.val (.ref o0)] [(.ref o0)])) rfl rfl (hb hby d16_7)
  refine Go.of st2 ?_
  show Go p e below _ (T2.setTop (mkF m 10 #[.val (.ref o0)] [(.int (0 : Int32))]))
  refine Go.of (fun _ k => XS.goto X2.here hx rfl (pc0 := 10) (pc' := 14) rfl (hb hby d16_10) (by decide) (by decide) k) ?_
  show Go p e below _ (T2.setTop (mkF m 14 #[.val (.ref o0)] [(.int (0 : Int32))]))
  obtain ⟨fs, hr, hrun, hended, hW, hsame⟩ := X2.leave (v := some (.int (0 : Int32))) (fun h => by rw [Bd.returns] at h; cases h)
  refine Go.mk _ _ ?_ hrun hended ⟨_, _, rfl, ?_, ⟨_, rfl⟩, hW, hsame.mono (by decide) (by decide)⟩
  · exact retN X2 hx (t := .byte) Bd.returns (by simp) (hb hby d16_14) hr
  · show Q16 Z o0 w_COMPACT_STRINGS h0 n0 _ T2.heap _
    rw [e2]
    exact ⟨rfl, N0, rfl⟩
theorem d9_0 : decode jdk_33_method_13_code 0 = .ok (.iconst 1, 1) := by decide +kernel
theorem d9_1 : decode jdk_33_method_13_code 1 = .ok (.istore_n 1, 1) := by decide +kernel
theorem d9_2 : decode jdk_33_method_13_code 2 = .ok (.iload_n 0, 1) := by decide +kernel
theorem d9_3 : decode jdk_33_method_13_code 3 = .ok (.ifCond .lt 8, 3) := by decide +kernel
theorem d9_6 : decode jdk_33_method_13_code 6 = .ok (.iconst 0, 1) := by decide +kernel
theorem d9_7 : decode jdk_33_method_13_code 7 = .ok (.istore_n 1, 1) := by decide +kernel
theorem d9_8 : decode jdk_33_method_13_code 8 = .ok (.iload_n 0, 1) := by decide +kernel
theorem d9_9 : decode jdk_33_method_13_code 9 = .ok (.ineg, 1) := by decide +kernel
theorem d9_10 : decode jdk_33_method_13_code 10 = .ok (.istore_n 0, 1) := by decide +kernel
theorem d9_11 : decode jdk_33_method_13_code 11 = .ok (.bipush (-10), 2) := by decide +kernel
theorem d9_13 : decode jdk_33_method_13_code 13 = .ok (.istore_n 2, 1) := by decide +kernel
theorem d9_14 : decode jdk_33_method_13_code 14 = .ok (.iconst 1, 1) := by decide +kernel
theorem d9_15 : decode jdk_33_method_13_code 15 = .ok (.istore_n 3, 1) := by decide +kernel
theorem d9_16 : decode jdk_33_method_13_code 16 = .ok (.iload_n 3, 1) := by decide +kernel
theorem d9_17 : decode jdk_33_method_13_code 17 = .ok (.bipush 10, 2) := by decide +kernel
theorem d9_19 : decode jdk_33_method_13_code 19 = .ok (.if_icmp .ge 23, 3) := by decide +kernel
theorem d9_22 : decode jdk_33_method_13_code 22 = .ok (.iload_n 0, 1) := by decide +kernel
theorem d9_23 : decode jdk_33_method_13_code 23 = .ok (.iload_n 2, 1) := by decide +kernel
theorem d9_24 : decode jdk_33_method_13_code 24 = .ok (.if_icmp .le 7, 3) := by decide +kernel
theorem d9_27 : decode jdk_33_method_13_code 27 = .ok (.iload_n 3, 1) := by decide +kernel
theorem d9_28 : decode jdk_33_method_13_code 28 = .ok (.iload_n 1, 1) := by decide +kernel
theorem d9_29 : decode jdk_33_method_13_code 29 = .ok (.iadd, 1) := by decide +kernel
theorem d9_30 : decode jdk_33_method_13_code 30 = .ok (.ireturn, 1) := by decide +kernel
theorem pn_java_lang_Integer : plainName "java/lang/Integer" = true := by first | (simp [plainName, overriddenIn]; done) | decide +kernel
theorem ef_9 (m : MethodId) (x0 : Int32) : entryFrame m #[(.int x0)] 4 = mkF m 0 #[.val (.int x0), .unset, .unset, .unset] [] := by first | (simp [entryFrame, mkF, argsToLocals, Value.category]; done) | rfl
def Q9_1 (Z : State) (p0 : Int32) (h0 : Heap) (n0 : Nat) (v : Option Value) (h : Heap) (L : List Loc) : Prop := v = some (.int (1 : Int32)) ∧ Fr n0 L ∧ h = h0
set_option maxRecDepth 65536 in
set_option maxHeartbeats 40000000 in
theorem rm9_1 (l : Launch) (Z : State) (a0 : Array Value) (hw : ∀ d ∈ tables_1, d.before a0 Z = true) (ws : List Jvm.Cond) (p0 : Int32) (h0 : Heap) (n0 : Nat) (Z0 : n0 ≤ h0.size) (hc3 : ¬ (p0 < (0 : Int32))) (hc24 : (-10 : Int32) < (-p0)) :
    MetFree l (⟨"java/lang/Integer", "stringSize", "(I)I"⟩ : MethodName) (head1 (Jvm.Cond.code (⟨"java/lang/Integer", "stringSize", "(I)I"⟩ : MethodName) jdk_33_method_13_code 4 (some .int) :: ws) ({ frames := 0, cells := 0, slots := 0, locals := 0 } : Room)) (fun a U => a = #[(.int p0)] ∧ Z.Warmed39 U.vm ∧ U.heap = h0) (fun _ _ _ _ _ => True) (fun _ U o U' => ∃ v L, o = .returned v ∧ Q9_1 Z p0 h0 n0 v U'.heap L ∧ FrameEnd U o U' L ({ frames := 0, cells := 0, slots := 0, locals := 0 } : Room).cells ({ frames := 0, cells := 0, slots := 0, locals := 0 } : Room).slots) := by
  refine MetFree.of_bodySF (plainFor_of_name pn_java_lang_Integer) hisR ?_
  intro p e s m args below meth c s₁ Bd hml0 hP hK
  obtain ⟨rfl, hZ, hh⟩ := hP
  have hx := Bd.exec
  have hby := Bd.bytes
  have hml : c.maxLocals = 4 := hml0
  have hown : s.vm.findClass "java/lang/Integer" = some m.cls := findClass_of_methodNamed Bd.named
  have hnm := (name_of_methodNamed Bd.named Bd.method).1
  have X0 : Stand p l e ({ frames := 0, cells := 0, slots := 0, locals := 0 } : Room) s m #[(.int p0)] below meth c s₁ [] 0 0 := Stand.of_body Bd
  have e0 : s₁.heap = h0 := by rw [← hh, Bd.state]; rfl
  have N0 := Fr.nil n0
  show Go p e below (fun o U' => ∃ v L, o = .returned v ∧ Q9_1 Z p0 h0 n0 v U'.heap L ∧ FrameEnd s o U' L ({ frames := 0, cells := 0, slots := 0, locals := 0 } : Room).cells ({ frames := 0, cells := 0, slots := 0, locals := 0 } : Room).slots) (s₁.setTop (entryFrame m #[(.int p0)] 4))
  refine Go.of (fun _ k => castTop (ef_9 m p0) k) ?_
  show Go p e below _ (s₁.setTop (mkF m 0 #[.val (.int p0), .unset, .unset, .unset] []))
  refine Go.of (fun _ k => XS.iconst X0.here hx rfl (hb hby d9_0) k) ?_
  show Go p e below _ (s₁.setTop (mkF m 1 #[.val (.int p0), .unset, .unset, .unset] [(.int (1 : Int32))]))
  refine Go.of (fun _ k => XS.istoreN X0.here hx rfl (hb hby d9_1) rfl (l' := #[.val (.int p0), .val (.int (1 : Int32)), .unset, .unset]) rfl k) ?_
  show Go p e below _ (s₁.setTop (mkF m 2 #[.val (.int p0), .val (.int (1 : Int32)), .unset, .unset] []))
  refine Go.of (fun _ k => XS.iloadN X0.here hx rfl (hb hby d9_2) rfl  k) ?_
  show Go p e below _ (s₁.setTop (mkF m 3 #[.val (.int p0), .val (.int (1 : Int32)), .unset, .unset] [(.int p0)]))
  refine Go.of (fun _ k => XS.ifNo X0.here hx rfl (hb hby d9_3) rfl ((if0 _ _).trans (flt hc3).1) k) ?_
  show Go p e below _ (s₁.setTop (mkF m 6 #[.val (.int p0), .val (.int (1 : Int32)), .unset, .unset] []))
  refine Go.of (fun _ k => XS.iconst X0.here hx rfl (hb hby d9_6) k) ?_
  show Go p e below _ (s₁.setTop (mkF m 7 #[.val (.int p0), .val (.int (1 : Int32)), .unset, .unset] [(.int (0 : Int32))]))
  refine Go.of (fun _ k => XS.istoreN X0.here hx rfl (hb hby d9_7) rfl (l' := #[.val (.int p0), .val (.int (0 : Int32)), .unset, .unset]) rfl k) ?_
  show Go p e below _ (s₁.setTop (mkF m 8 #[.val (.int p0), .val (.int (0 : Int32)), .unset, .unset] []))
  refine Go.of (fun _ k => XS.iloadN X0.here hx rfl (hb hby d9_8) rfl  k) ?_
  show Go p e below _ (s₁.setTop (mkF m 9 #[.val (.int p0), .val (.int (0 : Int32)), .unset, .unset] [(.int p0)]))
  refine Go.of (fun _ k => XS.ineg X0.here hx rfl (hb hby d9_9) rfl k) ?_
  show Go p e below _ (s₁.setTop (mkF m 10 #[.val (.int p0), .val (.int (0 : Int32)), .unset, .unset] [(.int (-p0))]))
  refine Go.of (fun _ k => XS.istoreN X0.here hx rfl (hb hby d9_10) rfl (l' := #[.val (.int (-p0)), .val (.int (0 : Int32)), .unset, .unset]) rfl k) ?_
  show Go p e below _ (s₁.setTop (mkF m 11 #[.val (.int (-p0)), .val (.int (0 : Int32)), .unset, .unset] []))
  refine Go.of (fun _ k => XS.bipush X0.here hx rfl (hb hby d9_11) k) ?_
  show Go p e below _ (s₁.setTop (mkF m 13 #[.val (.int (-p0)), .val (.int (0 : Int32)), .unset, .unset] [(.int (-10 : Int32))]))
  refine Go.of (fun _ k => XS.istoreN X0.here hx rfl (hb hby d9_13) rfl (l' := #[.val (.int (-p0)), .val (.int (0 : Int32)), .val (.int (-10 : Int32)), .unset]) rfl k) ?_
  show Go p e below _ (s₁.setTop (mkF m 14 #[.val (.int (-p0)), .val (.int (0 : Int32)), .val (.int (-10 : Int32)), .unset] []))
  refine Go.of (fun _ k => XS.iconst X0.here hx rfl (hb hby d9_14) k) ?_
  show Go p e below _ (s₁.setTop (mkF m 15 #[.val (.int (-p0)), .val (.int (0 : Int32)), .val (.int (-10 : Int32)), .unset] [(.int (1 : Int32))]))
  refine Go.of (fun _ k => XS.istoreN X0.here hx rfl (hb hby d9_15) rfl (l' := #[.val (.int (-p0)), .val (.int (0 : Int32)), .val (.int (-10 : Int32)), .val (.int (1 : Int32))]) rfl k) ?_
  show Go p e below _ (s₁.setTop (mkF m 16 #[.val (.int (-p0)), .val (.int (0 : Int32)), .val (.int (-10 : Int32)), .val (.int (1 : Int32))] []))
  refine Go.of (fun _ k => XS.iloadN X0.here hx rfl (hb hby d9_16) rfl  k) ?_
  show Go p e below _ (s₁.setTop (mkF m 17 #[.val (.int (-p0)), .val (.int (0 : Int32)), .val (.int (-10 : Int32)), .val (.int (1 : Int32))] [(.int (1 : Int32))]))
  refine Go.of (fun _ k => XS.bipush X0.here hx rfl (hb hby d9_17) k) ?_
  show Go p e below _ (s₁.setTop (mkF m 19 #[.val (.int (-p0)), .val (.int (0 : Int32)), .val (.int (-10 : Int32)), .val (.int (1 : Int32))] [(.int (10 : Int32)), (.int (1 : Int32))]))
  refine Go.of (fun _ k => XS.icmpNo X0.here hx rfl (hb hby d9_19) rfl (tlt (by decide : (1 : Int32) < (10 : Int32))).2.1 k) ?_
  show Go p e below _ (s₁.setTop (mkF m 22 #[.val (.int (-p0)), .val (.int (0 : Int32)), .val (.int (-10 : Int32)), .val (.int (1 : Int32))] []))
  refine Go.of (fun _ k => XS.iloadN X0.here hx rfl (hb hby d9_22) rfl  k) ?_
  show Go p e below _ (s₁.setTop (mkF m 23 #[.val (.int (-p0)), .val (.int (0 : Int32)), .val (.int (-10 : Int32)), .val (.int (1 : Int32))] [(.int (-p0))]))
  refine Go.of (fun _ k => XS.iloadN X0.here hx rfl (hb hby d9_23) rfl  k) ?_
  show Go p e below _ (s₁.setTop (mkF m 24 #[.val (.int (-p0)), .val (.int (0 : Int32)), .val (.int (-10 : Int32)), .val (.int (1 : Int32))] [(.int (-10 : Int32)), (.int (-p0))]))
  refine Go.of (fun _ k => XS.icmpNo X0.here hx rfl (hb hby d9_24) rfl (tlt hc24).2.2.2 k) ?_
  show Go p e below _ (s₁.setTop (mkF m 27 #[.val (.int (-p0)), .val (.int (0 : Int32)), .val (.int (-10 : Int32)), .val (.int (1 : Int32))] []))
  refine Go.of (fun _ k => XS.iloadN X0.here hx rfl (hb hby d9_27) rfl  k) ?_
  show Go p e below _ (s₁.setTop (mkF m 28 #[.val (.int (-p0)), .val (.int (0 : Int32)), .val (.int (-10 : Int32)), .val (.int (1 : Int32))] [(.int (1 : Int32))]))
  refine Go.of (fun _ k => XS.iloadN X0.here hx rfl (hb hby d9_28) rfl  k) ?_
  show Go p e below _ (s₁.setTop (mkF m 29 #[.val (.int (-p0)), .val (.int (0 : Int32)), .val (.int (-10 : Int32)), .val (.int (1 : Int32))] [(.int (0 : Int32)), (.int (1 : Int32))]))
  refine Go.of (fun _ k => XS.iadd X0.here hx rfl (hb hby d9_29) rfl k) ?_
  show Go p e below _ (s₁.setTop (mkF m 30 #[.val (.int (-p0)), .val (.int (0 : Int32)), .val (.int (-10 : Int32)), .val (.int (1 : Int32))] [(.int (1 : Int32))]))
  obtain ⟨fs, hr, hrun, hended, hW, hsame⟩ := X0.leave (v := some (.int (1 : Int32))) (fun h => by rw [Bd.returns] at h; cases h)
  refine Go.mk _ _ ?_ hrun hended ⟨_, _, rfl, ?_, ⟨_, rfl⟩, hW, hsame.mono (by decide) (by decide)⟩
  · exact retI X0 hx Bd.returns (hb hby d9_30) hr
  · show Q9_1 Z p0 h0 n0 _ s₁.heap _
    rw [e0]
    exact ⟨rfl, N0, rfl⟩
theorem d12_0 : decode jdk_33_method_12_code 0 = .ok (.iload_n 1, 1) := by decide +kernel
theorem d12_1 : decode jdk_33_method_12_code 1 = .ok (.istore 5, 2) := by decide +kernel
theorem d12_3 : decode jdk_33_method_12_code 3 = .ok (.iload_n 0, 1) := by decide +kernel
theorem d12_4 : decode jdk_33_method_12_code 4 = .ok (.ifCond .ge 7, 3) := by decide +kernel
theorem d12_11 : decode jdk_33_method_12_code 11 = .ok (.iconst 0, 1) := by decide +kernel
theorem d12_12 : decode jdk_33_method_12_code 12 = .ok (.istore 6, 2) := by decide +kernel
theorem d12_14 : decode jdk_33_method_12_code 14 = .ok (.iload 6, 2) := by decide +kernel
theorem d12_16 : decode jdk_33_method_12_code 16 = .ok (.ifCond .ne 6, 3) := by decide +kernel
theorem d12_19 : decode jdk_33_method_12_code 19 = .ok (.iload_n 0, 1) := by decide +kernel
theorem d12_20 : decode jdk_33_method_12_code 20 = .ok (.ineg, 1) := by decide +kernel
theorem d12_21 : decode jdk_33_method_12_code 21 = .ok (.istore_n 0, 1) := by decide +kernel
theorem d12_22 : decode jdk_33_method_12_code 22 = .ok (.iload_n 0, 1) := by decide +kernel
theorem d12_23 : decode jdk_33_method_12_code 23 = .ok (.bipush (-100), 2) := by decide +kernel
theorem d12_25 : decode jdk_33_method_12_code 25 = .ok (.if_icmp .gt 47, 3) := by decide +kernel
theorem d12_72 : decode jdk_33_method_12_code 72 = .ok (.aload_n 2, 1) := by decide +kernel
theorem d12_73 : decode jdk_33_method_12_code 73 = .ok (.iinc 5 (-1), 3) := by decide +kernel
theorem d12_76 : decode jdk_33_method_12_code 76 = .ok (.iload 5, 2) := by decide +kernel
theorem d12_78 : decode jdk_33_method_12_code 78 = .ok (.getstatic 83, 3) := by decide +kernel
theorem d12_81 : decode jdk_33_method_12_code 81 = .ok (.iload_n 0, 1) := by decide +kernel
theorem d12_82 : decode jdk_33_method_12_code 82 = .ok (.ineg, 1) := by decide +kernel
theorem d12_83 : decode jdk_33_method_12_code 83 = .ok (.baload, 1) := by decide +kernel
theorem d12_84 : decode jdk_33_method_12_code 84 = .ok (.bastore, 1) := by decide +kernel
theorem d12_85 : decode jdk_33_method_12_code 85 = .ok (.iload_n 0, 1) := by decide +kernel
theorem d12_86 : decode jdk_33_method_12_code 86 = .ok (.bipush (-9), 2) := by decide +kernel
theorem d12_88 : decode jdk_33_method_12_code 88 = .ok (.if_icmp .ge 16, 3) := by decide +kernel
theorem d12_104 : decode jdk_33_method_12_code 104 = .ok (.iload 6, 2) := by decide +kernel
theorem d12_106 : decode jdk_33_method_12_code 106 = .ok (.ifCond .eq 12, 3) := by decide +kernel
theorem d12_118 : decode jdk_33_method_12_code 118 = .ok (.iload 5, 2) := by decide +kernel
theorem d12_120 : decode jdk_33_method_12_code 120 = .ok (.ireturn, 1) := by decide +kernel
theorem ef_12l2_1 (m : MethodId) (x0 : Int32) (x2 : Addr) : entryFrame m #[(.int x0), (.int (1 : Int32)), (.ref x2)] 7 = mkF m 0 #[.val (.int x0), .val (.int (1 : Int32)), .val (.ref x2), .unset, .unset, .unset, .unset] [] := by first | (simp [entryFrame, mkF, argsToLocals, Value.category]; done) | rfl
def Q12_1w (Z : State) (p0 : Int32) (o2 : Addr) (w_DigitOnes : Addr) (cl_w_DigitOnes : Cell) (e83 : Int32) (kv : ClassId) (h0 : Heap) (n0 : Nat) (v : Option Value) (h : Heap) (L : List Loc) : Prop := v = some (.int (0 : Int32)) ∧ Fr n0 L ∧ Keep h0 h [o2] ∧ Arv Z h o2 kv .byte (16 : Int32) [(.int e83.toInt8.toInt32), (.int (0 : Int32)), (.int (0 : Int32)), (.int (0 : Int32)), (.int (0 : Int32)), (.int (0 : Int32)), (.int (0 : Int32)), (.int (0 : Int32)), (.int (0 : Int32)), (.int (0 : Int32)), (.int (0 : Int32)), (.int (0 : Int32)), (.int (0 : Int32)), (.int (0 : Int32)), (.int (0 : Int32)), (.int (0 : Int32))] (.int (0 : Int32))
set_option maxRecDepth 65536 in
set_option maxHeartbeats 40000000 in
theorem rm12_1w (l : Launch) (Z : State) (a0 : Array Value) (hw : ∀ d ∈ tables_1, d.before a0 Z = true) (ws : List Jvm.Cond) (p0 : Int32) (o2 : Addr) (w_DigitOnes : Addr) (cl_w_DigitOnes : Cell) (e83 : Int32) (kv : ClassId) (h0 : Heap) (n0 : Nat) (Z0 : n0 ≤ h0.size) (hc4 : ¬ (p0 < (0 : Int32))) (hc25 : (-100 : Int32) < (-p0)) (S_DigitOnes : Sta Z h0 "java/lang/Integer" "DigitOnes" "[B" (.ref w_DigitOnes)) (Ar_w_DigitOnes : Arr Z h0 w_DigitOnes cl_w_DigitOnes .byte) (hin83 : ¬ ((-(-p0)) < 0 ∨ cl_w_DigitOnes.slots.size ≤ ((-(-p0))).toNatClampNeg)) (hat83 : cl_w_DigitOnes.slots[((-(-p0))).toNatClampNeg]? = some (.int e83)) (V_o2 : Arv Z h0 o2 kv .byte (16 : Int32) [(.int (0 : Int32)), (.int (0 : Int32)), (.int (0 : Int32)), (.int (0 : Int32)), (.int (0 : Int32)), (.int (0 : Int32)), (.int (0 : Int32)), (.int (0 : Int32)), (.int (0 : Int32)), (.int (0 : Int32)), (.int (0 : Int32)), (.int (0 : Int32)), (.int (0 : Int32)), (.int (0 : Int32)), (.int (0 : Int32)), (.int (0 : Int32))] (.int (0 : Int32))) (g_o2 : n0 ≤ o2) (hc88 : ¬ ((-p0) < (-9 : Int32))) :
    MetFree l (⟨"java/lang/Integer", "getChars", "(II[B)I"⟩ : MethodName) (head1 (Jvm.Cond.code (⟨"java/lang/Integer", "getChars", "(II[B)I"⟩ : MethodName) jdk_33_method_12_code 7 (some .int) :: ws) ({ frames := 0, cells := 0, slots := 0, locals := 0 } : Room)) (fun a U => a = #[(.int p0), (.int (1 : Int32)), (.ref o2)] ∧ Z.Warmed39 U.vm ∧ U.heap = h0) (fun _ _ _ _ _ => True) (fun _ U o U' => ∃ v L, o = .returned v ∧ Q12_1w Z p0 o2 w_DigitOnes cl_w_DigitOnes e83 kv h0 n0 v U'.heap L ∧ FrameEnd U o U' L ({ frames := 0, cells := 0, slots := 0, locals := 0 } : Room).cells ({ frames := 0, cells := 0, slots := 0, locals := 0 } : Room).slots) := by
  refine MetFree.of_bodySF (plainFor_of_name pn_java_lang_Integer) hisR ?_
  intro p e s m args below meth c s₁ Bd hml0 hP hK
  obtain ⟨rfl, hZ, hh⟩ := hP
  have hx := Bd.exec
  have hby := Bd.bytes
  have hml : c.maxLocals = 7 := hml0
  have hown : s.vm.findClass "java/lang/Integer" = some m.cls := findClass_of_methodNamed Bd.named
  have hnm := (name_of_methodNamed Bd.named Bd.method).1
  have X0 : Stand p l e ({ frames := 0, cells := 0, slots := 0, locals := 0 } : Room) s m #[(.int p0), (.int (1 : Int32)), (.ref o2)] below meth c s₁ [] 0 0 := Stand.of_body Bd
  have e0 : s₁.heap = h0 := by rw [← hh, Bd.state]; rfl
  have N0 := Fr.nil n0
  show Go p e below (fun o U' => ∃ v L, o = .returned v ∧ Q12_1w Z p0 o2 w_DigitOnes cl_w_DigitOnes e83 kv h0 n0 v U'.heap L ∧ FrameEnd s o U' L ({ frames := 0, cells := 0, slots := 0, locals := 0 } : Room).cells ({ frames := 0, cells := 0, slots := 0, locals := 0 } : Room).slots) (s₁.setTop (entryFrame m #[(.int p0), (.int (1 : Int32)), (.ref o2)] 7))
  refine Go.of (fun _ k => castTop (ef_12l2_1 m p0 o2) k) ?_
  show Go p e below _ (s₁.setTop (mkF m 0 #[.val (.int p0), .val (.int (1 : Int32)), .val (.ref o2), .unset, .unset, .unset, .unset] []))
  refine Go.of (fun _ k => XS.iloadN X0.here hx rfl (hb hby d12_0) rfl  k) ?_
  show Go p e below _ (s₁.setTop (mkF m 1 #[.val (.int p0), .val (.int (1 : Int32)), .val (.ref o2), .unset, .unset, .unset, .unset] [(.int (1 : Int32))]))
  refine Go.of (fun _ k => XS.istore X0.here hx rfl (hb hby d12_1) rfl (l' := #[.val (.int p0), .val (.int (1 : Int32)), .val (.ref o2), .unset, .unset, .val (.int (1 : Int32)), .unset]) rfl k) ?_
  show Go p e below _ (s₁.setTop (mkF m 3 #[.val (.int p0), .val (.int (1 : Int32)), .val (.ref o2), .unset, .unset, .val (.int (1 : Int32)), .unset] []))
  refine Go.of (fun _ k => XS.iloadN X0.here hx rfl (hb hby d12_3) rfl  k) ?_
  show Go p e below _ (s₁.setTop (mkF m 4 #[.val (.int p0), .val (.int (1 : Int32)), .val (.ref o2), .unset, .unset, .val (.int (1 : Int32)), .unset] [(.int p0)]))
  refine Go.of (fun _ k => XS.ifYes X0.here hx rfl (pc0 := 4) (pc' := 11) rfl (hb hby d12_4) rfl ((if0 _ _).trans (flt hc4).2.1) (by decide) (by decide) k) ?_
  show Go p e below _ (s₁.setTop (mkF m 11 #[.val (.int p0), .val (.int (1 : Int32)), .val (.ref o2), .unset, .unset, .val (.int (1 : Int32)), .unset] []))
  refine Go.of (fun _ k => XS.iconst X0.here hx rfl (hb hby d12_11) k) ?_
  show Go p e below _ (s₁.setTop (mkF m 12 #[.val (.int p0), .val (.int (1 : Int32)), .val (.ref o2), .unset, .unset, .val (.int (1 : Int32)), .unset] [(.int (0 : Int32))]))
  refine Go.of (fun _ k => XS.istore X0.here hx rfl (hb hby d12_12) rfl (l' := #[.val (.int p0), .val (.int (1 : Int32)), .val (.ref o2), .unset, .unset, .val (.int (1 : Int32)), .val (.int (0 : Int32))]) rfl k) ?_
  show Go p e below _ (s₁.setTop (mkF m 14 #[.val (.int p0), .val (.int (1 : Int32)), .val (.ref o2), .unset, .unset, .val (.int (1 : Int32)), .val (.int (0 : Int32))] []))
  refine Go.of (fun _ k => XS.iload X0.here hx rfl (hb hby d12_14) rfl  k) ?_
  show Go p e below _ (s₁.setTop (mkF m 16 #[.val (.int p0), .val (.int (1 : Int32)), .val (.ref o2), .unset, .unset, .val (.int (1 : Int32)), .val (.int (0 : Int32))] [(.int (0 : Int32))]))
  refine Go.of (fun _ k => XS.ifNo X0.here hx rfl (hb hby d12_16) rfl ((if0 _ _).trans (teq (by decide : (0 : Int32) = (0 : Int32))).2) k) ?_
  show Go p e below _ (s₁.setTop (mkF m 19 #[.val (.int p0), .val (.int (1 : Int32)), .val (.ref o2), .unset, .unset, .val (.int (1 : Int32)), .val (.int (0 : Int32))] []))
  refine Go.of (fun _ k => XS.iloadN X0.here hx rfl (hb hby d12_19) rfl  k) ?_
  show Go p e below _ (s₁.setTop (mkF m 20 #[.val (.int p0), .val (.int (1 : Int32)), .val (.ref o2), .unset, .unset, .val (.int (1 : Int32)), .val (.int (0 : Int32))] [(.int p0)]))
  refine Go.of (fun _ k => XS.ineg X0.here hx rfl (hb hby d12_20) rfl k) ?_
  show Go p e below _ (s₁.setTop (mkF m 21 #[.val (.int p0), .val (.int (1 : Int32)), .val (.ref o2), .unset, .unset, .val (.int (1 : Int32)), .val (.int (0 : Int32))] [(.int (-p0))]))
  refine Go.of (fun _ k => XS.istoreN X0.here hx rfl (hb hby d12_21) rfl (l' := #[.val (.int (-p0)), .val (.int (1 : Int32)), .val (.ref o2), .unset, .unset, .val (.int (1 : Int32)), .val (.int (0 : Int32))]) rfl k) ?_
  show Go p e below _ (s₁.setTop (mkF m 22 #[.val (.int (-p0)), .val (.int (1 : Int32)), .val (.ref o2), .unset, .unset, .val (.int (1 : Int32)), .val (.int (0 : Int32))] []))
  refine Go.of (fun _ k => XS.iloadN X0.here hx rfl (hb hby d12_22) rfl  k) ?_
  show Go p e below _ (s₁.setTop (mkF m 23 #[.val (.int (-p0)), .val (.int (1 : Int32)), .val (.ref o2), .unset, .unset, .val (.int (1 : Int32)), .val (.int (0 : Int32))] [(.int (-p0))]))
  refine Go.of (fun _ k => XS.bipush X0.here hx rfl (hb hby d12_23) k) ?_
  show Go p e below _ (s₁.setTop (mkF m 25 #[.val (.int (-p0)), .val (.int (1 : Int32)), .val (.ref o2), .unset, .unset, .val (.int (1 : Int32)), .val (.int (0 : Int32))] [(.int (-100 : Int32)), (.int (-p0))]))
  refine Go.of (fun _ k => XS.icmpYes X0.here hx rfl (pc0 := 25) (pc' := 72) rfl (hb hby d12_25) rfl (tlt hc25).2.2.1 (by decide) (by decide) k) ?_
  show Go p e below _ (s₁.setTop (mkF m 72 #[.val (.int (-p0)), .val (.int (1 : Int32)), .val (.ref o2), .unset, .unset, .val (.int (1 : Int32)), .val (.int (0 : Int32))] []))
  refine Go.of (fun _ k => XS.aloadN X0.here hx rfl (hb hby d12_72) rfl rfl k) ?_
  show Go p e below _ (s₁.setTop (mkF m 73 #[.val (.int (-p0)), .val (.int (1 : Int32)), .val (.ref o2), .unset, .unset, .val (.int (1 : Int32)), .val (.int (0 : Int32))] [(.ref o2)]))
  refine Go.of (fun _ k => XS.iinc X0.here hx rfl (hb hby d12_73) rfl (l' := #[.val (.int (-p0)), .val (.int (1 : Int32)), .val (.ref o2), .unset, .unset, .val (.int (0 : Int32)), .val (.int (0 : Int32))]) rfl k) ?_
  show Go p e below _ (s₁.setTop (mkF m 76 #[.val (.int (-p0)), .val (.int (1 : Int32)), .val (.ref o2), .unset, .unset, .val (.int (0 : Int32)), .val (.int (0 : Int32))] [(.ref o2)]))
  refine Go.of (fun _ k => XS.iload X0.here hx rfl (hb hby d12_76) rfl  k) ?_
  show Go p e below _ (s₁.setTop (mkF m 78 #[.val (.int (-p0)), .val (.int (1 : Int32)), .val (.ref o2), .unset, .unset, .val (.int (0 : Int32)), .val (.int (0 : Int32))] [(.int (0 : Int32)), (.ref o2)]))
  obtain ⟨T1, X1, e1, st1⟩ := getS2 X0 hx hZ hown (host := "") (Or.inl (hw _ (List.mem_of_getElem? (i := 73) rfl))) Via.refl e0 S_DigitOnes (g := (mkF m 78 #[.val (.int (-p0)), .val (.int (1 : Int32)), .val (.ref o2), .unset, .unset, .val (.int (0 : Int32)), .val (.int (0 : Int32))] [(.int (0 : Int32)), (.ref o2)])) rfl (hb hby d12_78)
  refine Go.of st1 ?_
  show Go p e below _ (T1.setTop (mkF m 81 #[.val (.int (-p0)), .val (.int (1 : Int32)), .val (.ref o2), .unset, .unset, .val (.int (0 : Int32)), .val (.int (0 : Int32))] [(.ref w_DigitOnes), (.int (0 : Int32)), (.ref o2)]))
  refine Go.of (fun _ k => XS.iloadN X1.here hx rfl (hb hby d12_81) rfl  k) ?_
  show Go p e below _ (T1.setTop (mkF m 82 #[.val (.int (-p0)), .val (.int (1 : Int32)), .val (.ref o2), .unset, .unset, .val (.int (0 : Int32)), .val (.int (0 : Int32))] [(.int (-p0)), (.ref w_DigitOnes), (.int (0 : Int32)), (.ref o2)]))
  refine Go.of (fun _ k => XS.ineg X1.here hx rfl (hb hby d12_82) rfl k) ?_
  show Go p e below _ (T1.setTop (mkF m 83 #[.val (.int (-p0)), .val (.int (1 : Int32)), .val (.ref o2), .unset, .unset, .val (.int (0 : Int32)), .val (.int (0 : Int32))] [(.int (-(-p0))), (.ref w_DigitOnes), (.int (0 : Int32)), (.ref o2)]))
  refine Go.of (fun _ k => X1.baloadBytes hx (j := (-(-p0))) (v := (.int e83)) (by rw [e1]; exact Ar_w_DigitOnes.1) (State.isArrayOf_alike hZ.alike Ar_w_DigitOnes.2.1) Ar_w_DigitOnes.2.2 hin83 hat83 (g := (mkF m 83 #[.val (.int (-p0)), .val (.int (1 : Int32)), .val (.ref o2), .unset, .unset, .val (.int (0 : Int32)), .val (.int (0 : Int32))] [(.int (-(-p0))), (.ref w_DigitOnes), (.int (0 : Int32)), (.ref o2)])) rfl rfl (hb hby d12_83) _ k) ?_
  show Go p e below _ (T1.setTop (mkF m 84 #[.val (.int (-p0)), .val (.int (1 : Int32)), .val (.ref o2), .unset, .unset, .val (.int (0 : Int32)), .val (.int (0 : Int32))] [(.int e83), (.int (0 : Int32)), (.ref o2)]))
  obtain ⟨clt2, Art2, qt2, st2, nt2, Ht2, Gt2⟩ := id V_o2
  have hint2 : ¬ ((0 : Int32) < 0 ∨ clt2.slots.size ≤ ((0 : Int32)).toNatClampNeg) := inb_of st2 ⟨by decide, by decide⟩
  obtain ⟨T3, h3, X3, e3, W3, st3⟩ := stB X1 hx hZ e1 Art2 (j := (0 : Int32)) hint2 (g := (mkF m 84 #[.val (.int (-p0)), .val (.int (1 : Int32)), .val (.ref o2), .unset, .unset, .val (.int (0 : Int32)), .val (.int (0 : Int32))] [(.int e83), (.int (0 : Int32)), (.ref o2)])) rfl rfl (hb hby d12_84)
  refine Go.of st3 ?_
  have N3 := Fr.snoc X3 N0 g_o2
  have K3 : Keep h0 h3 [o2] := ((Keep.refl h0 [o2])).wr W3 (Or.inl (List.mem_of_getElem? (i := 0) rfl))
  have Z3 : n0 ≤ h3.size := Nat.le_trans Z0 (Keep.of_wr W3).1
  have V3 : Arv Z h3 o2 kv .byte (16 : Int32) [(.int e83.toInt8.toInt32), (.int (0 : Int32)), (.int (0 : Int32)), (.int (0 : Int32)), (.int (0 : Int32)), (.int (0 : Int32)), (.int (0 : Int32)), (.int (0 : Int32)), (.int (0 : Int32)), (.int (0 : Int32)), (.int (0 : Int32)), (.int (0 : Int32)), (.int (0 : Int32)), (.int (0 : Int32)), (.int (0 : Int32)), (.int (0 : Int32))] (.int (0 : Int32)) := Arv.set Art2 qt2 st2 nt2 Ht2 Gt2 (fits_nar_byte _) W3 0 rfl (Nat.le_of_ble_eq_true rfl)
  show Go p e below _ (T3.setTop (mkF m 85 #[.val (.int (-p0)), .val (.int (1 : Int32)), .val (.ref o2), .unset, .unset, .val (.int (0 : Int32)), .val (.int (0 : Int32))] []))
  refine Go.of (fun _ k => XS.iloadN X3.here hx rfl (hb hby d12_85) rfl  k) ?_
  show Go p e below _ (T3.setTop (mkF m 86 #[.val (.int (-p0)), .val (.int (1 : Int32)), .val (.ref o2), .unset, .unset, .val (.int (0 : Int32)), .val (.int (0 : Int32))] [(.int (-p0))]))
  refine Go.of (fun _ k => XS.bipush X3.here hx rfl (hb hby d12_86) k) ?_
  show Go p e below _ (T3.setTop (mkF m 88 #[.val (.int (-p0)), .val (.int (1 : Int32)), .val (.ref o2), .unset, .unset, .val (.int (0 : Int32)), .val (.int (0 : Int32))] [(.int (-9 : Int32)), (.int (-p0))]))
  refine Go.of (fun _ k => XS.icmpYes X3.here hx rfl (pc0 := 88) (pc' := 104) rfl (hb hby d12_88) rfl (flt hc88).2.1 (by decide) (by decide) k) ?_
  show Go p e below _ (T3.setTop (mkF m 104 #[.val (.int (-p0)), .val (.int (1 : Int32)), .val (.ref o2), .unset, .unset, .val (.int (0 : Int32)), .val (.int (0 : Int32))] []))
  refine Go.of (fun _ k => XS.iload X3.here hx rfl (hb hby d12_104) rfl  k) ?_
  show Go p e below _ (T3.setTop (mkF m 106 #[.val (.int (-p0)), .val (.int (1 : Int32)), .val (.ref o2), .unset, .unset, .val (.int (0 : Int32)), .val (.int (0 : Int32))] [(.int (0 : Int32))]))
  refine Go.of (fun _ k => XS.ifYes X3.here hx rfl (pc0 := 106) (pc' := 118) rfl (hb hby d12_106) rfl ((if0 _ _).trans (teq (by decide : (0 : Int32) = (0 : Int32))).1) (by decide) (by decide) k) ?_
  show Go p e below _ (T3.setTop (mkF m 118 #[.val (.int (-p0)), .val (.int (1 : Int32)), .val (.ref o2), .unset, .unset, .val (.int (0 : Int32)), .val (.int (0 : Int32))] []))
  refine Go.of (fun _ k => XS.iload X3.here hx rfl (hb hby d12_118) rfl  k) ?_
  show Go p e below _ (T3.setTop (mkF m 120 #[.val (.int (-p0)), .val (.int (1 : Int32)), .val (.ref o2), .unset, .unset, .val (.int (0 : Int32)), .val (.int (0 : Int32))] [(.int (0 : Int32))]))
  obtain ⟨fs, hr, hrun, hended, hW, hsame⟩ := X3.leave (v := some (.int (0 : Int32))) (fun h => by rw [Bd.returns] at h; cases h)
  refine Go.mk _ _ ?_ hrun hended ⟨_, _, rfl, ?_, ⟨_, rfl⟩, hW, hsame.mono (by decide) (by decide)⟩
  · exact retI X3 hx Bd.returns (hb hby d12_120) hr
  · show Q12_1w Z p0 o2 w_DigitOnes cl_w_DigitOnes e83 kv h0 n0 _ T3.heap _
    rw [e3]
    exact ⟨rfl, N3, K3, V3⟩
def Q12_1n (Z : State) (p0 : Int32) (o2 : Addr) (w_DigitOnes : Addr) (cl_w_DigitOnes : Cell) (e83 : Int32) (kv : ClassId) (h0 : Heap) (n0 : Nat) (v : Option Value) (h : Heap) (L : List Loc) : Prop := v = some (.int (0 : Int32)) ∧ Fr n0 L ∧ Keep h0 h [o2] ∧ Arv Z h o2 kv .byte (1 : Int32) [(.int e83.toInt8.toInt32)] (.int (0 : Int32))
set_option maxRecDepth 65536 in
set_option maxHeartbeats 40000000 in
theorem rm12_1n (l : Launch) (Z : State) (a0 : Array Value) (hw : ∀ d ∈ tables_1, d.before a0 Z = true) (ws : List Jvm.Cond) (p0 : Int32) (o2 : Addr) (w_DigitOnes : Addr) (cl_w_DigitOnes : Cell) (e83 : Int32) (kv : ClassId) (h0 : Heap) (n0 : Nat) (Z0 : n0 ≤ h0.size) (hc4 : ¬ (p0 < (0 : Int32))) (hc25 : (-100 : Int32) < (-p0)) (S_DigitOnes : Sta Z h0 "java/lang/Integer" "DigitOnes" "[B" (.ref w_DigitOnes)) (Ar_w_DigitOnes : Arr Z h0 w_DigitOnes cl_w_DigitOnes .byte) (hin83 : ¬ ((-(-p0)) < 0 ∨ cl_w_DigitOnes.slots.size ≤ ((-(-p0))).toNatClampNeg)) (hat83 : cl_w_DigitOnes.slots[((-(-p0))).toNatClampNeg]? = some (.int e83)) (V_o2 : Arv Z h0 o2 kv .byte (1 : Int32) [(.int (0 : Int32))] (.int (0 : Int32))) (g_o2 : n0 ≤ o2) (hc88 : ¬ ((-p0) < (-9 : Int32))) :
    MetFree l (⟨"java/lang/Integer", "getChars", "(II[B)I"⟩ : MethodName) (head1 (Jvm.Cond.code (⟨"java/lang/Integer", "getChars", "(II[B)I"⟩ : MethodName) jdk_33_method_12_code 7 (some .int) :: ws) ({ frames := 0, cells := 0, slots := 0, locals := 0 } : Room)) (fun a U => a = #[(.int p0), (.int (1 : Int32)), (.ref o2)] ∧ Z.Warmed39 U.vm ∧ U.heap = h0) (fun _ _ _ _ _ => True) (fun _ U o U' => ∃ v L, o = .returned v ∧ Q12_1n Z p0 o2 w_DigitOnes cl_w_DigitOnes e83 kv h0 n0 v U'.heap L ∧ FrameEnd U o U' L ({ frames := 0, cells := 0, slots := 0, locals := 0 } : Room).cells ({ frames := 0, cells := 0, slots := 0, locals := 0 } : Room).slots) := by
  refine MetFree.of_bodySF (plainFor_of_name pn_java_lang_Integer) hisR ?_
  intro p e s m args below meth c s₁ Bd hml0 hP hK
  obtain ⟨rfl, hZ, hh⟩ := hP
  have hx := Bd.exec
  have hby := Bd.bytes
  have hml : c.maxLocals = 7 := hml0
  have hown : s.vm.findClass "java/lang/Integer" = some m.cls := findClass_of_methodNamed Bd.named
  have hnm := (name_of_methodNamed Bd.named Bd.method).1
  have X0 : Stand p l e ({ frames := 0, cells := 0, slots := 0, locals := 0 } : Room) s m #[(.int p0), (.int (1 : Int32)), (.ref o2)] below meth c s₁ [] 0 0 := Stand.of_body Bd
  have e0 : s₁.heap = h0 := by rw [← hh, Bd.state]; rfl
  have N0 := Fr.nil n0
  show Go p e below (fun o U' => ∃ v L, o = .returned v ∧ Q12_1n Z p0 o2 w_DigitOnes cl_w_DigitOnes e83 kv h0 n0 v U'.heap L ∧ FrameEnd s o U' L ({ frames := 0, cells := 0, slots := 0, locals := 0 } : Room).cells ({ frames := 0, cells := 0, slots := 0, locals := 0 } : Room).slots) (s₁.setTop (entryFrame m #[(.int p0), (.int (1 : Int32)), (.ref o2)] 7))
  refine Go.of (fun _ k => castTop (ef_12l2_1 m p0 o2) k) ?_
  show Go p e below _ (s₁.setTop (mkF m 0 #[.val (.int p0), .val (.int (1 : Int32)), .val (.ref o2), .unset, .unset, .unset, .unset] []))
  refine Go.of (fun _ k => XS.iloadN X0.here hx rfl (hb hby d12_0) rfl  k) ?_
  show Go p e below _ (s₁.setTop (mkF m 1 #[.val (.int p0), .val (.int (1 : Int32)), .val (.ref o2), .unset, .unset, .unset, .unset] [(.int (1 : Int32))]))
  refine Go.of (fun _ k => XS.istore X0.here hx rfl (hb hby d12_1) rfl (l' := #[.val (.int p0), .val (.int (1 : Int32)), .val (.ref o2), .unset, .unset, .val (.int (1 : Int32)), .unset]) rfl k) ?_
  show Go p e below _ (s₁.setTop (mkF m 3 #[.val (.int p0), .val (.int (1 : Int32)), .val (.ref o2), .unset, .unset, .val (.int (1 : Int32)), .unset] []))
  refine Go.of (fun _ k => XS.iloadN X0.here hx rfl (hb hby d12_3) rfl  k) ?_
  show Go p e below _ (s₁.setTop (mkF m 4 #[.val (.int p0), .val (.int (1 : Int32)), .val (.ref o2), .unset, .unset, .val (.int (1 : Int32)), .unset] [(.int p0)]))
  refine Go.of (fun _ k => XS.ifYes X0.here hx rfl (pc0 := 4) (pc' := 11) rfl (hb hby d12_4) rfl ((if0 _ _).trans (flt hc4).2.1) (by decide) (by decide) k) ?_
  show Go p e below _ (s₁.setTop (mkF m 11 #[.val (.int p0), .val (.int (1 : Int32)), .val (.ref o2), .unset, .unset, .val (.int (1 : Int32)), .unset] []))
  refine Go.of (fun _ k => XS.iconst X0.here hx rfl (hb hby d12_11) k) ?_
  show Go p e below _ (s₁.setTop (mkF m 12 #[.val (.int p0), .val (.int (1 : Int32)), .val (.ref o2), .unset, .unset, .val (.int (1 : Int32)), .unset] [(.int (0 : Int32))]))
  refine Go.of (fun _ k => XS.istore X0.here hx rfl (hb hby d12_12) rfl (l' := #[.val (.int p0), .val (.int (1 : Int32)), .val (.ref o2), .unset, .unset, .val (.int (1 : Int32)), .val (.int (0 : Int32))]) rfl k) ?_
  show Go p e below _ (s₁.setTop (mkF m 14 #[.val (.int p0), .val (.int (1 : Int32)), .val (.ref o2), .unset, .unset, .val (.int (1 : Int32)), .val (.int (0 : Int32))] []))
  refine Go.of (fun _ k => XS.iload X0.here hx rfl (hb hby d12_14) rfl  k) ?_
  show Go p e below _ (s₁.setTop (mkF m 16 #[.val (.int p0), .val (.int (1 : Int32)), .val (.ref o2), .unset, .unset, .val (.int (1 : Int32)), .val (.int (0 : Int32))] [(.int (0 : Int32))]))
  refine Go.of (fun _ k => XS.ifNo X0.here hx rfl (hb hby d12_16) rfl ((if0 _ _).trans (teq (by decide : (0 : Int32) = (0 : Int32))).2) k) ?_
  show Go p e below _ (s₁.setTop (mkF m 19 #[.val (.int p0), .val (.int (1 : Int32)), .val (.ref o2), .unset, .unset, .val (.int (1 : Int32)), .val (.int (0 : Int32))] []))
  refine Go.of (fun _ k => XS.iloadN X0.here hx rfl (hb hby d12_19) rfl  k) ?_
  show Go p e below _ (s₁.setTop (mkF m 20 #[.val (.int p0), .val (.int (1 : Int32)), .val (.ref o2), .unset, .unset, .val (.int (1 : Int32)), .val (.int (0 : Int32))] [(.int p0)]))
  refine Go.of (fun _ k => XS.ineg X0.here hx rfl (hb hby d12_20) rfl k) ?_
  show Go p e below _ (s₁.setTop (mkF m 21 #[.val (.int p0), .val (.int (1 : Int32)), .val (.ref o2), .unset, .unset, .val (.int (1 : Int32)), .val (.int (0 : Int32))] [(.int (-p0))]))
  refine Go.of (fun _ k => XS.istoreN X0.here hx rfl (hb hby d12_21) rfl (l' := #[.val (.int (-p0)), .val (.int (1 : Int32)), .val (.ref o2), .unset, .unset, .val (.int (1 : Int32)), .val (.int (0 : Int32))]) rfl k) ?_
  show Go p e below _ (s₁.setTop (mkF m 22 #[.val (.int (-p0)), .val (.int (1 : Int32)), .val (.ref o2), .unset, .unset, .val (.int (1 : Int32)), .val (.int (0 : Int32))] []))
  refine Go.of (fun _ k => XS.iloadN X0.here hx rfl (hb hby d12_22) rfl  k) ?_
  show Go p e below _ (s₁.setTop (mkF m 23 #[.val (.int (-p0)), .val (.int (1 : Int32)), .val (.ref o2), .unset, .unset, .val (.int (1 : Int32)), .val (.int (0 : Int32))] [(.int (-p0))]))
  refine Go.of (fun _ k => XS.bipush X0.here hx rfl (hb hby d12_23) k) ?_
  show Go p e below _ (s₁.setTop (mkF m 25 #[.val (.int (-p0)), .val (.int (1 : Int32)), .val (.ref o2), .unset, .unset, .val (.int (1 : Int32)), .val (.int (0 : Int32))] [(.int (-100 : Int32)), (.int (-p0))]))
  refine Go.of (fun _ k => XS.icmpYes X0.here hx rfl (pc0 := 25) (pc' := 72) rfl (hb hby d12_25) rfl (tlt hc25).2.2.1 (by decide) (by decide) k) ?_
  show Go p e below _ (s₁.setTop (mkF m 72 #[.val (.int (-p0)), .val (.int (1 : Int32)), .val (.ref o2), .unset, .unset, .val (.int (1 : Int32)), .val (.int (0 : Int32))] []))
  refine Go.of (fun _ k => XS.aloadN X0.here hx rfl (hb hby d12_72) rfl rfl k) ?_
  show Go p e below _ (s₁.setTop (mkF m 73 #[.val (.int (-p0)), .val (.int (1 : Int32)), .val (.ref o2), .unset, .unset, .val (.int (1 : Int32)), .val (.int (0 : Int32))] [(.ref o2)]))
  refine Go.of (fun _ k => XS.iinc X0.here hx rfl (hb hby d12_73) rfl (l' := #[.val (.int (-p0)), .val (.int (1 : Int32)), .val (.ref o2), .unset, .unset, .val (.int (0 : Int32)), .val (.int (0 : Int32))]) rfl k) ?_
  show Go p e below _ (s₁.setTop (mkF m 76 #[.val (.int (-p0)), .val (.int (1 : Int32)), .val (.ref o2), .unset, .unset, .val (.int (0 : Int32)), .val (.int (0 : Int32))] [(.ref o2)]))
  refine Go.of (fun _ k => XS.iload X0.here hx rfl (hb hby d12_76) rfl  k) ?_
  show Go p e below _ (s₁.setTop (mkF m 78 #[.val (.int (-p0)), .val (.int (1 : Int32)), .val (.ref o2), .unset, .unset, .val (.int (0 : Int32)), .val (.int (0 : Int32))] [(.int (0 : Int32)), (.ref o2)]))
  obtain ⟨T1, X1, e1, st1⟩ := getS2 X0 hx hZ hown (host := "") (Or.inl (hw _ (List.mem_of_getElem? (i := 73) rfl))) Via.refl e0 S_DigitOnes (g := (mkF m 78 #[.val (.int (-p0)), .val (.int (1 : Int32)), .val (.ref o2), .unset, .unset, .val (.int (0 : Int32)), .val (.int (0 : Int32))] [(.int (0 : Int32)), (.ref o2)])) rfl (hb hby d12_78)
  refine Go.of st1 ?_
  show Go p e below _ (T1.setTop (mkF m 81 #[.val (.int (-p0)), .val (.int (1 : Int32)), .val (.ref o2), .unset, .unset, .val (.int (0 : Int32)), .val (.int (0 : Int32))] [(.ref w_DigitOnes), (.int (0 : Int32)), (.ref o2)]))
  refine Go.of (fun _ k => XS.iloadN X1.here hx rfl (hb hby d12_81) rfl  k) ?_
  show Go p e below _ (T1.setTop (mkF m 82 #[.val (.int (-p0)), .val (.int (1 : Int32)), .val (.ref o2), .unset, .unset, .val (.int (0 : Int32)), .val (.int (0 : Int32))] [(.int (-p0)), (.ref w_DigitOnes), (.int (0 : Int32)), (.ref o2)]))
  refine Go.of (fun _ k => XS.ineg X1.here hx rfl (hb hby d12_82) rfl k) ?_
  show Go p e below _ (T1.setTop (mkF m 83 #[.val (.int (-p0)), .val (.int (1 : Int32)), .val (.ref o2), .unset, .unset, .val (.int (0 : Int32)), .val (.int (0 : Int32))] [(.int (-(-p0))), (.ref w_DigitOnes), (.int (0 : Int32)), (.ref o2)]))
  refine Go.of (fun _ k => X1.baloadBytes hx (j := (-(-p0))) (v := (.int e83)) (by rw [e1]; exact Ar_w_DigitOnes.1) (State.isArrayOf_alike hZ.alike Ar_w_DigitOnes.2.1) Ar_w_DigitOnes.2.2 hin83 hat83 (g := (mkF m 83 #[.val (.int (-p0)), .val (.int (1 : Int32)), .val (.ref o2), .unset, .unset, .val (.int (0 : Int32)), .val (.int (0 : Int32))] [(.int (-(-p0))), (.ref w_DigitOnes), (.int (0 : Int32)), (.ref o2)])) rfl rfl (hb hby d12_83) _ k) ?_
  show Go p e below _ (T1.setTop (mkF m 84 #[.val (.int (-p0)), .val (.int (1 : Int32)), .val (.ref o2), .unset, .unset, .val (.int (0 : Int32)), .val (.int (0 : Int32))] [(.int e83), (.int (0 : Int32)), (.ref o2)]))
  obtain ⟨clt2, Art2, qt2, st2, nt2, Ht2, Gt2⟩ := id V_o2
  have hint2 : ¬ ((0 : Int32) < 0 ∨ clt2.slots.size ≤ ((0 : Int32)).toNatClampNeg) := inb_of st2 ⟨by decide, by decide⟩
  obtain ⟨T3, h3, X3, e3, W3, st3⟩ := stB X1 hx hZ e1 Art2 (j := (0 : Int32)) hint2 (g := (mkF m 84 #[.val (.int (-p0)), .val (.int (1 : Int32)), .val (.ref o2), .unset, .unset, .val (.int (0 : Int32)), .val (.int (0 : Int32))] [(.int e83), (.int (0 : Int32)), (.ref o2)])) rfl rfl (hb hby d12_84)
  refine Go.of st3 ?_
  have N3 := Fr.snoc X3 N0 g_o2
  have K3 : Keep h0 h3 [o2] := ((Keep.refl h0 [o2])).wr W3 (Or.inl (List.mem_of_getElem? (i := 0) rfl))
  have Z3 : n0 ≤ h3.size := Nat.le_trans Z0 (Keep.of_wr W3).1
  have V3 : Arv Z h3 o2 kv .byte (1 : Int32) [(.int e83.toInt8.toInt32)] (.int (0 : Int32)) := Arv.set Art2 qt2 st2 nt2 Ht2 Gt2 (fits_nar_byte _) W3 0 rfl (Nat.le_of_ble_eq_true rfl)
  show Go p e below _ (T3.setTop (mkF m 85 #[.val (.int (-p0)), .val (.int (1 : Int32)), .val (.ref o2), .unset, .unset, .val (.int (0 : Int32)), .val (.int (0 : Int32))] []))
  refine Go.of (fun _ k => XS.iloadN X3.here hx rfl (hb hby d12_85) rfl  k) ?_
  show Go p e below _ (T3.setTop (mkF m 86 #[.val (.int (-p0)), .val (.int (1 : Int32)), .val (.ref o2), .unset, .unset, .val (.int (0 : Int32)), .val (.int (0 : Int32))] [(.int (-p0))]))
  refine Go.of (fun _ k => XS.bipush X3.here hx rfl (hb hby d12_86) k) ?_
  show Go p e below _ (T3.setTop (mkF m 88 #[.val (.int (-p0)), .val (.int (1 : Int32)), .val (.ref o2), .unset, .unset, .val (.int (0 : Int32)), .val (.int (0 : Int32))] [(.int (-9 : Int32)), (.int (-p0))]))
  refine Go.of (fun _ k => XS.icmpYes X3.here hx rfl (pc0 := 88) (pc' := 104) rfl (hb hby d12_88) rfl (flt hc88).2.1 (by decide) (by decide) k) ?_
  show Go p e below _ (T3.setTop (mkF m 104 #[.val (.int (-p0)), .val (.int (1 : Int32)), .val (.ref o2), .unset, .unset, .val (.int (0 : Int32)), .val (.int (0 : Int32))] []))
  refine Go.of (fun _ k => XS.iload X3.here hx rfl (hb hby d12_104) rfl  k) ?_
  show Go p e below _ (T3.setTop (mkF m 106 #[.val (.int (-p0)), .val (.int (1 : Int32)), .val (.ref o2), .unset, .unset, .val (.int (0 : Int32)), .val (.int (0 : Int32))] [(.int (0 : Int32))]))
  refine Go.of (fun _ k => XS.ifYes X3.here hx rfl (pc0 := 106) (pc' := 118) rfl (hb hby d12_106) rfl ((if0 _ _).trans (teq (by decide : (0 : Int32) = (0 : Int32))).1) (by decide) (by decide) k) ?_
  show Go p e below _ (T3.setTop (mkF m 118 #[.val (.int (-p0)), .val (.int (1 : Int32)), .val (.ref o2), .unset, .unset, .val (.int (0 : Int32)), .val (.int (0 : Int32))] []))
  refine Go.of (fun _ k => XS.iload X3.here hx rfl (hb hby d12_118) rfl  k) ?_
  show Go p e below _ (T3.setTop (mkF m 120 #[.val (.int (-p0)), .val (.int (1 : Int32)), .val (.ref o2), .unset, .unset, .val (.int (0 : Int32)), .val (.int (0 : Int32))] [(.int (0 : Int32))]))
  obtain ⟨fs, hr, hrun, hended, hW, hsame⟩ := X3.leave (v := some (.int (0 : Int32))) (fun h => by rw [Bd.returns] at h; cases h)
  refine Go.mk _ _ ?_ hrun hended ⟨_, _, rfl, ?_, ⟨_, rfl⟩, hW, hsame.mono (by decide) (by decide)⟩
  · exact retI X3 hx Bd.returns (hb hby d12_120) hr
  · show Q12_1n Z p0 o2 w_DigitOnes cl_w_DigitOnes e83 kv h0 n0 _ T3.heap _
    rw [e3]
    exact ⟨rfl, N3, K3, V3⟩
theorem d10_0 : decode jdk_68_method_9_code 0 = .ok (.aload_n 0, 1) := by decide +kernel
theorem d10_1 : decode jdk_68_method_9_code 1 = .ok (.getfield 15, 3) := by decide +kernel
theorem d10_4 : decode jdk_68_method_9_code 4 = .ok (.arraylength, 1) := by decide +kernel
theorem d10_5 : decode jdk_68_method_9_code 5 = .ok (.aload_n 0, 1) := by decide +kernel
theorem d10_6 : decode jdk_68_method_9_code 6 = .ok (.getfield 22, 3) := by decide +kernel
theorem d10_9 : decode jdk_68_method_9_code 9 = .ok (.ishr, 1) := by decide +kernel
theorem d10_10 : decode jdk_68_method_9_code 10 = .ok (.istore_n 2, 1) := by decide +kernel
theorem d10_11 : decode jdk_68_method_9_code 11 = .ok (.iload_n 1, 1) := by decide +kernel
theorem d10_12 : decode jdk_68_method_9_code 12 = .ok (.iload_n 2, 1) := by decide +kernel
theorem d10_13 : decode jdk_68_method_9_code 13 = .ok (.isub, 1) := by decide +kernel
theorem d10_14 : decode jdk_68_method_9_code 14 = .ok (.ifCond .le 24, 3) := by decide +kernel
theorem d10_38 : decode jdk_68_method_9_code 38 = .ok (.return_, 1) := by decide +kernel
theorem ef_10l1_1 (m : MethodId) (x0 : Addr) : entryFrame m #[(.ref x0), (.int (1 : Int32))] 3 = mkF m 0 #[.val (.ref x0), .val (.int (1 : Int32)), .unset] [] := by first | (simp [entryFrame, mkF, argsToLocals, Value.category]; done) | rfl
def Q10_1 (Z : State) (o0 : Addr) (f_o0_value : Addr) (kv : ClassId) (h0 : Heap) (n0 : Nat) (v : Option Value) (h : Heap) (L : List Loc) : Prop := v = none ∧ Fr n0 L ∧ h = h0
set_option maxRecDepth 65536 in
set_option maxHeartbeats 40000000 in
theorem rm10_1 (l : Launch) (Z : State) (a0 : Array Value) (hw : ∀ d ∈ tables_1, d.before a0 Z = true) (ws : List Jvm.Cond) (o0 : Addr) (f_o0_value : Addr) (kv : ClassId) (h0 : Heap) (n0 : Nat) (Z0 : n0 ≤ h0.size) (F_o0_value : Fld Z h0 o0 "java/lang/AbstractStringBuilder" "value" "[B" (.ref f_o0_value)) (V_f_o0_value : Arv Z h0 f_o0_value kv .byte (16 : Int32) [(.int (0 : Int32)), (.int (0 : Int32)), (.int (0 : Int32)), (.int (0 : Int32)), (.int (0 : Int32)), (.int (0 : Int32)), (.int (0 : Int32)), (.int (0 : Int32)), (.int (0 : Int32)), (.int (0 : Int32)), (.int (0 : Int32)), (.int (0 : Int32)), (.int (0 : Int32)), (.int (0 : Int32)), (.int (0 : Int32)), (.int (0 : Int32))] (.int (0 : Int32))) (F_o0_coder : Fld Z h0 o0 "java/lang/AbstractStringBuilder" "coder" "B" (.int (0 : Int32))) :
    MetFree l (⟨"java/lang/AbstractStringBuilder", "ensureCapacityInternal", "(I)V"⟩ : MethodName) (head1 (Jvm.Cond.code (⟨"java/lang/AbstractStringBuilder", "ensureCapacityInternal", "(I)V"⟩ : MethodName) jdk_68_method_9_code 3 none :: ws) ({ frames := 0, cells := 0, slots := 0, locals := 0 } : Room)) (fun a U => a = #[(.ref o0), (.int (1 : Int32))] ∧ Z.Warmed39 U.vm ∧ U.heap = h0) (fun _ _ _ _ _ => True) (fun _ U o U' => ∃ v L, o = .returned v ∧ Q10_1 Z o0 f_o0_value kv h0 n0 v U'.heap L ∧ FrameEnd U o U' L ({ frames := 0, cells := 0, slots := 0, locals := 0 } : Room).cells ({ frames := 0, cells := 0, slots := 0, locals := 0 } : Room).slots) := by
  refine MetFree.of_bodySF (plainFor_of_name pn_java_lang_AbstractStringBuilder) hisR ?_
  intro p e s m args below meth c s₁ Bd hml0 hP hK
  obtain ⟨rfl, hZ, hh⟩ := hP
  have hx := Bd.exec
  have hby := Bd.bytes
  have hml : c.maxLocals = 3 := hml0
  have hown : s.vm.findClass "java/lang/AbstractStringBuilder" = some m.cls := findClass_of_methodNamed Bd.named
  have hnm := (name_of_methodNamed Bd.named Bd.method).1
  have X0 : Stand p l e ({ frames := 0, cells := 0, slots := 0, locals := 0 } : Room) s m #[(.ref o0), (.int (1 : Int32))] below meth c s₁ [] 0 0 := Stand.of_body Bd
  have e0 : s₁.heap = h0 := by rw [← hh, Bd.state]; rfl
  have N0 := Fr.nil n0
  show Go p e below (fun o U' => ∃ v L, o = .returned v ∧ Q10_1 Z o0 f_o0_value kv h0 n0 v U'.heap L ∧ FrameEnd s o U' L ({ frames := 0, cells := 0, slots := 0, locals := 0 } : Room).cells ({ frames := 0, cells := 0, slots := 0, locals := 0 } : Room).slots) (s₁.setTop (entryFrame m #[(.ref o0), (.int (1 : Int32))] 3))
  refine Go.of (fun _ k => castTop (ef_10l1_1 m o0) k) ?_
  show Go p e below _ (s₁.setTop (mkF m 0 #[.val (.ref o0), .val (.int (1 : Int32)), .unset] []))
  refine Go.of (fun _ k => XS.aloadN X0.here hx rfl (hb hby d10_0) rfl rfl k) ?_
  show Go p e below _ (s₁.setTop (mkF m 1 #[.val (.ref o0), .val (.int (1 : Int32)), .unset] [(.ref o0)]))
  obtain ⟨T1, X1, e1, st1⟩ := getF X0 hx hZ hown (host := "") (Or.inl (hw _ (List.mem_of_getElem? (i := 40) rfl))) Via.refl e0 F_o0_value (g := (mkF m 1 #[.val (.ref o0), .val (.int (1 : Int32)), .unset] [(.ref o0)])) rfl rfl (hb hby d10_1)
  refine Go.of st1 ?_
  show Go p e below _ (T1.setTop (mkF m 4 #[.val (.ref o0), .val (.int (1 : Int32)), .unset] [(.ref f_o0_value)]))
  obtain ⟨clt2, Art2, qt2, st2, nt2, Ht2, Gt2⟩ := id V_f_o0_value
  refine Go.of (fun _ k => X1.arraylength hx (by rw [e1]; exact Art2.1) (State.isArrayOf_alike hZ.alike Art2.2.1) (g := (mkF m 4 #[.val (.ref o0), .val (.int (1 : Int32)), .unset] [(.ref f_o0_value)])) rfl rfl (hb hby d10_4) _ k) ?_
  rw [len_of st2 nt2]
  show Go p e below _ (T1.setTop (mkF m 5 #[.val (.ref o0), .val (.int (1 : Int32)), .unset] [(.int (16 : Int32))]))
  refine Go.of (fun _ k => XS.aloadN X1.here hx rfl (hb hby d10_5) rfl rfl k) ?_
  show Go p e below _ (T1.setTop (mkF m 6 #[.val (.ref o0), .val (.int (1 : Int32)), .unset] [(.ref o0), (.int (16 : Int32))]))
  obtain ⟨T3, X3, e3, st3⟩ := getF X1 hx hZ hown (host := "") (Or.inl (hw _ (List.mem_of_getElem? (i := 42) rfl))) Via.refl e1 F_o0_coder (g := (mkF m 6 #[.val (.ref o0), .val (.int (1 : Int32)), .unset] [(.ref o0), (.int (16 : Int32))])) rfl rfl (hb hby d10_6)
  refine Go.of st3 ?_
  show Go p e below _ (T3.setTop (mkF m 9 #[.val (.ref o0), .val (.int (1 : Int32)), .unset] [(.int (0 : Int32)), (.int (16 : Int32))]))
  refine Go.of (fun _ k => XS.ishr X3.here hx rfl (hb hby d10_9) rfl k) ?_
  show Go p e below _ (T3.setTop (mkF m 10 #[.val (.ref o0), .val (.int (1 : Int32)), .unset] [(.int (16 : Int32))]))
  refine Go.of (fun _ k => XS.istoreN X3.here hx rfl (hb hby d10_10) rfl (l' := #[.val (.ref o0), .val (.int (1 : Int32)), .val (.int (16 : Int32))]) rfl k) ?_
  show Go p e below _ (T3.setTop (mkF m 11 #[.val (.ref o0), .val (.int (1 : Int32)), .val (.int (16 : Int32))] []))
  refine Go.of (fun _ k => XS.iloadN X3.here hx rfl (hb hby d10_11) rfl  k) ?_
  show Go p e below _ (T3.setTop (mkF m 12 #[.val (.ref o0), .val (.int (1 : Int32)), .val (.int (16 : Int32))] [(.int (1 : Int32))]))
  refine Go.of (fun _ k => XS.iloadN X3.here hx rfl (hb hby d10_12) rfl  k) ?_
  show Go p e below _ (T3.setTop (mkF m 13 #[.val (.ref o0), .val (.int (1 : Int32)), .val (.int (16 : Int32))] [(.int (16 : Int32)), (.int (1 : Int32))]))
  refine Go.of (fun _ k => XS.isub X3.here hx rfl (hb hby d10_13) rfl k) ?_
  show Go p e below _ (T3.setTop (mkF m 14 #[.val (.ref o0), .val (.int (1 : Int32)), .val (.int (16 : Int32))] [(.int (-15 : Int32))]))
  refine Go.of (fun _ k => XS.ifYes X3.here hx rfl (pc0 := 14) (pc' := 38) rfl (hb hby d10_14) rfl ((if0 _ _).trans (flt (by decide : ¬ ((0 : Int32) < (-15 : Int32)))).2.2.2) (by decide) (by decide) k) ?_
  show Go p e below _ (T3.setTop (mkF m 38 #[.val (.ref o0), .val (.int (1 : Int32)), .val (.int (16 : Int32))] []))
  obtain ⟨fs, hr, hrun, hended, hW, hsame⟩ := X3.leave (v := none) (fun _ => rfl)
  refine Go.mk _ _ ?_ hrun hended ⟨_, _, rfl, ?_, ⟨_, rfl⟩, hW, hsame.mono (by decide) (by decide)⟩
  · exact X3.returnOut hx Bd.returns (hb hby d10_38) hr
  · show Q10_1 Z o0 f_o0_value kv h0 n0 _ T3.heap _
    rw [e3]
    exact ⟨rfl, N0, rfl⟩
theorem d8_0 : decode jdk_68_method_32_code 0 = .ok (.aload_n 0, 1) := by decide +kernel
theorem d8_1 : decode jdk_68_method_32_code 1 = .ok (.getfield 79, 3) := by decide +kernel
theorem d8_4 : decode jdk_68_method_32_code 4 = .ok (.istore_n 2, 1) := by decide +kernel
theorem d8_5 : decode jdk_68_method_32_code 5 = .ok (.iload_n 2, 1) := by decide +kernel
theorem d8_6 : decode jdk_68_method_32_code 6 = .ok (.iload_n 1, 1) := by decide +kernel
theorem d8_7 : decode jdk_68_method_32_code 7 = .ok (.invokestatic 245, 3) := by decide +kernel
theorem pd_1 : parseMethodDescriptor "(I)I" = some ⟨[.int], some .int⟩ := by decide +kernel
theorem d8_10 : decode jdk_68_method_32_code 10 = .ok (.iadd, 1) := by decide +kernel
theorem d8_11 : decode jdk_68_method_32_code 11 = .ok (.istore_n 3, 1) := by decide +kernel
theorem d8_12 : decode jdk_68_method_32_code 12 = .ok (.aload_n 0, 1) := by decide +kernel
theorem d8_13 : decode jdk_68_method_32_code 13 = .ok (.iload_n 3, 1) := by decide +kernel
theorem d8_14 : decode jdk_68_method_32_code 14 = .ok (.invokevirtual 100, 3) := by decide +kernel
theorem d8_17 : decode jdk_68_method_32_code 17 = .ok (.aload_n 0, 1) := by decide +kernel
theorem d8_18 : decode jdk_68_method_32_code 18 = .ok (.invokevirtual 83, 3) := by decide +kernel
theorem pd_2 : parseMethodDescriptor "()Z" = some ⟨[], some .boolean⟩ := by decide +kernel
theorem d8_21 : decode jdk_68_method_32_code 21 = .ok (.ifCond .eq 16, 3) := by decide +kernel
theorem d8_24 : decode jdk_68_method_32_code 24 = .ok (.iload_n 1, 1) := by decide +kernel
theorem d8_25 : decode jdk_68_method_32_code 25 = .ok (.iload_n 3, 1) := by decide +kernel
theorem d8_26 : decode jdk_68_method_32_code 26 = .ok (.aload_n 0, 1) := by decide +kernel
theorem d8_27 : decode jdk_68_method_32_code 27 = .ok (.getfield 15, 3) := by decide +kernel
theorem d8_30 : decode jdk_68_method_32_code 30 = .ok (.invokestatic 248, 3) := by decide +kernel
theorem pd_3 : parseMethodDescriptor "(II[B)I" = some ⟨[.int, .int, (.array .byte)], some .int⟩ := by decide +kernel
theorem d8_33 : decode jdk_68_method_32_code 33 = .ok (.pop, 1) := by decide +kernel
theorem d8_34 : decode jdk_68_method_32_code 34 = .ok (.goto 14, 3) := by decide +kernel
theorem d8_48 : decode jdk_68_method_32_code 48 = .ok (.aload_n 0, 1) := by decide +kernel
theorem d8_49 : decode jdk_68_method_32_code 49 = .ok (.iload_n 3, 1) := by decide +kernel
theorem d8_50 : decode jdk_68_method_32_code 50 = .ok (.putfield 79, 3) := by decide +kernel
theorem d8_53 : decode jdk_68_method_32_code 53 = .ok (.aload_n 0, 1) := by decide +kernel
theorem d8_54 : decode jdk_68_method_32_code 54 = .ok (.areturn, 1) := by decide +kernel
theorem ef_8 (m : MethodId) (x0 : Addr) (x1 : Int32) : entryFrame m #[(.ref x0), (.int x1)] 4 = mkF m 0 #[.val (.ref x0), .val (.int x1), .unset, .unset] [] := by first | (simp [entryFrame, mkF, argsToLocals, Value.category]; done) | rfl
def Q8_1 (Z : State) (o0 : Addr) (p1 : Int32) (f_o0_value : Addr) (kv : ClassId) (w_COMPACT_STRINGS : Int32) (e83_30 : Int32) (w_DigitOnes : Addr) (cl_w_DigitOnes : Cell) (h0 : Heap) (n0 : Nat) (v : Option Value) (h : Heap) (L : List Loc) : Prop := v = some (.ref o0) ∧ Fr n0 L ∧ Keep h0 h [f_o0_value, o0] ∧ Arv Z h f_o0_value kv .byte (16 : Int32) [(.int e83_30.toInt8.toInt32), (.int (0 : Int32)), (.int (0 : Int32)), (.int (0 : Int32)), (.int (0 : Int32)), (.int (0 : Int32)), (.int (0 : Int32)), (.int (0 : Int32)), (.int (0 : Int32)), (.int (0 : Int32)), (.int (0 : Int32)), (.int (0 : Int32)), (.int (0 : Int32)), (.int (0 : Int32)), (.int (0 : Int32)), (.int (0 : Int32))] (.int (0 : Int32)) ∧ Exa Z h o0 "java/lang/StringBuilder" ∧ Fld Z h o0 "java/lang/AbstractStringBuilder" "coder" "B" (.int (0 : Int32)) ∧ Fld Z h o0 "java/lang/AbstractStringBuilder" "count" "I" (.int (1 : Int32)) ∧ Fld Z h o0 "java/lang/AbstractStringBuilder" "value" "[B" (.ref f_o0_value)
set_option maxRecDepth 65536 in
set_option maxHeartbeats 40000000 in
theorem rm8_1 (l : Launch) (Z : State) (a0 : Array Value) (hw : ∀ d ∈ tables_1, d.before a0 Z = true) (ws : List Jvm.Cond) (o0 : Addr) (p1 : Int32) (f_o0_value : Addr) (kv : ClassId) (w_COMPACT_STRINGS : Int32) (e83_30 : Int32) (w_DigitOnes : Addr) (cl_w_DigitOnes : Cell) (h0 : Heap) (n0 : Nat) (Z0 : n0 ≤ h0.size) (F_o0_count : Fld Z h0 o0 "java/lang/AbstractStringBuilder" "count" "I" (.int (0 : Int32))) (hc3_2 : ¬ (p1 < (0 : Int32))) (hc24_2 : (-10 : Int32) < (-p1)) (F_o0_value : Fld Z h0 o0 "java/lang/AbstractStringBuilder" "value" "[B" (.ref f_o0_value)) (V_f_o0_value : Arv Z h0 f_o0_value kv .byte (16 : Int32) [(.int (0 : Int32)), (.int (0 : Int32)), (.int (0 : Int32)), (.int (0 : Int32)), (.int (0 : Int32)), (.int (0 : Int32)), (.int (0 : Int32)), (.int (0 : Int32)), (.int (0 : Int32)), (.int (0 : Int32)), (.int (0 : Int32)), (.int (0 : Int32)), (.int (0 : Int32)), (.int (0 : Int32)), (.int (0 : Int32)), (.int (0 : Int32))] (.int (0 : Int32))) (F_o0_coder : Fld Z h0 o0 "java/lang/AbstractStringBuilder" "coder" "B" (.int (0 : Int32))) (E_o0 : Exa Z h0 o0 "java/lang/StringBuilder") (S_COMPACT_STRINGS : Sta Z h0 "java/lang/String" "COMPACT_STRINGS" "Z" (.int w_COMPACT_STRINGS)) (hc3_4 : ¬ (w_COMPACT_STRINGS = (0 : Int32))) (hc25_6 : (-100 : Int32) < (-p1)) (S_DigitOnes : Sta Z h0 "java/lang/Integer" "DigitOnes" "[B" (.ref w_DigitOnes)) (Ar_w_DigitOnes : Arr Z h0 w_DigitOnes cl_w_DigitOnes .byte) (hin83_6 : ¬ ((-(-p1)) < 0 ∨ cl_w_DigitOnes.slots.size ≤ ((-(-p1))).toNatClampNeg)) (hat83_6 : cl_w_DigitOnes.slots[((-(-p1))).toNatClampNeg]? = some (.int e83_30)) (g_f_o0_value : n0 ≤ f_o0_value) (hc88_6 : ¬ ((-p1) < (-9 : Int32))) (ne_f_o0_value_o0 : f_o0_value ≠ o0) (g_o0 : n0 ≤ o0) :
    MetFree l (⟨"java/lang/AbstractStringBuilder", "append", "(I)Ljava/lang/AbstractStringBuilder;"⟩ : MethodName) (head1 (Jvm.Cond.code (⟨"java/lang/AbstractStringBuilder", "append", "(I)Ljava/lang/AbstractStringBuilder;"⟩ : MethodName) jdk_68_method_32_code 4 (some (.object "java/lang/AbstractStringBuilder")) :: ws) ({ frames := 1, cells := 0, slots := 0, locals := 18 } : Room)) (fun a U => a = #[(.ref o0), (.int p1)] ∧ Z.Warmed39 U.vm ∧ U.heap = h0) (fun _ _ _ _ _ => True) (fun _ U o U' => ∃ v L, o = .returned v ∧ Q8_1 Z o0 p1 f_o0_value kv w_COMPACT_STRINGS e83_30 w_DigitOnes cl_w_DigitOnes h0 n0 v U'.heap L ∧ FrameEnd U o U' L ({ frames := 1, cells := 0, slots := 0, locals := 18 } : Room).cells ({ frames := 1, cells := 0, slots := 0, locals := 18 } : Room).slots) := by
  refine MetFree.of_bodySF (plainFor_of_name pn_java_lang_AbstractStringBuilder) hisR ?_
  intro p e s m args below meth c s₁ Bd hml0 hP hK
  obtain ⟨rfl, hZ, hh⟩ := hP
  have hx := Bd.exec
  have hby := Bd.bytes
  have hml : c.maxLocals = 4 := hml0
  have hown : s.vm.findClass "java/lang/AbstractStringBuilder" = some m.cls := findClass_of_methodNamed Bd.named
  have hnm := (name_of_methodNamed Bd.named Bd.method).1
  have X0 : Stand p l e ({ frames := 1, cells := 0, slots := 0, locals := 18 } : Room) s m #[(.ref o0), (.int p1)] below meth c s₁ [] 0 0 := Stand.of_body Bd
  have e0 : s₁.heap = h0 := by rw [← hh, Bd.state]; rfl
  have N0 := Fr.nil n0
  show Go p e below (fun o U' => ∃ v L, o = .returned v ∧ Q8_1 Z o0 p1 f_o0_value kv w_COMPACT_STRINGS e83_30 w_DigitOnes cl_w_DigitOnes h0 n0 v U'.heap L ∧ FrameEnd s o U' L ({ frames := 1, cells := 0, slots := 0, locals := 18 } : Room).cells ({ frames := 1, cells := 0, slots := 0, locals := 18 } : Room).slots) (s₁.setTop (entryFrame m #[(.ref o0), (.int p1)] 4))
  refine Go.of (fun _ k => castTop (ef_8 m o0 p1) k) ?_
  show Go p e below _ (s₁.setTop (mkF m 0 #[.val (.ref o0), .val (.int p1), .unset, .unset] []))
  refine Go.of (fun _ k => XS.aloadN X0.here hx rfl (hb hby d8_0) rfl rfl k) ?_
  show Go p e below _ (s₁.setTop (mkF m 1 #[.val (.ref o0), .val (.int p1), .unset, .unset] [(.ref o0)]))
  obtain ⟨T1, X1, e1, st1⟩ := getF X0 hx hZ hown (host := "") (Or.inl (hw _ (List.mem_of_getElem? (i := 54) rfl))) Via.refl e0 F_o0_count (g := (mkF m 1 #[.val (.ref o0), .val (.int p1), .unset, .unset] [(.ref o0)])) rfl rfl (hb hby d8_1)
  refine Go.of st1 ?_
  show Go p e below _ (T1.setTop (mkF m 4 #[.val (.ref o0), .val (.int p1), .unset, .unset] [(.int (0 : Int32))]))
  refine Go.of (fun _ k => XS.istoreN X1.here hx rfl (hb hby d8_4) rfl (l' := #[.val (.ref o0), .val (.int p1), .val (.int (0 : Int32)), .unset]) rfl k) ?_
  show Go p e below _ (T1.setTop (mkF m 5 #[.val (.ref o0), .val (.int p1), .val (.int (0 : Int32)), .unset] []))
  refine Go.of (fun _ k => XS.iloadN X1.here hx rfl (hb hby d8_5) rfl  k) ?_
  show Go p e below _ (T1.setTop (mkF m 6 #[.val (.ref o0), .val (.int p1), .val (.int (0 : Int32)), .unset] [(.int (0 : Int32))]))
  refine Go.of (fun _ k => XS.iloadN X1.here hx rfl (hb hby d8_6) rfl  k) ?_
  show Go p e below _ (T1.setTop (mkF m 7 #[.val (.ref o0), .val (.int p1), .val (.int (0 : Int32)), .unset] [(.int p1), (.int (0 : Int32))]))
  obtain ⟨_, _, ⟨T2, L2, k2, n2⟩, -, X2, ⟨Lc2, hQ2, l2, y2, z2⟩, st2⟩ := Jvm.LawKit.callS X1 hx (y := (⟨"java/lang/Integer", "stringSize", "(I)I"⟩ : MethodName)) hown (mvT hZ (hw _ (List.mem_of_getElem? (i := 56) rfl))) (mvT hZ (hw _ (List.mem_of_getElem? (i := 57) rfl))) (mvT hZ (hw _ (List.mem_of_getElem? (i := 58) rfl))) (mvT hZ (hw _ (List.mem_of_getElem? (i := 59) rfl))) (by decide) (backOf (W := 1) (rm9_1 l Z a0 hw [] p1 h0 n0 Z0 hc3_2 hc24_2) hZ (hw _ (List.mem_of_getElem? (i := 59) rfl)) (hw _ (List.mem_of_getElem? (i := 58) rfl)) (by decide) (by decide)) (g := (mkF m 7 #[.val (.ref o0), .val (.int p1), .val (.int (0 : Int32)), .unset] [(.int p1), (.int (0 : Int32))])) rfl (by rw [hml]; rfl) (argsL := [(.int p1)]) (rest := [(.int (0 : Int32))]) (lenOf pd_1 rfl) rfl (by show 2 * 0 + _ ≤ _; exact Nat.le_of_eq rfl) (hb hby d8_7) (fun _ _ => ⟨rfl, e1, (by decide : 0 + 0 ≤ _), (by decide : 0 + 0 ≤ _)⟩)
  dsimp only [Pt.U, Pt.locs, Pt.cells, Pt.slots] at X2 l2 y2 z2 st2 hQ2
  subst l2 y2 z2
  obtain ⟨rfl, Nq2, q2_0⟩ := hQ2
  have N2 := Fr.app N0 Nq2
  refine Go.of st2 ?_
  show Go p e below _ (T2.setTop (mkF m 10 #[.val (.ref o0), .val (.int p1), .val (.int (0 : Int32)), .unset] [(.int (1 : Int32)), (.int (0 : Int32))]))
  refine Go.of (fun _ k => XS.iadd X2.here hx rfl (hb hby d8_10) rfl k) ?_
  show Go p e below _ (T2.setTop (mkF m 11 #[.val (.ref o0), .val (.int p1), .val (.int (0 : Int32)), .unset] [(.int (1 : Int32))]))
  refine Go.of (fun _ k => XS.istoreN X2.here hx rfl (hb hby d8_11) rfl (l' := #[.val (.ref o0), .val (.int p1), .val (.int (0 : Int32)), .val (.int (1 : Int32))]) rfl k) ?_
  show Go p e below _ (T2.setTop (mkF m 12 #[.val (.ref o0), .val (.int p1), .val (.int (0 : Int32)), .val (.int (1 : Int32))] []))
  refine Go.of (fun _ k => XS.aloadN X2.here hx rfl (hb hby d8_12) rfl rfl k) ?_
  show Go p e below _ (T2.setTop (mkF m 13 #[.val (.ref o0), .val (.int p1), .val (.int (0 : Int32)), .val (.int (1 : Int32))] [(.ref o0)]))
  refine Go.of (fun _ k => XS.iloadN X2.here hx rfl (hb hby d8_13) rfl  k) ?_
  show Go p e below _ (T2.setTop (mkF m 14 #[.val (.ref o0), .val (.int p1), .val (.int (0 : Int32)), .val (.int (1 : Int32))] [(.int (1 : Int32)), (.ref o0)]))
  obtain ⟨cq3, q3, q3'⟩ := E_o0.cell
  obtain ⟨_, _, ⟨T3, L3, k3, n3⟩, -, X3, ⟨Lc3, hQ3, l3, y3, z3⟩, st3⟩ := X2.privateBack hx (y := (⟨"java/lang/AbstractStringBuilder", "ensureCapacityInternal", "(I)V"⟩ : MethodName)) hown (mvT hZ (hw _ (List.mem_of_getElem? (i := 60) rfl))) (mvT hZ (hw _ (List.mem_of_getElem? (i := 61) rfl))) (own_selpriv (mvT hZ (hw _ (List.mem_of_getElem? (i := 63) rfl))) (Cond.privateMethod_at (mvP hZ (hw _ (List.mem_of_getElem? (i := 62) rfl)) (args := #[]))) (mvT hZ (hw _ (List.mem_of_getElem? (i := 61) rfl))) (by decide)) (Cond.privateMethod_at (mvP hZ (hw _ (List.mem_of_getElem? (i := 62) rfl)) (args := #[]))) (mvT hZ (hw _ (List.mem_of_getElem? (i := 64) rfl))) (by decide) (backOf (W := 0) (rm10_1 l Z a0 hw [] o0 f_o0_value kv h0 n0 Z0 F_o0_value V_f_o0_value F_o0_coder) hZ (hw _ (List.mem_of_getElem? (i := 64) rfl)) (hw _ (List.mem_of_getElem? (i := 34) rfl)) (by decide) (by decide)) (g := (mkF m 14 #[.val (.ref o0), .val (.int p1), .val (.int (0 : Int32)), .val (.int (1 : Int32))] [(.int (1 : Int32)), (.ref o0)])) rfl (by rw [hml]; rfl) (Steps.refl _) (a := o0) (by rw [q2_0]; exact q3) q3' (argsL := [(.int (1 : Int32))]) (rest := []) (lenOf pd_0 rfl) rfl (by show 2 * 0 + _ ≤ _; exact Nat.le_of_eq rfl) (hb hby d8_14) (fun _ _ => ⟨rfl, q2_0, (by decide : 0 + 0 ≤ _), (by decide : 0 + 0 ≤ _)⟩)
  dsimp only [Pt.U, Pt.locs, Pt.cells, Pt.slots] at X3 l3 y3 z3 st3 hQ3
  subst l3 y3 z3
  obtain ⟨rfl, Nq3, q3_0⟩ := hQ3
  have N3 := Fr.app N2 Nq3
  refine Go.tr st3 ?_
  show Go p e below _ (T3.setTop (mkF m 17 #[.val (.ref o0), .val (.int p1), .val (.int (0 : Int32)), .val (.int (1 : Int32))] []))
  refine Go.of (fun _ k => XS.aloadN X3.here hx rfl (hb hby d8_17) rfl rfl k) ?_
  show Go p e below _ (T3.setTop (mkF m 18 #[.val (.ref o0), .val (.int p1), .val (.int (0 : Int32)), .val (.int (1 : Int32))] [(.ref o0)]))
  obtain ⟨cq4, kq4, q4a, q4b, q4c⟩ := isOf hZ q3_0 E_o0
  obtain ⟨_, _, ⟨T4, L4, k4, n4⟩, -, X4, ⟨Lc4, hQ4, l4, y4, z4⟩, st4⟩ := X3.virtualBack hx (y := (⟨"java/lang/AbstractStringBuilder", "isLatin1", "()Z"⟩ : MethodName)) (z := (⟨"java/lang/AbstractStringBuilder", "isLatin1", "()Z"⟩ : MethodName)) hown (mvT hZ (hw _ (List.mem_of_getElem? (i := 65) rfl))) (mvT hZ (hw _ (List.mem_of_getElem? (i := 66) rfl))) (notFace_of_selects (args := #[]) (mvT hZ (hw _ (List.mem_of_getElem? (i := 68) rfl)))) (mvT hZ (hw _ (List.mem_of_getElem? (i := 68) rfl))) (mvT hZ (hw _ (List.mem_of_getElem? (i := 67) rfl))) (by decide) (backOf (W := 0) (rm11 l Z a0 hw [] o0 w_COMPACT_STRINGS h0 n0 Z0 S_COMPACT_STRINGS hc3_4 F_o0_coder) hZ (hw _ (List.mem_of_getElem? (i := 69) rfl)) (hw _ (List.mem_of_getElem? (i := 34) rfl)) (by decide) (by decide)) q4a q4c (g := (mkF m 18 #[.val (.ref o0), .val (.int p1), .val (.int (0 : Int32)), .val (.int (1 : Int32))] [(.ref o0)])) rfl (by rw [hml]; rfl) (Steps.refl _) (argsL := []) (rest := []) (lenOf pd_2 rfl) rfl (by show 2 * 0 + _ ≤ _; exact Nat.le_of_eq rfl) (hb hby d8_18) (fun _ _ => ⟨rfl, q3_0, (by decide : 0 + 0 ≤ _), (by decide : 0 + 0 ≤ _)⟩)
  dsimp only [Pt.U, Pt.locs, Pt.cells, Pt.slots] at X4 l4 y4 z4 st4 hQ4
  subst l4 y4 z4
  obtain ⟨rfl, Nq4, q4_0⟩ := hQ4
  have N4 := Fr.app N3 Nq4
  refine Go.tr st4 ?_
  show Go p e below _ (T4.setTop (mkF m 21 #[.val (.ref o0), .val (.int p1), .val (.int (0 : Int32)), .val (.int (1 : Int32))] [(.int (1 : Int32))]))
  refine Go.of (fun _ k => XS.ifNo X4.here hx rfl (hb hby d8_21) rfl ((if0 _ _).trans (feq (by decide : ¬ ((1 : Int32) = (0 : Int32)))).1) k) ?_
  show Go p e below _ (T4.setTop (mkF m 24 #[.val (.ref o0), .val (.int p1), .val (.int (0 : Int32)), .val (.int (1 : Int32))] []))
  refine Go.of (fun _ k => XS.iloadN X4.here hx rfl (hb hby d8_24) rfl  k) ?_
  show Go p e below _ (T4.setTop (mkF m 25 #[.val (.ref o0), .val (.int p1), .val (.int (0 : Int32)), .val (.int (1 : Int32))] [(.int p1)]))
  refine Go.of (fun _ k => XS.iloadN X4.here hx rfl (hb hby d8_25) rfl  k) ?_
  show Go p e below _ (T4.setTop (mkF m 26 #[.val (.ref o0), .val (.int p1), .val (.int (0 : Int32)), .val (.int (1 : Int32))] [(.int (1 : Int32)), (.int p1)]))
  refine Go.of (fun _ k => XS.aloadN X4.here hx rfl (hb hby d8_26) rfl rfl k) ?_
  show Go p e below _ (T4.setTop (mkF m 27 #[.val (.ref o0), .val (.int p1), .val (.int (0 : Int32)), .val (.int (1 : Int32))] [(.ref o0), (.int (1 : Int32)), (.int p1)]))
  obtain ⟨T5, X5, e5, st5⟩ := getF X4 hx hZ hown (host := "") (Or.inl (hw _ (List.mem_of_getElem? (i := 40) rfl))) Via.refl q4_0 F_o0_value (g := (mkF m 27 #[.val (.ref o0), .val (.int p1), .val (.int (0 : Int32)), .val (.int (1 : Int32))] [(.ref o0), (.int (1 : Int32)), (.int p1)])) rfl rfl (hb hby d8_27)
  refine Go.of st5 ?_
  show Go p e below _ (T5.setTop (mkF m 30 #[.val (.ref o0), .val (.int p1), .val (.int (0 : Int32)), .val (.int (1 : Int32))] [(.ref f_o0_value), (.int (1 : Int32)), (.int p1)]))
  obtain ⟨_, _, ⟨T6, L6, k6, n6⟩, -, X6, ⟨Lc6, hQ6, l6, y6, z6⟩, st6⟩ := Jvm.LawKit.callS X5 hx (y := (⟨"java/lang/Integer", "getChars", "(II[B)I"⟩ : MethodName)) hown (mvT hZ (hw _ (List.mem_of_getElem? (i := 70) rfl))) (mvT hZ (hw _ (List.mem_of_getElem? (i := 71) rfl))) (mvT hZ (hw _ (List.mem_of_getElem? (i := 58) rfl))) (mvT hZ (hw _ (List.mem_of_getElem? (i := 72) rfl))) (by decide) (backOf (W := 0) (rm12_1w l Z a0 hw [] p1 f_o0_value w_DigitOnes cl_w_DigitOnes e83_30 kv h0 n0 Z0 hc3_2 hc25_6 S_DigitOnes Ar_w_DigitOnes hin83_6 hat83_6 V_f_o0_value g_f_o0_value hc88_6) hZ (hw _ (List.mem_of_getElem? (i := 72) rfl)) (hw _ (List.mem_of_getElem? (i := 58) rfl)) (by decide) (by decide)) (g := (mkF m 30 #[.val (.ref o0), .val (.int p1), .val (.int (0 : Int32)), .val (.int (1 : Int32))] [(.ref f_o0_value), (.int (1 : Int32)), (.int p1)])) rfl (by rw [hml]; rfl) (argsL := [(.int p1), (.int (1 : Int32)), (.ref f_o0_value)]) (rest := []) (lenOf pd_3 rfl) rfl (by show 2 * 0 + _ ≤ _; exact Nat.le_of_eq rfl) (hb hby d8_30) (fun _ _ => ⟨rfl, e5, (by decide : 0 + 0 ≤ _), (by decide : 0 + 0 ≤ _)⟩)
  dsimp only [Pt.U, Pt.locs, Pt.cells, Pt.slots] at X6 l6 y6 z6 st6 hQ6
  subst l6 y6 z6
  obtain ⟨rfl, Nq6, q6_0, q6_1⟩ := hQ6
  have N6 := Fr.app N4 Nq6
  refine Go.of st6 ?_
  have K6 : Keep h0 T6.heap [f_o0_value, o0] := ((Keep.refl h0 [f_o0_value, o0])).trans q6_0 (allS (Or.inl (List.mem_of_getElem? (i := 0) rfl)) all0)
  have Z6 : n0 ≤ T6.heap.size := Nat.le_trans Z0 q6_0.1
  show Go p e below _ (T6.setTop (mkF m 33 #[.val (.ref o0), .val (.int p1), .val (.int (0 : Int32)), .val (.int (1 : Int32))] [(.int (0 : Int32))]))
  refine Go.of (fun _ k => XS.pop X6.here hx rfl (hb hby d8_33) rfl rfl k) ?_
  show Go p e below _ (T6.setTop (mkF m 34 #[.val (.ref o0), .val (.int p1), .val (.int (0 : Int32)), .val (.int (1 : Int32))] []))
  refine Go.of (fun _ k => XS.goto X6.here hx rfl (pc0 := 34) (pc' := 48) rfl (hb hby d8_34) (by decide) (by decide) k) ?_
  show Go p e below _ (T6.setTop (mkF m 48 #[.val (.ref o0), .val (.int p1), .val (.int (0 : Int32)), .val (.int (1 : Int32))] []))
  refine Go.of (fun _ k => XS.aloadN X6.here hx rfl (hb hby d8_48) rfl rfl k) ?_
  show Go p e below _ (T6.setTop (mkF m 49 #[.val (.ref o0), .val (.int p1), .val (.int (0 : Int32)), .val (.int (1 : Int32))] [(.ref o0)]))
  refine Go.of (fun _ k => XS.iloadN X6.here hx rfl (hb hby d8_49) rfl  k) ?_
  show Go p e below _ (T6.setTop (mkF m 50 #[.val (.ref o0), .val (.int p1), .val (.int (0 : Int32)), .val (.int (1 : Int32))] [(.int (1 : Int32)), (.ref o0)]))
  have c7 : Fld Z T6.heap o0 "java/lang/AbstractStringBuilder" "count" "I" (.int (0 : Int32)) := (F_o0_count.keep q6_0 (ninS (Ne.symm ne_f_o0_value_o0) nin0))
  have c8 : Exa Z T6.heap o0 "java/lang/StringBuilder" := (E_o0.keep q6_0)
  obtain ⟨T9, h9, X9, e9, W9, st9⟩ := putF X6 hx hZ hown (host := "") (Or.inl (hw _ (List.mem_of_getElem? (i := 54) rfl))) Via.refl rfl c7 c8 (Or.inl (hw _ (List.mem_of_getElem? (i := 55) rfl))) (hw _ (List.mem_of_getElem? (i := 25) rfl)) (ty := .int) (by decide) rfl rfl (g := (mkF m 50 #[.val (.ref o0), .val (.int p1), .val (.int (0 : Int32)), .val (.int (1 : Int32))] [(.int (1 : Int32)), (.ref o0)])) rfl rfl (hb hby d8_50)
  refine Go.of st9 ?_
  have N9 := Fr.snoc X9 N6 g_o0
  have K9 : Keep h0 h9 [f_o0_value, o0] := (K6).wr W9 (Or.inl (List.mem_of_getElem? (i := 1) rfl))
  have Z9 : n0 ≤ h9.size := Nat.le_trans Z6 (Keep.of_wr W9).1
  have f10 : Fld Z h9 o0 "java/lang/AbstractStringBuilder" "count" "I" (.int (1 : Int32)) := Fld.same W9 c7
  show Go p e below _ (T9.setTop (mkF m 53 #[.val (.ref o0), .val (.int p1), .val (.int (0 : Int32)), .val (.int (1 : Int32))] []))
  refine Go.of (fun _ k => XS.aloadN X9.here hx rfl (hb hby d8_53) rfl rfl k) ?_
  show Go p e below _ (T9.setTop (mkF m 54 #[.val (.ref o0), .val (.int p1), .val (.int (0 : Int32)), .val (.int (1 : Int32))] [(.ref o0)]))
  have c12 : Arv Z h9 f_o0_value kv .byte (16 : Int32) [(.int e83_30.toInt8.toInt32), (.int (0 : Int32)), (.int (0 : Int32)), (.int (0 : Int32)), (.int (0 : Int32)), (.int (0 : Int32)), (.int (0 : Int32)), (.int (0 : Int32)), (.int (0 : Int32)), (.int (0 : Int32)), (.int (0 : Int32)), (.int (0 : Int32)), (.int (0 : Int32)), (.int (0 : Int32)), (.int (0 : Int32)), (.int (0 : Int32))] (.int (0 : Int32)) := (q6_1.other W9 ne_f_o0_value_o0)
  have c13 : Exa Z h9 o0 "java/lang/StringBuilder" := (Exa.wr W9 c8)
  have c14 : Fld Z T6.heap o0 "java/lang/AbstractStringBuilder" "coder" "B" (.int (0 : Int32)) := (F_o0_coder.keep q6_0 (ninS (Ne.symm ne_f_o0_value_o0) nin0))
  have c15 : Fld Z h9 o0 "java/lang/AbstractStringBuilder" "coder" "B" (.int (0 : Int32)) := (Fld.other W9 c14 (Or.inr (slot_ne (Or.inl (hw _ (List.mem_of_getElem? (i := 43) rfl))) (Or.inl (hw _ (List.mem_of_getElem? (i := 55) rfl))) (by decide) (t := .byte) (t' := .int) (by decide) (by decide))))
  have c16 : Fld Z T6.heap o0 "java/lang/AbstractStringBuilder" "value" "[B" (.ref f_o0_value) := (F_o0_value.keep q6_0 (ninS (Ne.symm ne_f_o0_value_o0) nin0))
  have c17 : Fld Z h9 o0 "java/lang/AbstractStringBuilder" "value" "[B" (.ref f_o0_value) := (Fld.other W9 c16 (Or.inr (slot_ne (Or.inl (hw _ (List.mem_of_getElem? (i := 41) rfl))) (Or.inl (hw _ (List.mem_of_getElem? (i := 55) rfl))) (by decide) (t := (.array .byte)) (t' := .int) (by decide) (by decide))))
  obtain ⟨fs, hr, hrun, hended, hW, hsame⟩ := X9.leave (v := some (.ref o0)) (fun h => by rw [Bd.returns] at h; cases h)
  refine Go.mk _ _ ?_ hrun hended ⟨_, _, rfl, ?_, ⟨_, rfl⟩, hW, hsame.mono (by decide) (by decide)⟩
  · exact retOut X9 hx Bd.returns rfl (Or.inr (Or.inr (Or.inr (Or.inr ⟨rfl, rfl, rfl⟩)))) (hb hby d8_54) hr
  · show Q8_1 Z o0 p1 f_o0_value kv w_COMPACT_STRINGS e83_30 w_DigitOnes cl_w_DigitOnes h0 n0 _ T9.heap _
    rw [e9]
    exact ⟨rfl, N9, K9, c12, c13, c15, f10, c17⟩
theorem d7_0 : decode jdk_67_method_15_code 0 = .ok (.aload_n 0, 1) := by decide +kernel
theorem d7_1 : decode jdk_67_method_15_code 1 = .ok (.iload_n 1, 1) := by decide +kernel
theorem d7_2 : decode jdk_67_method_15_code 2 = .ok (.invokespecial 53, 3) := by decide +kernel
theorem pd_4 : parseMethodDescriptor "(I)Ljava/lang/AbstractStringBuilder;" = some ⟨[.int], some (.object "java/lang/AbstractStringBuilder")⟩ := by decide +kernel
theorem d7_5 : decode jdk_67_method_15_code 5 = .ok (.pop, 1) := by decide +kernel
theorem d7_6 : decode jdk_67_method_15_code 6 = .ok (.aload_n 0, 1) := by decide +kernel
theorem d7_7 : decode jdk_67_method_15_code 7 = .ok (.areturn, 1) := by decide +kernel
theorem ef_7 (m : MethodId) (x0 : Addr) (x1 : Int32) : entryFrame m #[(.ref x0), (.int x1)] 2 = mkF m 0 #[.val (.ref x0), .val (.int x1)] [] := by first | (simp [entryFrame, mkF, argsToLocals, Value.category]; done) | rfl
def Q7_1 (Z : State) (o0 : Addr) (p1 : Int32) (e83_30_2 : Int32) (f_o0_value : Addr) (kv : ClassId) (w_COMPACT_STRINGS : Int32) (w_DigitOnes : Addr) (cl_w_DigitOnes : Cell) (h0 : Heap) (n0 : Nat) (v : Option Value) (h : Heap) (L : List Loc) : Prop := v = some (.ref o0) ∧ Fr n0 L ∧ Keep h0 h [f_o0_value, o0] ∧ Arv Z h f_o0_value kv .byte (16 : Int32) [(.int e83_30_2.toInt8.toInt32), (.int (0 : Int32)), (.int (0 : Int32)), (.int (0 : Int32)), (.int (0 : Int32)), (.int (0 : Int32)), (.int (0 : Int32)), (.int (0 : Int32)), (.int (0 : Int32)), (.int (0 : Int32)), (.int (0 : Int32)), (.int (0 : Int32)), (.int (0 : Int32)), (.int (0 : Int32)), (.int (0 : Int32)), (.int (0 : Int32))] (.int (0 : Int32)) ∧ Exa Z h o0 "java/lang/StringBuilder" ∧ Fld Z h o0 "java/lang/AbstractStringBuilder" "coder" "B" (.int (0 : Int32)) ∧ Fld Z h o0 "java/lang/AbstractStringBuilder" "count" "I" (.int (1 : Int32)) ∧ Fld Z h o0 "java/lang/AbstractStringBuilder" "value" "[B" (.ref f_o0_value)
set_option maxRecDepth 65536 in
set_option maxHeartbeats 40000000 in
theorem rm7_1 (l : Launch) (Z : State) (a0 : Array Value) (hw : ∀ d ∈ tables_1, d.before a0 Z = true) (ws : List Jvm.Cond) (o0 : Addr) (p1 : Int32) (e83_30_2 : Int32) (f_o0_value : Addr) (kv : ClassId) (w_COMPACT_STRINGS : Int32) (w_DigitOnes : Addr) (cl_w_DigitOnes : Cell) (h0 : Heap) (n0 : Nat) (Z0 : n0 ≤ h0.size) (F_o0_count : Fld Z h0 o0 "java/lang/AbstractStringBuilder" "count" "I" (.int (0 : Int32))) (hc3_2_1 : ¬ (p1 < (0 : Int32))) (hc24_2_1 : (-10 : Int32) < (-p1)) (F_o0_value : Fld Z h0 o0 "java/lang/AbstractStringBuilder" "value" "[B" (.ref f_o0_value)) (V_f_o0_value : Arv Z h0 f_o0_value kv .byte (16 : Int32) [(.int (0 : Int32)), (.int (0 : Int32)), (.int (0 : Int32)), (.int (0 : Int32)), (.int (0 : Int32)), (.int (0 : Int32)), (.int (0 : Int32)), (.int (0 : Int32)), (.int (0 : Int32)), (.int (0 : Int32)), (.int (0 : Int32)), (.int (0 : Int32)), (.int (0 : Int32)), (.int (0 : Int32)), (.int (0 : Int32)), (.int (0 : Int32))] (.int (0 : Int32))) (F_o0_coder : Fld Z h0 o0 "java/lang/AbstractStringBuilder" "coder" "B" (.int (0 : Int32))) (E_o0 : Exa Z h0 o0 "java/lang/StringBuilder") (S_COMPACT_STRINGS : Sta Z h0 "java/lang/String" "COMPACT_STRINGS" "Z" (.int w_COMPACT_STRINGS)) (hc3_4_1 : ¬ (w_COMPACT_STRINGS = (0 : Int32))) (hc25_6_1 : (-100 : Int32) < (-p1)) (S_DigitOnes : Sta Z h0 "java/lang/Integer" "DigitOnes" "[B" (.ref w_DigitOnes)) (Ar_w_DigitOnes : Arr Z h0 w_DigitOnes cl_w_DigitOnes .byte) (hin83_6_1 : ¬ ((-(-p1)) < 0 ∨ cl_w_DigitOnes.slots.size ≤ ((-(-p1))).toNatClampNeg)) (hat83_6_1 : cl_w_DigitOnes.slots[((-(-p1))).toNatClampNeg]? = some (.int e83_30_2)) (g_f_o0_value : n0 ≤ f_o0_value) (hc88_6_1 : ¬ ((-p1) < (-9 : Int32))) (ne_f_o0_value_o0 : f_o0_value ≠ o0) (g_o0 : n0 ≤ o0) :
    MetFree l (⟨"java/lang/StringBuilder", "append", "(I)Ljava/lang/StringBuilder;"⟩ : MethodName) (head1 (Jvm.Cond.code (⟨"java/lang/StringBuilder", "append", "(I)Ljava/lang/StringBuilder;"⟩ : MethodName) jdk_67_method_15_code 2 (some (.object "java/lang/StringBuilder")) :: ws) ({ frames := 2, cells := 0, slots := 0, locals := 33 } : Room)) (fun a U => a = #[(.ref o0), (.int p1)] ∧ Z.Warmed39 U.vm ∧ U.heap = h0) (fun _ _ _ _ _ => True) (fun _ U o U' => ∃ v L, o = .returned v ∧ Q7_1 Z o0 p1 e83_30_2 f_o0_value kv w_COMPACT_STRINGS w_DigitOnes cl_w_DigitOnes h0 n0 v U'.heap L ∧ FrameEnd U o U' L ({ frames := 2, cells := 0, slots := 0, locals := 33 } : Room).cells ({ frames := 2, cells := 0, slots := 0, locals := 33 } : Room).slots) := by
  refine MetFree.of_bodySF (plainFor_of_name pn_java_lang_StringBuilder) hisR ?_
  intro p e s m args below meth c s₁ Bd hml0 hP hK
  obtain ⟨rfl, hZ, hh⟩ := hP
  have hx := Bd.exec
  have hby := Bd.bytes
  have hml : c.maxLocals = 2 := hml0
  have hown : s.vm.findClass "java/lang/StringBuilder" = some m.cls := findClass_of_methodNamed Bd.named
  have hnm := (name_of_methodNamed Bd.named Bd.method).1
  have X0 : Stand p l e ({ frames := 2, cells := 0, slots := 0, locals := 33 } : Room) s m #[(.ref o0), (.int p1)] below meth c s₁ [] 0 0 := Stand.of_body Bd
  have e0 : s₁.heap = h0 := by rw [← hh, Bd.state]; rfl
  have N0 := Fr.nil n0
  show Go p e below (fun o U' => ∃ v L, o = .returned v ∧ Q7_1 Z o0 p1 e83_30_2 f_o0_value kv w_COMPACT_STRINGS w_DigitOnes cl_w_DigitOnes h0 n0 v U'.heap L ∧ FrameEnd s o U' L ({ frames := 2, cells := 0, slots := 0, locals := 33 } : Room).cells ({ frames := 2, cells := 0, slots := 0, locals := 33 } : Room).slots) (s₁.setTop (entryFrame m #[(.ref o0), (.int p1)] 2))
  refine Go.of (fun _ k => castTop (ef_7 m o0 p1) k) ?_
  show Go p e below _ (s₁.setTop (mkF m 0 #[.val (.ref o0), .val (.int p1)] []))
  refine Go.of (fun _ k => XS.aloadN X0.here hx rfl (hb hby d7_0) rfl rfl k) ?_
  show Go p e below _ (s₁.setTop (mkF m 1 #[.val (.ref o0), .val (.int p1)] [(.ref o0)]))
  refine Go.of (fun _ k => XS.iloadN X0.here hx rfl (hb hby d7_1) rfl  k) ?_
  show Go p e below _ (s₁.setTop (mkF m 2 #[.val (.ref o0), .val (.int p1)] [(.int p1), (.ref o0)]))
  obtain ⟨_, _, ⟨T1, L1, k1, n1⟩, -, X1, ⟨Lc1, hQ1, l1, y1, z1⟩, st1⟩ := superBack X0 hx hZ (y := (⟨"java/lang/AbstractStringBuilder", "append", "(I)Ljava/lang/AbstractStringBuilder;"⟩ : MethodName)) hown (hw _ (List.mem_of_getElem? (i := 49) rfl)) (own_same (y := (⟨"java/lang/AbstractStringBuilder", "append", "(I)Ljava/lang/AbstractStringBuilder;"⟩ : MethodName)) (hw _ (List.mem_of_getElem? (i := 63) rfl)) rfl (hw _ (List.mem_of_getElem? (i := 50) rfl)) (by decide)) (hw _ (List.mem_of_getElem? (i := 50) rfl)) (hw _ (List.mem_of_getElem? (i := 51) rfl)) (by decide) (backOf (W := 0) (rm8_1 l Z a0 hw [] o0 p1 f_o0_value kv w_COMPACT_STRINGS e83_30_2 w_DigitOnes cl_w_DigitOnes h0 n0 Z0 F_o0_count hc3_2_1 hc24_2_1 F_o0_value V_f_o0_value F_o0_coder E_o0 S_COMPACT_STRINGS hc3_4_1 hc25_6_1 S_DigitOnes Ar_w_DigitOnes hin83_6_1 hat83_6_1 g_f_o0_value hc88_6_1 ne_f_o0_value_o0 g_o0) hZ (hw _ (List.mem_of_getElem? (i := 53) rfl)) (hw _ (List.mem_of_getElem? (i := 34) rfl)) (by decide) (by decide)) e0 (Ins.self E_o0) (g := (mkF m 2 #[.val (.ref o0), .val (.int p1)] [(.int p1), (.ref o0)])) rfl (by rw [hml]; rfl) (hw _ (List.mem_of_getElem? (i := 53) rfl)) (argsL := [(.int p1)]) (rest := []) (lenOf pd_4 rfl) rfl (by show 2 * 0 + _ ≤ _; exact Nat.le_of_eq rfl) (hb hby d7_2) (fun _ _ => ⟨rfl, e0, (by decide : 0 + 0 ≤ _), (by decide : 0 + 0 ≤ _)⟩)
  dsimp only [Pt.U, Pt.locs, Pt.cells, Pt.slots] at X1 l1 y1 z1 st1 hQ1
  subst l1 y1 z1
  obtain ⟨rfl, Nq1, q1_0, q1_1, q1_2, q1_3, q1_4, q1_5⟩ := hQ1
  have N1 := Fr.app N0 Nq1
  refine Go.tr st1 ?_
  have K1 : Keep h0 T1.heap [f_o0_value, o0] := ((Keep.refl h0 [f_o0_value, o0])).trans q1_0 (allS (Or.inl (List.mem_of_getElem? (i := 0) rfl)) (allS (Or.inl (List.mem_of_getElem? (i := 1) rfl)) all0))
  have Z1 : n0 ≤ T1.heap.size := Nat.le_trans Z0 q1_0.1
  show Go p e below _ (T1.setTop (mkF m 5 #[.val (.ref o0), .val (.int p1)] [(.ref o0)]))
  refine Go.of (fun _ k => XS.pop X1.here hx rfl (hb hby d7_5) rfl rfl k) ?_
  show Go p e below _ (T1.setTop (mkF m 6 #[.val (.ref o0), .val (.int p1)] []))
  refine Go.of (fun _ k => XS.aloadN X1.here hx rfl (hb hby d7_6) rfl rfl k) ?_
  show Go p e below _ (T1.setTop (mkF m 7 #[.val (.ref o0), .val (.int p1)] [(.ref o0)]))
  obtain ⟨fs, hr, hrun, hended, hW, hsame⟩ := X1.leave (v := some (.ref o0)) (fun h => by rw [Bd.returns] at h; cases h)
  refine Go.mk _ _ ?_ hrun hended ⟨_, _, rfl, ?_, ⟨_, rfl⟩, hW, hsame.mono (by decide) (by decide)⟩
  · exact retOut X1 hx Bd.returns rfl (Or.inr (Or.inr (Or.inr (Or.inr ⟨rfl, rfl, rfl⟩)))) (hb hby d7_7) hr
  · show Q7_1 Z o0 p1 e83_30_2 f_o0_value kv w_COMPACT_STRINGS w_DigitOnes cl_w_DigitOnes h0 n0 _ T1.heap _
    exact ⟨rfl, N1, K1, q1_1, q1_2, q1_3, q1_4, q1_5⟩
theorem d9_31 : decode jdk_33_method_13_code 31 = .ok (.bipush 10, 2) := by decide +kernel
theorem d9_33 : decode jdk_33_method_13_code 33 = .ok (.iload_n 2, 1) := by decide +kernel
theorem d9_34 : decode jdk_33_method_13_code 34 = .ok (.imul, 1) := by decide +kernel
theorem d9_35 : decode jdk_33_method_13_code 35 = .ok (.istore_n 2, 1) := by decide +kernel
theorem d9_36 : decode jdk_33_method_13_code 36 = .ok (.iinc 3 1, 3) := by decide +kernel
theorem d9_39 : decode jdk_33_method_13_code 39 = .ok (.goto (-23), 3) := by decide +kernel
def Q9_2 (Z : State) (p0 : Int32) (h0 : Heap) (n0 : Nat) (v : Option Value) (h : Heap) (L : List Loc) : Prop := v = some (.int (2 : Int32)) ∧ Fr n0 L ∧ h = h0
set_option maxRecDepth 65536 in
set_option maxHeartbeats 40000000 in
theorem rm9_2 (l : Launch) (Z : State) (a0 : Array Value) (hw : ∀ d ∈ tables_1, d.before a0 Z = true) (ws : List Jvm.Cond) (p0 : Int32) (h0 : Heap) (n0 : Nat) (Z0 : n0 ≤ h0.size) (hc3 : ¬ (p0 < (0 : Int32))) (hc24 : ¬ ((-10 : Int32) < (-p0))) (hc24_1 : (-100 : Int32) < (-p0)) :
    MetFree l (⟨"java/lang/Integer", "stringSize", "(I)I"⟩ : MethodName) (head1 (Jvm.Cond.code (⟨"java/lang/Integer", "stringSize", "(I)I"⟩ : MethodName) jdk_33_method_13_code 4 (some .int) :: ws) ({ frames := 0, cells := 0, slots := 0, locals := 0 } : Room)) (fun a U => a = #[(.int p0)] ∧ Z.Warmed39 U.vm ∧ U.heap = h0) (fun _ _ _ _ _ => True) (fun _ U o U' => ∃ v L, o = .returned v ∧ Q9_2 Z p0 h0 n0 v U'.heap L ∧ FrameEnd U o U' L ({ frames := 0, cells := 0, slots := 0, locals := 0 } : Room).cells ({ frames := 0, cells := 0, slots := 0, locals := 0 } : Room).slots) := by
  refine MetFree.of_bodySF (plainFor_of_name pn_java_lang_Integer) hisR ?_
  intro p e s m args below meth c s₁ Bd hml0 hP hK
  obtain ⟨rfl, hZ, hh⟩ := hP
  have hx := Bd.exec
  have hby := Bd.bytes
  have hml : c.maxLocals = 4 := hml0
  have hown : s.vm.findClass "java/lang/Integer" = some m.cls := findClass_of_methodNamed Bd.named
  have hnm := (name_of_methodNamed Bd.named Bd.method).1
  have X0 : Stand p l e ({ frames := 0, cells := 0, slots := 0, locals := 0 } : Room) s m #[(.int p0)] below meth c s₁ [] 0 0 := Stand.of_body Bd
  have e0 : s₁.heap = h0 := by rw [← hh, Bd.state]; rfl
  have N0 := Fr.nil n0
  show Go p e below (fun o U' => ∃ v L, o = .returned v ∧ Q9_2 Z p0 h0 n0 v U'.heap L ∧ FrameEnd s o U' L ({ frames := 0, cells := 0, slots := 0, locals := 0 } : Room).cells ({ frames := 0, cells := 0, slots := 0, locals := 0 } : Room).slots) (s₁.setTop (entryFrame m #[(.int p0)] 4))
  refine Go.of (fun _ k => castTop (ef_9 m p0) k) ?_
  show Go p e below _ (s₁.setTop (mkF m 0 #[.val (.int p0), .unset, .unset, .unset] []))
  refine Go.of (fun _ k => XS.iconst X0.here hx rfl (hb hby d9_0) k) ?_
  show Go p e below _ (s₁.setTop (mkF m 1 #[.val (.int p0), .unset, .unset, .unset] [(.int (1 : Int32))]))
  refine Go.of (fun _ k => XS.istoreN X0.here hx rfl (hb hby d9_1) rfl (l' := #[.val (.int p0), .val (.int (1 : Int32)), .unset, .unset]) rfl k) ?_
  show Go p e below _ (s₁.setTop (mkF m 2 #[.val (.int p0), .val (.int (1 : Int32)), .unset, .unset] []))
  refine Go.of (fun _ k => XS.iloadN X0.here hx rfl (hb hby d9_2) rfl  k) ?_
  show Go p e below _ (s₁.setTop (mkF m 3 #[.val (.int p0), .val (.int (1 : Int32)), .unset, .unset] [(.int p0)]))
  refine Go.of (fun _ k => XS.ifNo X0.here hx rfl (hb hby d9_3) rfl ((if0 _ _).trans (flt hc3).1) k) ?_
  show Go p e below _ (s₁.setTop (mkF m 6 #[.val (.int p0), .val (.int (1 : Int32)), .unset, .unset] []))
  refine Go.of (fun _ k => XS.iconst X0.here hx rfl (hb hby d9_6) k) ?_
  show Go p e below _ (s₁.setTop (mkF m 7 #[.val (.int p0), .val (.int (1 : Int32)), .unset, .unset] [(.int (0 : Int32))]))
  refine Go.of (fun _ k => XS.istoreN X0.here hx rfl (hb hby d9_7) rfl (l' := #[.val (.int p0), .val (.int (0 : Int32)), .unset, .unset]) rfl k) ?_
  show Go p e below _ (s₁.setTop (mkF m 8 #[.val (.int p0), .val (.int (0 : Int32)), .unset, .unset] []))
  refine Go.of (fun _ k => XS.iloadN X0.here hx rfl (hb hby d9_8) rfl  k) ?_
  show Go p e below _ (s₁.setTop (mkF m 9 #[.val (.int p0), .val (.int (0 : Int32)), .unset, .unset] [(.int p0)]))
  refine Go.of (fun _ k => XS.ineg X0.here hx rfl (hb hby d9_9) rfl k) ?_
  show Go p e below _ (s₁.setTop (mkF m 10 #[.val (.int p0), .val (.int (0 : Int32)), .unset, .unset] [(.int (-p0))]))
  refine Go.of (fun _ k => XS.istoreN X0.here hx rfl (hb hby d9_10) rfl (l' := #[.val (.int (-p0)), .val (.int (0 : Int32)), .unset, .unset]) rfl k) ?_
  show Go p e below _ (s₁.setTop (mkF m 11 #[.val (.int (-p0)), .val (.int (0 : Int32)), .unset, .unset] []))
  refine Go.of (fun _ k => XS.bipush X0.here hx rfl (hb hby d9_11) k) ?_
  show Go p e below _ (s₁.setTop (mkF m 13 #[.val (.int (-p0)), .val (.int (0 : Int32)), .unset, .unset] [(.int (-10 : Int32))]))
  refine Go.of (fun _ k => XS.istoreN X0.here hx rfl (hb hby d9_13) rfl (l' := #[.val (.int (-p0)), .val (.int (0 : Int32)), .val (.int (-10 : Int32)), .unset]) rfl k) ?_
  show Go p e below _ (s₁.setTop (mkF m 14 #[.val (.int (-p0)), .val (.int (0 : Int32)), .val (.int (-10 : Int32)), .unset] []))
  refine Go.of (fun _ k => XS.iconst X0.here hx rfl (hb hby d9_14) k) ?_
  show Go p e below _ (s₁.setTop (mkF m 15 #[.val (.int (-p0)), .val (.int (0 : Int32)), .val (.int (-10 : Int32)), .unset] [(.int (1 : Int32))]))
  refine Go.of (fun _ k => XS.istoreN X0.here hx rfl (hb hby d9_15) rfl (l' := #[.val (.int (-p0)), .val (.int (0 : Int32)), .val (.int (-10 : Int32)), .val (.int (1 : Int32))]) rfl k) ?_
  show Go p e below _ (s₁.setTop (mkF m 16 #[.val (.int (-p0)), .val (.int (0 : Int32)), .val (.int (-10 : Int32)), .val (.int (1 : Int32))] []))
  refine Go.of (fun _ k => XS.iloadN X0.here hx rfl (hb hby d9_16) rfl  k) ?_
  show Go p e below _ (s₁.setTop (mkF m 17 #[.val (.int (-p0)), .val (.int (0 : Int32)), .val (.int (-10 : Int32)), .val (.int (1 : Int32))] [(.int (1 : Int32))]))
  refine Go.of (fun _ k => XS.bipush X0.here hx rfl (hb hby d9_17) k) ?_
  show Go p e below _ (s₁.setTop (mkF m 19 #[.val (.int (-p0)), .val (.int (0 : Int32)), .val (.int (-10 : Int32)), .val (.int (1 : Int32))] [(.int (10 : Int32)), (.int (1 : Int32))]))
  refine Go.of (fun _ k => XS.icmpNo X0.here hx rfl (hb hby d9_19) rfl (tlt (by decide : (1 : Int32) < (10 : Int32))).2.1 k) ?_
  show Go p e below _ (s₁.setTop (mkF m 22 #[.val (.int (-p0)), .val (.int (0 : Int32)), .val (.int (-10 : Int32)), .val (.int (1 : Int32))] []))
  refine Go.of (fun _ k => XS.iloadN X0.here hx rfl (hb hby d9_22) rfl  k) ?_
  show Go p e below _ (s₁.setTop (mkF m 23 #[.val (.int (-p0)), .val (.int (0 : Int32)), .val (.int (-10 : Int32)), .val (.int (1 : Int32))] [(.int (-p0))]))
  refine Go.of (fun _ k => XS.iloadN X0.here hx rfl (hb hby d9_23) rfl  k) ?_
  show Go p e below _ (s₁.setTop (mkF m 24 #[.val (.int (-p0)), .val (.int (0 : Int32)), .val (.int (-10 : Int32)), .val (.int (1 : Int32))] [(.int (-10 : Int32)), (.int (-p0))]))
  refine Go.of (fun _ k => XS.icmpYes X0.here hx rfl (pc0 := 24) (pc' := 31) rfl (hb hby d9_24) rfl (flt hc24).2.2.2 (by decide) (by decide) k) ?_
  show Go p e below _ (s₁.setTop (mkF m 31 #[.val (.int (-p0)), .val (.int (0 : Int32)), .val (.int (-10 : Int32)), .val (.int (1 : Int32))] []))
  refine Go.of (fun _ k => XS.bipush X0.here hx rfl (hb hby d9_31) k) ?_
  show Go p e below _ (s₁.setTop (mkF m 33 #[.val (.int (-p0)), .val (.int (0 : Int32)), .val (.int (-10 : Int32)), .val (.int (1 : Int32))] [(.int (10 : Int32))]))
  refine Go.of (fun _ k => XS.iloadN X0.here hx rfl (hb hby d9_33) rfl  k) ?_
  show Go p e below _ (s₁.setTop (mkF m 34 #[.val (.int (-p0)), .val (.int (0 : Int32)), .val (.int (-10 : Int32)), .val (.int (1 : Int32))] [(.int (-10 : Int32)), (.int (10 : Int32))]))
  refine Go.of (fun _ k => XS.imul X0.here hx rfl (hb hby d9_34) rfl k) ?_
  show Go p e below _ (s₁.setTop (mkF m 35 #[.val (.int (-p0)), .val (.int (0 : Int32)), .val (.int (-10 : Int32)), .val (.int (1 : Int32))] [(.int (-100 : Int32))]))
  refine Go.of (fun _ k => XS.istoreN X0.here hx rfl (hb hby d9_35) rfl (l' := #[.val (.int (-p0)), .val (.int (0 : Int32)), .val (.int (-100 : Int32)), .val (.int (1 : Int32))]) rfl k) ?_
  show Go p e below _ (s₁.setTop (mkF m 36 #[.val (.int (-p0)), .val (.int (0 : Int32)), .val (.int (-100 : Int32)), .val (.int (1 : Int32))] []))
  refine Go.of (fun _ k => XS.iinc X0.here hx rfl (hb hby d9_36) rfl (l' := #[.val (.int (-p0)), .val (.int (0 : Int32)), .val (.int (-100 : Int32)), .val (.int (2 : Int32))]) rfl k) ?_
  show Go p e below _ (s₁.setTop (mkF m 39 #[.val (.int (-p0)), .val (.int (0 : Int32)), .val (.int (-100 : Int32)), .val (.int (2 : Int32))] []))
  refine Go.of (fun _ k => XS.goto X0.here hx rfl (pc0 := 39) (pc' := 16) rfl (hb hby d9_39) (by decide) (by decide) k) ?_
  show Go p e below _ (s₁.setTop (mkF m 16 #[.val (.int (-p0)), .val (.int (0 : Int32)), .val (.int (-100 : Int32)), .val (.int (2 : Int32))] []))
  refine Go.of (fun _ k => XS.iloadN X0.here hx rfl (hb hby d9_16) rfl  k) ?_
  show Go p e below _ (s₁.setTop (mkF m 17 #[.val (.int (-p0)), .val (.int (0 : Int32)), .val (.int (-100 : Int32)), .val (.int (2 : Int32))] [(.int (2 : Int32))]))
  refine Go.of (fun _ k => XS.bipush X0.here hx rfl (hb hby d9_17) k) ?_
  show Go p e below _ (s₁.setTop (mkF m 19 #[.val (.int (-p0)), .val (.int (0 : Int32)), .val (.int (-100 : Int32)), .val (.int (2 : Int32))] [(.int (10 : Int32)), (.int (2 : Int32))]))
  refine Go.of (fun _ k => XS.icmpNo X0.here hx rfl (hb hby d9_19) rfl (tlt (by decide : (2 : Int32) < (10 : Int32))).2.1 k) ?_
  show Go p e below _ (s₁.setTop (mkF m 22 #[.val (.int (-p0)), .val (.int (0 : Int32)), .val (.int (-100 : Int32)), .val (.int (2 : Int32))] []))
  refine Go.of (fun _ k => XS.iloadN X0.here hx rfl (hb hby d9_22) rfl  k) ?_
  show Go p e below _ (s₁.setTop (mkF m 23 #[.val (.int (-p0)), .val (.int (0 : Int32)), .val (.int (-100 : Int32)), .val (.int (2 : Int32))] [(.int (-p0))]))
  refine Go.of (fun _ k => XS.iloadN X0.here hx rfl (hb hby d9_23) rfl  k) ?_
  show Go p e below _ (s₁.setTop (mkF m 24 #[.val (.int (-p0)), .val (.int (0 : Int32)), .val (.int (-100 : Int32)), .val (.int (2 : Int32))] [(.int (-100 : Int32)), (.int (-p0))]))
  refine Go.of (fun _ k => XS.icmpNo X0.here hx rfl (hb hby d9_24) rfl (tlt hc24_1).2.2.2 k) ?_
  show Go p e below _ (s₁.setTop (mkF m 27 #[.val (.int (-p0)), .val (.int (0 : Int32)), .val (.int (-100 : Int32)), .val (.int (2 : Int32))] []))
  refine Go.of (fun _ k => XS.iloadN X0.here hx rfl (hb hby d9_27) rfl  k) ?_
  show Go p e below _ (s₁.setTop (mkF m 28 #[.val (.int (-p0)), .val (.int (0 : Int32)), .val (.int (-100 : Int32)), .val (.int (2 : Int32))] [(.int (2 : Int32))]))
  refine Go.of (fun _ k => XS.iloadN X0.here hx rfl (hb hby d9_28) rfl  k) ?_
  show Go p e below _ (s₁.setTop (mkF m 29 #[.val (.int (-p0)), .val (.int (0 : Int32)), .val (.int (-100 : Int32)), .val (.int (2 : Int32))] [(.int (0 : Int32)), (.int (2 : Int32))]))
  refine Go.of (fun _ k => XS.iadd X0.here hx rfl (hb hby d9_29) rfl k) ?_
  show Go p e below _ (s₁.setTop (mkF m 30 #[.val (.int (-p0)), .val (.int (0 : Int32)), .val (.int (-100 : Int32)), .val (.int (2 : Int32))] [(.int (2 : Int32))]))
  obtain ⟨fs, hr, hrun, hended, hW, hsame⟩ := X0.leave (v := some (.int (2 : Int32))) (fun h => by rw [Bd.returns] at h; cases h)
  refine Go.mk _ _ ?_ hrun hended ⟨_, _, rfl, ?_, ⟨_, rfl⟩, hW, hsame.mono (by decide) (by decide)⟩
  · exact retI X0 hx Bd.returns (hb hby d9_30) hr
  · show Q9_2 Z p0 h0 n0 _ s₁.heap _
    rw [e0]
    exact ⟨rfl, N0, rfl⟩
theorem d12_91 : decode jdk_33_method_12_code 91 = .ok (.aload_n 2, 1) := by decide +kernel
theorem d12_92 : decode jdk_33_method_12_code 92 = .ok (.iinc 5 (-1), 3) := by decide +kernel
theorem d12_95 : decode jdk_33_method_12_code 95 = .ok (.iload 5, 2) := by decide +kernel
theorem d12_97 : decode jdk_33_method_12_code 97 = .ok (.getstatic 87, 3) := by decide +kernel
theorem d12_100 : decode jdk_33_method_12_code 100 = .ok (.iload_n 0, 1) := by decide +kernel
theorem d12_101 : decode jdk_33_method_12_code 101 = .ok (.ineg, 1) := by decide +kernel
theorem d12_102 : decode jdk_33_method_12_code 102 = .ok (.baload, 1) := by decide +kernel
theorem d12_103 : decode jdk_33_method_12_code 103 = .ok (.bastore, 1) := by decide +kernel
theorem ef_12l2_2 (m : MethodId) (x0 : Int32) (x2 : Addr) : entryFrame m #[(.int x0), (.int (2 : Int32)), (.ref x2)] 7 = mkF m 0 #[.val (.int x0), .val (.int (2 : Int32)), .val (.ref x2), .unset, .unset, .unset, .unset] [] := by first | (simp [entryFrame, mkF, argsToLocals, Value.category]; done) | rfl
def Q12_2w (Z : State) (p0 : Int32) (o2 : Addr) (w_DigitOnes : Addr) (cl_w_DigitOnes : Cell) (e83 : Int32) (kv : ClassId) (w_DigitTens : Addr) (cl_w_DigitTens : Cell) (e102 : Int32) (h0 : Heap) (n0 : Nat) (v : Option Value) (h : Heap) (L : List Loc) : Prop := v = some (.int (0 : Int32)) ∧ Fr n0 L ∧ Keep h0 h [o2] ∧ Arv Z h o2 kv .byte (16 : Int32) [(.int e102.toInt8.toInt32), (.int e83.toInt8.toInt32), (.int (0 : Int32)), (.int (0 : Int32)), (.int (0 : Int32)), (.int (0 : Int32)), (.int (0 : Int32)), (.int (0 : Int32)), (.int (0 : Int32)), (.int (0 : Int32)), (.int (0 : Int32)), (.int (0 : Int32)), (.int (0 : Int32)), (.int (0 : Int32)), (.int (0 : Int32)), (.int (0 : Int32))] (.int (0 : Int32))
set_option maxRecDepth 65536 in
set_option maxHeartbeats 40000000 in
theorem rm12_2w (l : Launch) (Z : State) (a0 : Array Value) (hw : ∀ d ∈ tables_1, d.before a0 Z = true) (ws : List Jvm.Cond) (p0 : Int32) (o2 : Addr) (w_DigitOnes : Addr) (cl_w_DigitOnes : Cell) (e83 : Int32) (kv : ClassId) (w_DigitTens : Addr) (cl_w_DigitTens : Cell) (e102 : Int32) (h0 : Heap) (n0 : Nat) (Z0 : n0 ≤ h0.size) (hc4 : ¬ (p0 < (0 : Int32))) (hc25 : (-100 : Int32) < (-p0)) (S_DigitOnes : Sta Z h0 "java/lang/Integer" "DigitOnes" "[B" (.ref w_DigitOnes)) (Ar_w_DigitOnes : Arr Z h0 w_DigitOnes cl_w_DigitOnes .byte) (hin83 : ¬ ((-(-p0)) < 0 ∨ cl_w_DigitOnes.slots.size ≤ ((-(-p0))).toNatClampNeg)) (hat83 : cl_w_DigitOnes.slots[((-(-p0))).toNatClampNeg]? = some (.int e83)) (V_o2 : Arv Z h0 o2 kv .byte (16 : Int32) [(.int (0 : Int32)), (.int (0 : Int32)), (.int (0 : Int32)), (.int (0 : Int32)), (.int (0 : Int32)), (.int (0 : Int32)), (.int (0 : Int32)), (.int (0 : Int32)), (.int (0 : Int32)), (.int (0 : Int32)), (.int (0 : Int32)), (.int (0 : Int32)), (.int (0 : Int32)), (.int (0 : Int32)), (.int (0 : Int32)), (.int (0 : Int32))] (.int (0 : Int32))) (g_o2 : n0 ≤ o2) (hc88 : (-p0) < (-9 : Int32)) (S_DigitTens : Sta Z h0 "java/lang/Integer" "DigitTens" "[B" (.ref w_DigitTens)) (Ar_w_DigitTens : Arr Z h0 w_DigitTens cl_w_DigitTens .byte) (ne_o2_w_DigitTens : o2 ≠ w_DigitTens) (hin102 : ¬ ((-(-p0)) < 0 ∨ cl_w_DigitTens.slots.size ≤ ((-(-p0))).toNatClampNeg)) (hat102 : cl_w_DigitTens.slots[((-(-p0))).toNatClampNeg]? = some (.int e102)) :
    MetFree l (⟨"java/lang/Integer", "getChars", "(II[B)I"⟩ : MethodName) (head1 (Jvm.Cond.code (⟨"java/lang/Integer", "getChars", "(II[B)I"⟩ : MethodName) jdk_33_method_12_code 7 (some .int) :: ws) ({ frames := 0, cells := 0, slots := 0, locals := 0 } : Room)) (fun a U => a = #[(.int p0), (.int (2 : Int32)), (.ref o2)] ∧ Z.Warmed39 U.vm ∧ U.heap = h0) (fun _ _ _ _ _ => True) (fun _ U o U' => ∃ v L, o = .returned v ∧ Q12_2w Z p0 o2 w_DigitOnes cl_w_DigitOnes e83 kv w_DigitTens cl_w_DigitTens e102 h0 n0 v U'.heap L ∧ FrameEnd U o U' L ({ frames := 0, cells := 0, slots := 0, locals := 0 } : Room).cells ({ frames := 0, cells := 0, slots := 0, locals := 0 } : Room).slots) := by
  refine MetFree.of_bodySF (plainFor_of_name pn_java_lang_Integer) hisR ?_
  intro p e s m args below meth c s₁ Bd hml0 hP hK
  obtain ⟨rfl, hZ, hh⟩ := hP
  have hx := Bd.exec
  have hby := Bd.bytes
  have hml : c.maxLocals = 7 := hml0
  have hown : s.vm.findClass "java/lang/Integer" = some m.cls := findClass_of_methodNamed Bd.named
  have hnm := (name_of_methodNamed Bd.named Bd.method).1
  have X0 : Stand p l e ({ frames := 0, cells := 0, slots := 0, locals := 0 } : Room) s m #[(.int p0), (.int (2 : Int32)), (.ref o2)] below meth c s₁ [] 0 0 := Stand.of_body Bd
  have e0 : s₁.heap = h0 := by rw [← hh, Bd.state]; rfl
  have N0 := Fr.nil n0
  show Go p e below (fun o U' => ∃ v L, o = .returned v ∧ Q12_2w Z p0 o2 w_DigitOnes cl_w_DigitOnes e83 kv w_DigitTens cl_w_DigitTens e102 h0 n0 v U'.heap L ∧ FrameEnd s o U' L ({ frames := 0, cells := 0, slots := 0, locals := 0 } : Room).cells ({ frames := 0, cells := 0, slots := 0, locals := 0 } : Room).slots) (s₁.setTop (entryFrame m #[(.int p0), (.int (2 : Int32)), (.ref o2)] 7))
  refine Go.of (fun _ k => castTop (ef_12l2_2 m p0 o2) k) ?_
  show Go p e below _ (s₁.setTop (mkF m 0 #[.val (.int p0), .val (.int (2 : Int32)), .val (.ref o2), .unset, .unset, .unset, .unset] []))
  refine Go.of (fun _ k => XS.iloadN X0.here hx rfl (hb hby d12_0) rfl  k) ?_
  show Go p e below _ (s₁.setTop (mkF m 1 #[.val (.int p0), .val (.int (2 : Int32)), .val (.ref o2), .unset, .unset, .unset, .unset] [(.int (2 : Int32))]))
  refine Go.of (fun _ k => XS.istore X0.here hx rfl (hb hby d12_1) rfl (l' := #[.val (.int p0), .val (.int (2 : Int32)), .val (.ref o2), .unset, .unset, .val (.int (2 : Int32)), .unset]) rfl k) ?_
  show Go p e below _ (s₁.setTop (mkF m 3 #[.val (.int p0), .val (.int (2 : Int32)), .val (.ref o2), .unset, .unset, .val (.int (2 : Int32)), .unset] []))
  refine Go.of (fun _ k => XS.iloadN X0.here hx rfl (hb hby d12_3) rfl  k) ?_
  show Go p e below _ (s₁.setTop (mkF m 4 #[.val (.int p0), .val (.int (2 : Int32)), .val (.ref o2), .unset, .unset, .val (.int (2 : Int32)), .unset] [(.int p0)]))
  refine Go.of (fun _ k => XS.ifYes X0.here hx rfl (pc0 := 4) (pc' := 11) rfl (hb hby d12_4) rfl ((if0 _ _).trans (flt hc4).2.1) (by decide) (by decide) k) ?_
  show Go p e below _ (s₁.setTop (mkF m 11 #[.val (.int p0), .val (.int (2 : Int32)), .val (.ref o2), .unset, .unset, .val (.int (2 : Int32)), .unset] []))
  refine Go.of (fun _ k => XS.iconst X0.here hx rfl (hb hby d12_11) k) ?_
  show Go p e below _ (s₁.setTop (mkF m 12 #[.val (.int p0), .val (.int (2 : Int32)), .val (.ref o2), .unset, .unset, .val (.int (2 : Int32)), .unset] [(.int (0 : Int32))]))
  refine Go.of (fun _ k => XS.istore X0.here hx rfl (hb hby d12_12) rfl (l' := #[.val (.int p0), .val (.int (2 : Int32)), .val (.ref o2), .unset, .unset, .val (.int (2 : Int32)), .val (.int (0 : Int32))]) rfl k) ?_
  show Go p e below _ (s₁.setTop (mkF m 14 #[.val (.int p0), .val (.int (2 : Int32)), .val (.ref o2), .unset, .unset, .val (.int (2 : Int32)), .val (.int (0 : Int32))] []))
  refine Go.of (fun _ k => XS.iload X0.here hx rfl (hb hby d12_14) rfl  k) ?_
  show Go p e below _ (s₁.setTop (mkF m 16 #[.val (.int p0), .val (.int (2 : Int32)), .val (.ref o2), .unset, .unset, .val (.int (2 : Int32)), .val (.int (0 : Int32))] [(.int (0 : Int32))]))
  refine Go.of (fun _ k => XS.ifNo X0.here hx rfl (hb hby d12_16) rfl ((if0 _ _).trans (teq (by decide : (0 : Int32) = (0 : Int32))).2) k) ?_
  show Go p e below _ (s₁.setTop (mkF m 19 #[.val (.int p0), .val (.int (2 : Int32)), .val (.ref o2), .unset, .unset, .val (.int (2 : Int32)), .val (.int (0 : Int32))] []))
  refine Go.of (fun _ k => XS.iloadN X0.here hx rfl (hb hby d12_19) rfl  k) ?_
  show Go p e below _ (s₁.setTop (mkF m 20 #[.val (.int p0), .val (.int (2 : Int32)), .val (.ref o2), .unset, .unset, .val (.int (2 : Int32)), .val (.int (0 : Int32))] [(.int p0)]))
  refine Go.of (fun _ k => XS.ineg X0.here hx rfl (hb hby d12_20) rfl k) ?_
  show Go p e below _ (s₁.setTop (mkF m 21 #[.val (.int p0), .val (.int (2 : Int32)), .val (.ref o2), .unset, .unset, .val (.int (2 : Int32)), .val (.int (0 : Int32))] [(.int (-p0))]))
  refine Go.of (fun _ k => XS.istoreN X0.here hx rfl (hb hby d12_21) rfl (l' := #[.val (.int (-p0)), .val (.int (2 : Int32)), .val (.ref o2), .unset, .unset, .val (.int (2 : Int32)), .val (.int (0 : Int32))]) rfl k) ?_
  show Go p e below _ (s₁.setTop (mkF m 22 #[.val (.int (-p0)), .val (.int (2 : Int32)), .val (.ref o2), .unset, .unset, .val (.int (2 : Int32)), .val (.int (0 : Int32))] []))
  refine Go.of (fun _ k => XS.iloadN X0.here hx rfl (hb hby d12_22) rfl  k) ?_
  show Go p e below _ (s₁.setTop (mkF m 23 #[.val (.int (-p0)), .val (.int (2 : Int32)), .val (.ref o2), .unset, .unset, .val (.int (2 : Int32)), .val (.int (0 : Int32))] [(.int (-p0))]))
  refine Go.of (fun _ k => XS.bipush X0.here hx rfl (hb hby d12_23) k) ?_
  show Go p e below _ (s₁.setTop (mkF m 25 #[.val (.int (-p0)), .val (.int (2 : Int32)), .val (.ref o2), .unset, .unset, .val (.int (2 : Int32)), .val (.int (0 : Int32))] [(.int (-100 : Int32)), (.int (-p0))]))
  refine Go.of (fun _ k => XS.icmpYes X0.here hx rfl (pc0 := 25) (pc' := 72) rfl (hb hby d12_25) rfl (tlt hc25).2.2.1 (by decide) (by decide) k) ?_
  show Go p e below _ (s₁.setTop (mkF m 72 #[.val (.int (-p0)), .val (.int (2 : Int32)), .val (.ref o2), .unset, .unset, .val (.int (2 : Int32)), .val (.int (0 : Int32))] []))
  refine Go.of (fun _ k => XS.aloadN X0.here hx rfl (hb hby d12_72) rfl rfl k) ?_
  show Go p e below _ (s₁.setTop (mkF m 73 #[.val (.int (-p0)), .val (.int (2 : Int32)), .val (.ref o2), .unset, .unset, .val (.int (2 : Int32)), .val (.int (0 : Int32))] [(.ref o2)]))
  refine Go.of (fun _ k => XS.iinc X0.here hx rfl (hb hby d12_73) rfl (l' := #[.val (.int (-p0)), .val (.int (2 : Int32)), .val (.ref o2), .unset, .unset, .val (.int (1 : Int32)), .val (.int (0 : Int32))]) rfl k) ?_
  show Go p e below _ (s₁.setTop (mkF m 76 #[.val (.int (-p0)), .val (.int (2 : Int32)), .val (.ref o2), .unset, .unset, .val (.int (1 : Int32)), .val (.int (0 : Int32))] [(.ref o2)]))
  refine Go.of (fun _ k => XS.iload X0.here hx rfl (hb hby d12_76) rfl  k) ?_
  show Go p e below _ (s₁.setTop (mkF m 78 #[.val (.int (-p0)), .val (.int (2 : Int32)), .val (.ref o2), .unset, .unset, .val (.int (1 : Int32)), .val (.int (0 : Int32))] [(.int (1 : Int32)), (.ref o2)]))
  obtain ⟨T1, X1, e1, st1⟩ := getS2 X0 hx hZ hown (host := "") (Or.inl (hw _ (List.mem_of_getElem? (i := 73) rfl))) Via.refl e0 S_DigitOnes (g := (mkF m 78 #[.val (.int (-p0)), .val (.int (2 : Int32)), .val (.ref o2), .unset, .unset, .val (.int (1 : Int32)), .val (.int (0 : Int32))] [(.int (1 : Int32)), (.ref o2)])) rfl (hb hby d12_78)
  refine Go.of st1 ?_
  show Go p e below _ (T1.setTop (mkF m 81 #[.val (.int (-p0)), .val (.int (2 : Int32)), .val (.ref o2), .unset, .unset, .val (.int (1 : Int32)), .val (.int (0 : Int32))] [(.ref w_DigitOnes), (.int (1 : Int32)), (.ref o2)]))
  refine Go.of (fun _ k => XS.iloadN X1.here hx rfl (hb hby d12_81) rfl  k) ?_
  show Go p e below _ (T1.setTop (mkF m 82 #[.val (.int (-p0)), .val (.int (2 : Int32)), .val (.ref o2), .unset, .unset, .val (.int (1 : Int32)), .val (.int (0 : Int32))] [(.int (-p0)), (.ref w_DigitOnes), (.int (1 : Int32)), (.ref o2)]))
  refine Go.of (fun _ k => XS.ineg X1.here hx rfl (hb hby d12_82) rfl k) ?_
  show Go p e below _ (T1.setTop (mkF m 83 #[.val (.int (-p0)), .val (.int (2 : Int32)), .val (.ref o2), .unset, .unset, .val (.int (1 : Int32)), .val (.int (0 : Int32))] [(.int (-(-p0))), (.ref w_DigitOnes), (.int (1 : Int32)), (.ref o2)]))
  refine Go.of (fun _ k => X1.baloadBytes hx (j := (-(-p0))) (v := (.int e83)) (by rw [e1]; exact Ar_w_DigitOnes.1) (State.isArrayOf_alike hZ.alike Ar_w_DigitOnes.2.1) Ar_w_DigitOnes.2.2 hin83 hat83 (g := (mkF m 83 #[.val (.int (-p0)), .val (.int (2 : Int32)), .val (.ref o2), .unset, .unset, .val (.int (1 : Int32)), .val (.int (0 : Int32))] [(.int (-(-p0))), (.ref w_DigitOnes), (.int (1 : Int32)), (.ref o2)])) rfl rfl (hb hby d12_83) _ k) ?_
  show Go p e below _ (T1.setTop (mkF m 84 #[.val (.int (-p0)), .val (.int (2 : Int32)), .val (.ref o2), .unset, .unset, .val (.int (1 : Int32)), .val (.int (0 : Int32))] [(.int e83), (.int (1 : Int32)), (.ref o2)]))
  obtain ⟨clt2, Art2, qt2, st2, nt2, Ht2, Gt2⟩ := id V_o2
  have hint2 : ¬ ((1 : Int32) < 0 ∨ clt2.slots.size ≤ ((1 : Int32)).toNatClampNeg) := inb_of st2 ⟨by decide, by decide⟩
  obtain ⟨T3, h3, X3, e3, W3, st3⟩ := stB X1 hx hZ e1 Art2 (j := (1 : Int32)) hint2 (g := (mkF m 84 #[.val (.int (-p0)), .val (.int (2 : Int32)), .val (.ref o2), .unset, .unset, .val (.int (1 : Int32)), .val (.int (0 : Int32))] [(.int e83), (.int (1 : Int32)), (.ref o2)])) rfl rfl (hb hby d12_84)
  refine Go.of st3 ?_
  have N3 := Fr.snoc X3 N0 g_o2
  have K3 : Keep h0 h3 [o2] := ((Keep.refl h0 [o2])).wr W3 (Or.inl (List.mem_of_getElem? (i := 0) rfl))
  have Z3 : n0 ≤ h3.size := Nat.le_trans Z0 (Keep.of_wr W3).1
  have V3 : Arv Z h3 o2 kv .byte (16 : Int32) [(.int (0 : Int32)), (.int e83.toInt8.toInt32), (.int (0 : Int32)), (.int (0 : Int32)), (.int (0 : Int32)), (.int (0 : Int32)), (.int (0 : Int32)), (.int (0 : Int32)), (.int (0 : Int32)), (.int (0 : Int32)), (.int (0 : Int32)), (.int (0 : Int32)), (.int (0 : Int32)), (.int (0 : Int32)), (.int (0 : Int32)), (.int (0 : Int32))] (.int (0 : Int32)) := Arv.set Art2 qt2 st2 nt2 Ht2 Gt2 (fits_nar_byte _) W3 1 rfl (Nat.le_of_ble_eq_true rfl)
  show Go p e below _ (T3.setTop (mkF m 85 #[.val (.int (-p0)), .val (.int (2 : Int32)), .val (.ref o2), .unset, .unset, .val (.int (1 : Int32)), .val (.int (0 : Int32))] []))
  refine Go.of (fun _ k => XS.iloadN X3.here hx rfl (hb hby d12_85) rfl  k) ?_
  show Go p e below _ (T3.setTop (mkF m 86 #[.val (.int (-p0)), .val (.int (2 : Int32)), .val (.ref o2), .unset, .unset, .val (.int (1 : Int32)), .val (.int (0 : Int32))] [(.int (-p0))]))
  refine Go.of (fun _ k => XS.bipush X3.here hx rfl (hb hby d12_86) k) ?_
  show Go p e below _ (T3.setTop (mkF m 88 #[.val (.int (-p0)), .val (.int (2 : Int32)), .val (.ref o2), .unset, .unset, .val (.int (1 : Int32)), .val (.int (0 : Int32))] [(.int (-9 : Int32)), (.int (-p0))]))
  refine Go.of (fun _ k => XS.icmpNo X3.here hx rfl (hb hby d12_88) rfl (tlt hc88).2.1 k) ?_
  show Go p e below _ (T3.setTop (mkF m 91 #[.val (.int (-p0)), .val (.int (2 : Int32)), .val (.ref o2), .unset, .unset, .val (.int (1 : Int32)), .val (.int (0 : Int32))] []))
  refine Go.of (fun _ k => XS.aloadN X3.here hx rfl (hb hby d12_91) rfl rfl k) ?_
  show Go p e below _ (T3.setTop (mkF m 92 #[.val (.int (-p0)), .val (.int (2 : Int32)), .val (.ref o2), .unset, .unset, .val (.int (1 : Int32)), .val (.int (0 : Int32))] [(.ref o2)]))
  refine Go.of (fun _ k => XS.iinc X3.here hx rfl (hb hby d12_92) rfl (l' := #[.val (.int (-p0)), .val (.int (2 : Int32)), .val (.ref o2), .unset, .unset, .val (.int (0 : Int32)), .val (.int (0 : Int32))]) rfl k) ?_
  show Go p e below _ (T3.setTop (mkF m 95 #[.val (.int (-p0)), .val (.int (2 : Int32)), .val (.ref o2), .unset, .unset, .val (.int (0 : Int32)), .val (.int (0 : Int32))] [(.ref o2)]))
  refine Go.of (fun _ k => XS.iload X3.here hx rfl (hb hby d12_95) rfl  k) ?_
  show Go p e below _ (T3.setTop (mkF m 97 #[.val (.int (-p0)), .val (.int (2 : Int32)), .val (.ref o2), .unset, .unset, .val (.int (0 : Int32)), .val (.int (0 : Int32))] [(.int (0 : Int32)), (.ref o2)]))
  have c4 : Sta Z h3 "java/lang/Integer" "DigitTens" "[B" (.ref w_DigitTens) := (Sta.wr W3 S_DigitTens)
  obtain ⟨T5, X5, e5, st5⟩ := getS2 X3 hx hZ hown (host := "") (Or.inl (hw _ (List.mem_of_getElem? (i := 188) rfl))) Via.refl e3 c4 (g := (mkF m 97 #[.val (.int (-p0)), .val (.int (2 : Int32)), .val (.ref o2), .unset, .unset, .val (.int (0 : Int32)), .val (.int (0 : Int32))] [(.int (0 : Int32)), (.ref o2)])) rfl (hb hby d12_97)
  refine Go.of st5 ?_
  show Go p e below _ (T5.setTop (mkF m 100 #[.val (.int (-p0)), .val (.int (2 : Int32)), .val (.ref o2), .unset, .unset, .val (.int (0 : Int32)), .val (.int (0 : Int32))] [(.ref w_DigitTens), (.int (0 : Int32)), (.ref o2)]))
  refine Go.of (fun _ k => XS.iloadN X5.here hx rfl (hb hby d12_100) rfl  k) ?_
  show Go p e below _ (T5.setTop (mkF m 101 #[.val (.int (-p0)), .val (.int (2 : Int32)), .val (.ref o2), .unset, .unset, .val (.int (0 : Int32)), .val (.int (0 : Int32))] [(.int (-p0)), (.ref w_DigitTens), (.int (0 : Int32)), (.ref o2)]))
  refine Go.of (fun _ k => XS.ineg X5.here hx rfl (hb hby d12_101) rfl k) ?_
  show Go p e below _ (T5.setTop (mkF m 102 #[.val (.int (-p0)), .val (.int (2 : Int32)), .val (.ref o2), .unset, .unset, .val (.int (0 : Int32)), .val (.int (0 : Int32))] [(.int (-(-p0))), (.ref w_DigitTens), (.int (0 : Int32)), (.ref o2)]))
  have c6 : Arr Z h3 w_DigitTens cl_w_DigitTens .byte := (Arr.other W3 Ar_w_DigitTens (Ne.symm ne_o2_w_DigitTens))
  refine Go.of (fun _ k => X5.baloadBytes hx (j := (-(-p0))) (v := (.int e102)) (by rw [e5]; exact c6.1) (State.isArrayOf_alike hZ.alike c6.2.1) c6.2.2 hin102 hat102 (g := (mkF m 102 #[.val (.int (-p0)), .val (.int (2 : Int32)), .val (.ref o2), .unset, .unset, .val (.int (0 : Int32)), .val (.int (0 : Int32))] [(.int (-(-p0))), (.ref w_DigitTens), (.int (0 : Int32)), (.ref o2)])) rfl rfl (hb hby d12_102) _ k) ?_
  show Go p e below _ (T5.setTop (mkF m 103 #[.val (.int (-p0)), .val (.int (2 : Int32)), .val (.ref o2), .unset, .unset, .val (.int (0 : Int32)), .val (.int (0 : Int32))] [(.int e102), (.int (0 : Int32)), (.ref o2)]))
  obtain ⟨clt7, Art7, qt7, st7, nt7, Ht7, Gt7⟩ := id V3
  have hint7 : ¬ ((0 : Int32) < 0 ∨ clt7.slots.size ≤ ((0 : Int32)).toNatClampNeg) := inb_of st7 ⟨by decide, by decide⟩
  obtain ⟨T8, h8, X8, e8, W8, st8⟩ := stB X5 hx hZ e5 Art7 (j := (0 : Int32)) hint7 (g := (mkF m 103 #[.val (.int (-p0)), .val (.int (2 : Int32)), .val (.ref o2), .unset, .unset, .val (.int (0 : Int32)), .val (.int (0 : Int32))] [(.int e102), (.int (0 : Int32)), (.ref o2)])) rfl rfl (hb hby d12_103)
  refine Go.of st8 ?_
  have N8 := Fr.snoc X8 N3 g_o2
  have K8 : Keep h0 h8 [o2] := (K3).wr W8 (Or.inl (List.mem_of_getElem? (i := 0) rfl))
  have Z8 : n0 ≤ h8.size := Nat.le_trans Z3 (Keep.of_wr W8).1
  have V8 : Arv Z h8 o2 kv .byte (16 : Int32) [(.int e102.toInt8.toInt32), (.int e83.toInt8.toInt32), (.int (0 : Int32)), (.int (0 : Int32)), (.int (0 : Int32)), (.int (0 : Int32)), (.int (0 : Int32)), (.int (0 : Int32)), (.int (0 : Int32)), (.int (0 : Int32)), (.int (0 : Int32)), (.int (0 : Int32)), (.int (0 : Int32)), (.int (0 : Int32)), (.int (0 : Int32)), (.int (0 : Int32))] (.int (0 : Int32)) := Arv.set Art7 qt7 st7 nt7 Ht7 Gt7 (fits_nar_byte _) W8 0 rfl (Nat.le_of_ble_eq_true rfl)
  show Go p e below _ (T8.setTop (mkF m 104 #[.val (.int (-p0)), .val (.int (2 : Int32)), .val (.ref o2), .unset, .unset, .val (.int (0 : Int32)), .val (.int (0 : Int32))] []))
  refine Go.of (fun _ k => XS.iload X8.here hx rfl (hb hby d12_104) rfl  k) ?_
  show Go p e below _ (T8.setTop (mkF m 106 #[.val (.int (-p0)), .val (.int (2 : Int32)), .val (.ref o2), .unset, .unset, .val (.int (0 : Int32)), .val (.int (0 : Int32))] [(.int (0 : Int32))]))
  refine Go.of (fun _ k => XS.ifYes X8.here hx rfl (pc0 := 106) (pc' := 118) rfl (hb hby d12_106) rfl ((if0 _ _).trans (teq (by decide : (0 : Int32) = (0 : Int32))).1) (by decide) (by decide) k) ?_
  show Go p e below _ (T8.setTop (mkF m 118 #[.val (.int (-p0)), .val (.int (2 : Int32)), .val (.ref o2), .unset, .unset, .val (.int (0 : Int32)), .val (.int (0 : Int32))] []))
  refine Go.of (fun _ k => XS.iload X8.here hx rfl (hb hby d12_118) rfl  k) ?_
  show Go p e below _ (T8.setTop (mkF m 120 #[.val (.int (-p0)), .val (.int (2 : Int32)), .val (.ref o2), .unset, .unset, .val (.int (0 : Int32)), .val (.int (0 : Int32))] [(.int (0 : Int32))]))
  obtain ⟨fs, hr, hrun, hended, hW, hsame⟩ := X8.leave (v := some (.int (0 : Int32))) (fun h => by rw [Bd.returns] at h; cases h)
  refine Go.mk _ _ ?_ hrun hended ⟨_, _, rfl, ?_, ⟨_, rfl⟩, hW, hsame.mono (by decide) (by decide)⟩
  · exact retI X8 hx Bd.returns (hb hby d12_120) hr
  · show Q12_2w Z p0 o2 w_DigitOnes cl_w_DigitOnes e83 kv w_DigitTens cl_w_DigitTens e102 h0 n0 _ T8.heap _
    rw [e8]
    exact ⟨rfl, N8, K8, V8⟩
def Q12_2n (Z : State) (p0 : Int32) (o2 : Addr) (w_DigitOnes : Addr) (cl_w_DigitOnes : Cell) (e83 : Int32) (kv : ClassId) (w_DigitTens : Addr) (cl_w_DigitTens : Cell) (e102 : Int32) (h0 : Heap) (n0 : Nat) (v : Option Value) (h : Heap) (L : List Loc) : Prop := v = some (.int (0 : Int32)) ∧ Fr n0 L ∧ Keep h0 h [o2] ∧ Arv Z h o2 kv .byte (2 : Int32) [(.int e102.toInt8.toInt32), (.int e83.toInt8.toInt32)] (.int (0 : Int32))
set_option maxRecDepth 65536 in
set_option maxHeartbeats 40000000 in
theorem rm12_2n (l : Launch) (Z : State) (a0 : Array Value) (hw : ∀ d ∈ tables_1, d.before a0 Z = true) (ws : List Jvm.Cond) (p0 : Int32) (o2 : Addr) (w_DigitOnes : Addr) (cl_w_DigitOnes : Cell) (e83 : Int32) (kv : ClassId) (w_DigitTens : Addr) (cl_w_DigitTens : Cell) (e102 : Int32) (h0 : Heap) (n0 : Nat) (Z0 : n0 ≤ h0.size) (hc4 : ¬ (p0 < (0 : Int32))) (hc25 : (-100 : Int32) < (-p0)) (S_DigitOnes : Sta Z h0 "java/lang/Integer" "DigitOnes" "[B" (.ref w_DigitOnes)) (Ar_w_DigitOnes : Arr Z h0 w_DigitOnes cl_w_DigitOnes .byte) (hin83 : ¬ ((-(-p0)) < 0 ∨ cl_w_DigitOnes.slots.size ≤ ((-(-p0))).toNatClampNeg)) (hat83 : cl_w_DigitOnes.slots[((-(-p0))).toNatClampNeg]? = some (.int e83)) (V_o2 : Arv Z h0 o2 kv .byte (2 : Int32) [(.int (0 : Int32)), (.int (0 : Int32))] (.int (0 : Int32))) (g_o2 : n0 ≤ o2) (hc88 : (-p0) < (-9 : Int32)) (S_DigitTens : Sta Z h0 "java/lang/Integer" "DigitTens" "[B" (.ref w_DigitTens)) (Ar_w_DigitTens : Arr Z h0 w_DigitTens cl_w_DigitTens .byte) (ne_o2_w_DigitTens : o2 ≠ w_DigitTens) (hin102 : ¬ ((-(-p0)) < 0 ∨ cl_w_DigitTens.slots.size ≤ ((-(-p0))).toNatClampNeg)) (hat102 : cl_w_DigitTens.slots[((-(-p0))).toNatClampNeg]? = some (.int e102)) :
    MetFree l (⟨"java/lang/Integer", "getChars", "(II[B)I"⟩ : MethodName) (head1 (Jvm.Cond.code (⟨"java/lang/Integer", "getChars", "(II[B)I"⟩ : MethodName) jdk_33_method_12_code 7 (some .int) :: ws) ({ frames := 0, cells := 0, slots := 0, locals := 0 } : Room)) (fun a U => a = #[(.int p0), (.int (2 : Int32)), (.ref o2)] ∧ Z.Warmed39 U.vm ∧ U.heap = h0) (fun _ _ _ _ _ => True) (fun _ U o U' => ∃ v L, o = .returned v ∧ Q12_2n Z p0 o2 w_DigitOnes cl_w_DigitOnes e83 kv w_DigitTens cl_w_DigitTens e102 h0 n0 v U'.heap L ∧ FrameEnd U o U' L ({ frames := 0, cells := 0, slots := 0, locals := 0 } : Room).cells ({ frames := 0, cells := 0, slots := 0, locals := 0 } : Room).slots) := by
  refine MetFree.of_bodySF (plainFor_of_name pn_java_lang_Integer) hisR ?_
  intro p e s m args below meth c s₁ Bd hml0 hP hK
  obtain ⟨rfl, hZ, hh⟩ := hP
  have hx := Bd.exec
  have hby := Bd.bytes
  have hml : c.maxLocals = 7 := hml0
  have hown : s.vm.findClass "java/lang/Integer" = some m.cls := findClass_of_methodNamed Bd.named
  have hnm := (name_of_methodNamed Bd.named Bd.method).1
  have X0 : Stand p l e ({ frames := 0, cells := 0, slots := 0, locals := 0 } : Room) s m #[(.int p0), (.int (2 : Int32)), (.ref o2)] below meth c s₁ [] 0 0 := Stand.of_body Bd
  have e0 : s₁.heap = h0 := by rw [← hh, Bd.state]; rfl
  have N0 := Fr.nil n0
  show Go p e below (fun o U' => ∃ v L, o = .returned v ∧ Q12_2n Z p0 o2 w_DigitOnes cl_w_DigitOnes e83 kv w_DigitTens cl_w_DigitTens e102 h0 n0 v U'.heap L ∧ FrameEnd s o U' L ({ frames := 0, cells := 0, slots := 0, locals := 0 } : Room).cells ({ frames := 0, cells := 0, slots := 0, locals := 0 } : Room).slots) (s₁.setTop (entryFrame m #[(.int p0), (.int (2 : Int32)), (.ref o2)] 7))
  refine Go.of (fun _ k => castTop (ef_12l2_2 m p0 o2) k) ?_
  show Go p e below _ (s₁.setTop (mkF m 0 #[.val (.int p0), .val (.int (2 : Int32)), .val (.ref o2), .unset, .unset, .unset, .unset] []))
  refine Go.of (fun _ k => XS.iloadN X0.here hx rfl (hb hby d12_0) rfl  k) ?_
  show Go p e below _ (s₁.setTop (mkF m 1 #[.val (.int p0), .val (.int (2 : Int32)), .val (.ref o2), .unset, .unset, .unset, .unset] [(.int (2 : Int32))]))
  refine Go.of (fun _ k => XS.istore X0.here hx rfl (hb hby d12_1) rfl (l' := #[.val (.int p0), .val (.int (2 : Int32)), .val (.ref o2), .unset, .unset, .val (.int (2 : Int32)), .unset]) rfl k) ?_
  show Go p e below _ (s₁.setTop (mkF m 3 #[.val (.int p0), .val (.int (2 : Int32)), .val (.ref o2), .unset, .unset, .val (.int (2 : Int32)), .unset] []))
  refine Go.of (fun _ k => XS.iloadN X0.here hx rfl (hb hby d12_3) rfl  k) ?_
  show Go p e below _ (s₁.setTop (mkF m 4 #[.val (.int p0), .val (.int (2 : Int32)), .val (.ref o2), .unset, .unset, .val (.int (2 : Int32)), .unset] [(.int p0)]))
  refine Go.of (fun _ k => XS.ifYes X0.here hx rfl (pc0 := 4) (pc' := 11) rfl (hb hby d12_4) rfl ((if0 _ _).trans (flt hc4).2.1) (by decide) (by decide) k) ?_
  show Go p e below _ (s₁.setTop (mkF m 11 #[.val (.int p0), .val (.int (2 : Int32)), .val (.ref o2), .unset, .unset, .val (.int (2 : Int32)), .unset] []))
  refine Go.of (fun _ k => XS.iconst X0.here hx rfl (hb hby d12_11) k) ?_
  show Go p e below _ (s₁.setTop (mkF m 12 #[.val (.int p0), .val (.int (2 : Int32)), .val (.ref o2), .unset, .unset, .val (.int (2 : Int32)), .unset] [(.int (0 : Int32))]))
  refine Go.of (fun _ k => XS.istore X0.here hx rfl (hb hby d12_12) rfl (l' := #[.val (.int p0), .val (.int (2 : Int32)), .val (.ref o2), .unset, .unset, .val (.int (2 : Int32)), .val (.int (0 : Int32))]) rfl k) ?_
  show Go p e below _ (s₁.setTop (mkF m 14 #[.val (.int p0), .val (.int (2 : Int32)), .val (.ref o2), .unset, .unset, .val (.int (2 : Int32)), .val (.int (0 : Int32))] []))
  refine Go.of (fun _ k => XS.iload X0.here hx rfl (hb hby d12_14) rfl  k) ?_
  show Go p e below _ (s₁.setTop (mkF m 16 #[.val (.int p0), .val (.int (2 : Int32)), .val (.ref o2), .unset, .unset, .val (.int (2 : Int32)), .val (.int (0 : Int32))] [(.int (0 : Int32))]))
  refine Go.of (fun _ k => XS.ifNo X0.here hx rfl (hb hby d12_16) rfl ((if0 _ _).trans (teq (by decide : (0 : Int32) = (0 : Int32))).2) k) ?_
  show Go p e below _ (s₁.setTop (mkF m 19 #[.val (.int p0), .val (.int (2 : Int32)), .val (.ref o2), .unset, .unset, .val (.int (2 : Int32)), .val (.int (0 : Int32))] []))
  refine Go.of (fun _ k => XS.iloadN X0.here hx rfl (hb hby d12_19) rfl  k) ?_
  show Go p e below _ (s₁.setTop (mkF m 20 #[.val (.int p0), .val (.int (2 : Int32)), .val (.ref o2), .unset, .unset, .val (.int (2 : Int32)), .val (.int (0 : Int32))] [(.int p0)]))
  refine Go.of (fun _ k => XS.ineg X0.here hx rfl (hb hby d12_20) rfl k) ?_
  show Go p e below _ (s₁.setTop (mkF m 21 #[.val (.int p0), .val (.int (2 : Int32)), .val (.ref o2), .unset, .unset, .val (.int (2 : Int32)), .val (.int (0 : Int32))] [(.int (-p0))]))
  refine Go.of (fun _ k => XS.istoreN X0.here hx rfl (hb hby d12_21) rfl (l' := #[.val (.int (-p0)), .val (.int (2 : Int32)), .val (.ref o2), .unset, .unset, .val (.int (2 : Int32)), .val (.int (0 : Int32))]) rfl k) ?_
  show Go p e below _ (s₁.setTop (mkF m 22 #[.val (.int (-p0)), .val (.int (2 : Int32)), .val (.ref o2), .unset, .unset, .val (.int (2 : Int32)), .val (.int (0 : Int32))] []))
  refine Go.of (fun _ k => XS.iloadN X0.here hx rfl (hb hby d12_22) rfl  k) ?_
  show Go p e below _ (s₁.setTop (mkF m 23 #[.val (.int (-p0)), .val (.int (2 : Int32)), .val (.ref o2), .unset, .unset, .val (.int (2 : Int32)), .val (.int (0 : Int32))] [(.int (-p0))]))
  refine Go.of (fun _ k => XS.bipush X0.here hx rfl (hb hby d12_23) k) ?_
  show Go p e below _ (s₁.setTop (mkF m 25 #[.val (.int (-p0)), .val (.int (2 : Int32)), .val (.ref o2), .unset, .unset, .val (.int (2 : Int32)), .val (.int (0 : Int32))] [(.int (-100 : Int32)), (.int (-p0))]))
  refine Go.of (fun _ k => XS.icmpYes X0.here hx rfl (pc0 := 25) (pc' := 72) rfl (hb hby d12_25) rfl (tlt hc25).2.2.1 (by decide) (by decide) k) ?_
  show Go p e below _ (s₁.setTop (mkF m 72 #[.val (.int (-p0)), .val (.int (2 : Int32)), .val (.ref o2), .unset, .unset, .val (.int (2 : Int32)), .val (.int (0 : Int32))] []))
  refine Go.of (fun _ k => XS.aloadN X0.here hx rfl (hb hby d12_72) rfl rfl k) ?_
  show Go p e below _ (s₁.setTop (mkF m 73 #[.val (.int (-p0)), .val (.int (2 : Int32)), .val (.ref o2), .unset, .unset, .val (.int (2 : Int32)), .val (.int (0 : Int32))] [(.ref o2)]))
  refine Go.of (fun _ k => XS.iinc X0.here hx rfl (hb hby d12_73) rfl (l' := #[.val (.int (-p0)), .val (.int (2 : Int32)), .val (.ref o2), .unset, .unset, .val (.int (1 : Int32)), .val (.int (0 : Int32))]) rfl k) ?_
  show Go p e below _ (s₁.setTop (mkF m 76 #[.val (.int (-p0)), .val (.int (2 : Int32)), .val (.ref o2), .unset, .unset, .val (.int (1 : Int32)), .val (.int (0 : Int32))] [(.ref o2)]))
  refine Go.of (fun _ k => XS.iload X0.here hx rfl (hb hby d12_76) rfl  k) ?_
  show Go p e below _ (s₁.setTop (mkF m 78 #[.val (.int (-p0)), .val (.int (2 : Int32)), .val (.ref o2), .unset, .unset, .val (.int (1 : Int32)), .val (.int (0 : Int32))] [(.int (1 : Int32)), (.ref o2)]))
  obtain ⟨T1, X1, e1, st1⟩ := getS2 X0 hx hZ hown (host := "") (Or.inl (hw _ (List.mem_of_getElem? (i := 73) rfl))) Via.refl e0 S_DigitOnes (g := (mkF m 78 #[.val (.int (-p0)), .val (.int (2 : Int32)), .val (.ref o2), .unset, .unset, .val (.int (1 : Int32)), .val (.int (0 : Int32))] [(.int (1 : Int32)), (.ref o2)])) rfl (hb hby d12_78)
  refine Go.of st1 ?_
  show Go p e below _ (T1.setTop (mkF m 81 #[.val (.int (-p0)), .val (.int (2 : Int32)), .val (.ref o2), .unset, .unset, .val (.int (1 : Int32)), .val (.int (0 : Int32))] [(.ref w_DigitOnes), (.int (1 : Int32)), (.ref o2)]))
  refine Go.of (fun _ k => XS.iloadN X1.here hx rfl (hb hby d12_81) rfl  k) ?_
  show Go p e below _ (T1.setTop (mkF m 82 #[.val (.int (-p0)), .val (.int (2 : Int32)), .val (.ref o2), .unset, .unset, .val (.int (1 : Int32)), .val (.int (0 : Int32))] [(.int (-p0)), (.ref w_DigitOnes), (.int (1 : Int32)), (.ref o2)]))
  refine Go.of (fun _ k => XS.ineg X1.here hx rfl (hb hby d12_82) rfl k) ?_
  show Go p e below _ (T1.setTop (mkF m 83 #[.val (.int (-p0)), .val (.int (2 : Int32)), .val (.ref o2), .unset, .unset, .val (.int (1 : Int32)), .val (.int (0 : Int32))] [(.int (-(-p0))), (.ref w_DigitOnes), (.int (1 : Int32)), (.ref o2)]))
  refine Go.of (fun _ k => X1.baloadBytes hx (j := (-(-p0))) (v := (.int e83)) (by rw [e1]; exact Ar_w_DigitOnes.1) (State.isArrayOf_alike hZ.alike Ar_w_DigitOnes.2.1) Ar_w_DigitOnes.2.2 hin83 hat83 (g := (mkF m 83 #[.val (.int (-p0)), .val (.int (2 : Int32)), .val (.ref o2), .unset, .unset, .val (.int (1 : Int32)), .val (.int (0 : Int32))] [(.int (-(-p0))), (.ref w_DigitOnes), (.int (1 : Int32)), (.ref o2)])) rfl rfl (hb hby d12_83) _ k) ?_
  show Go p e below _ (T1.setTop (mkF m 84 #[.val (.int (-p0)), .val (.int (2 : Int32)), .val (.ref o2), .unset, .unset, .val (.int (1 : Int32)), .val (.int (0 : Int32))] [(.int e83), (.int (1 : Int32)), (.ref o2)]))
  obtain ⟨clt2, Art2, qt2, st2, nt2, Ht2, Gt2⟩ := id V_o2
  have hint2 : ¬ ((1 : Int32) < 0 ∨ clt2.slots.size ≤ ((1 : Int32)).toNatClampNeg) := inb_of st2 ⟨by decide, by decide⟩
  obtain ⟨T3, h3, X3, e3, W3, st3⟩ := stB X1 hx hZ e1 Art2 (j := (1 : Int32)) hint2 (g := (mkF m 84 #[.val (.int (-p0)), .val (.int (2 : Int32)), .val (.ref o2), .unset, .unset, .val (.int (1 : Int32)), .val (.int (0 : Int32))] [(.int e83), (.int (1 : Int32)), (.ref o2)])) rfl rfl (hb hby d12_84)
  refine Go.of st3 ?_
  have N3 := Fr.snoc X3 N0 g_o2
  have K3 : Keep h0 h3 [o2] := ((Keep.refl h0 [o2])).wr W3 (Or.inl (List.mem_of_getElem? (i := 0) rfl))
  have Z3 : n0 ≤ h3.size := Nat.le_trans Z0 (Keep.of_wr W3).1
  have V3 : Arv Z h3 o2 kv .byte (2 : Int32) [(.int (0 : Int32)), (.int e83.toInt8.toInt32)] (.int (0 : Int32)) := Arv.set Art2 qt2 st2 nt2 Ht2 Gt2 (fits_nar_byte _) W3 1 rfl (Nat.le_of_ble_eq_true rfl)
  show Go p e below _ (T3.setTop (mkF m 85 #[.val (.int (-p0)), .val (.int (2 : Int32)), .val (.ref o2), .unset, .unset, .val (.int (1 : Int32)), .val (.int (0 : Int32))] []))
  refine Go.of (fun _ k => XS.iloadN X3.here hx rfl (hb hby d12_85) rfl  k) ?_
  show Go p e below _ (T3.setTop (mkF m 86 #[.val (.int (-p0)), .val (.int (2 : Int32)), .val (.ref o2), .unset, .unset, .val (.int (1 : Int32)), .val (.int (0 : Int32))] [(.int (-p0))]))
  refine Go.of (fun _ k => XS.bipush X3.here hx rfl (hb hby d12_86) k) ?_
  show Go p e below _ (T3.setTop (mkF m 88 #[.val (.int (-p0)), .val (.int (2 : Int32)), .val (.ref o2), .unset, .unset, .val (.int (1 : Int32)), .val (.int (0 : Int32))] [(.int (-9 : Int32)), (.int (-p0))]))
  refine Go.of (fun _ k => XS.icmpNo X3.here hx rfl (hb hby d12_88) rfl (tlt hc88).2.1 k) ?_
  show Go p e below _ (T3.setTop (mkF m 91 #[.val (.int (-p0)), .val (.int (2 : Int32)), .val (.ref o2), .unset, .unset, .val (.int (1 : Int32)), .val (.int (0 : Int32))] []))
  refine Go.of (fun _ k => XS.aloadN X3.here hx rfl (hb hby d12_91) rfl rfl k) ?_
  show Go p e below _ (T3.setTop (mkF m 92 #[.val (.int (-p0)), .val (.int (2 : Int32)), .val (.ref o2), .unset, .unset, .val (.int (1 : Int32)), .val (.int (0 : Int32))] [(.ref o2)]))
  refine Go.of (fun _ k => XS.iinc X3.here hx rfl (hb hby d12_92) rfl (l' := #[.val (.int (-p0)), .val (.int (2 : Int32)), .val (.ref o2), .unset, .unset, .val (.int (0 : Int32)), .val (.int (0 : Int32))]) rfl k) ?_
  show Go p e below _ (T3.setTop (mkF m 95 #[.val (.int (-p0)), .val (.int (2 : Int32)), .val (.ref o2), .unset, .unset, .val (.int (0 : Int32)), .val (.int (0 : Int32))] [(.ref o2)]))
  refine Go.of (fun _ k => XS.iload X3.here hx rfl (hb hby d12_95) rfl  k) ?_
  show Go p e below _ (T3.setTop (mkF m 97 #[.val (.int (-p0)), .val (.int (2 : Int32)), .val (.ref o2), .unset, .unset, .val (.int (0 : Int32)), .val (.int (0 : Int32))] [(.int (0 : Int32)), (.ref o2)]))
  have c4 : Sta Z h3 "java/lang/Integer" "DigitTens" "[B" (.ref w_DigitTens) := (Sta.wr W3 S_DigitTens)
  obtain ⟨T5, X5, e5, st5⟩ := getS2 X3 hx hZ hown (host := "") (Or.inl (hw _ (List.mem_of_getElem? (i := 188) rfl))) Via.refl e3 c4 (g := (mkF m 97 #[.val (.int (-p0)), .val (.int (2 : Int32)), .val (.ref o2), .unset, .unset, .val (.int (0 : Int32)), .val (.int (0 : Int32))] [(.int (0 : Int32)), (.ref o2)])) rfl (hb hby d12_97)
  refine Go.of st5 ?_
  show Go p e below _ (T5.setTop (mkF m 100 #[.val (.int (-p0)), .val (.int (2 : Int32)), .val (.ref o2), .unset, .unset, .val (.int (0 : Int32)), .val (.int (0 : Int32))] [(.ref w_DigitTens), (.int (0 : Int32)), (.ref o2)]))
  refine Go.of (fun _ k => XS.iloadN X5.here hx rfl (hb hby d12_100) rfl  k) ?_
  show Go p e below _ (T5.setTop (mkF m 101 #[.val (.int (-p0)), .val (.int (2 : Int32)), .val (.ref o2), .unset, .unset, .val (.int (0 : Int32)), .val (.int (0 : Int32))] [(.int (-p0)), (.ref w_DigitTens), (.int (0 : Int32)), (.ref o2)]))
  refine Go.of (fun _ k => XS.ineg X5.here hx rfl (hb hby d12_101) rfl k) ?_
  show Go p e below _ (T5.setTop (mkF m 102 #[.val (.int (-p0)), .val (.int (2 : Int32)), .val (.ref o2), .unset, .unset, .val (.int (0 : Int32)), .val (.int (0 : Int32))] [(.int (-(-p0))), (.ref w_DigitTens), (.int (0 : Int32)), (.ref o2)]))
  have c6 : Arr Z h3 w_DigitTens cl_w_DigitTens .byte := (Arr.other W3 Ar_w_DigitTens (Ne.symm ne_o2_w_DigitTens))
  refine Go.of (fun _ k => X5.baloadBytes hx (j := (-(-p0))) (v := (.int e102)) (by rw [e5]; exact c6.1) (State.isArrayOf_alike hZ.alike c6.2.1) c6.2.2 hin102 hat102 (g := (mkF m 102 #[.val (.int (-p0)), .val (.int (2 : Int32)), .val (.ref o2), .unset, .unset, .val (.int (0 : Int32)), .val (.int (0 : Int32))] [(.int (-(-p0))), (.ref w_DigitTens), (.int (0 : Int32)), (.ref o2)])) rfl rfl (hb hby d12_102) _ k) ?_
  show Go p e below _ (T5.setTop (mkF m 103 #[.val (.int (-p0)), .val (.int (2 : Int32)), .val (.ref o2), .unset, .unset, .val (.int (0 : Int32)), .val (.int (0 : Int32))] [(.int e102), (.int (0 : Int32)), (.ref o2)]))
  obtain ⟨clt7, Art7, qt7, st7, nt7, Ht7, Gt7⟩ := id V3
  have hint7 : ¬ ((0 : Int32) < 0 ∨ clt7.slots.size ≤ ((0 : Int32)).toNatClampNeg) := inb_of st7 ⟨by decide, by decide⟩
  obtain ⟨T8, h8, X8, e8, W8, st8⟩ := stB X5 hx hZ e5 Art7 (j := (0 : Int32)) hint7 (g := (mkF m 103 #[.val (.int (-p0)), .val (.int (2 : Int32)), .val (.ref o2), .unset, .unset, .val (.int (0 : Int32)), .val (.int (0 : Int32))] [(.int e102), (.int (0 : Int32)), (.ref o2)])) rfl rfl (hb hby d12_103)
  refine Go.of st8 ?_
  have N8 := Fr.snoc X8 N3 g_o2
  have K8 : Keep h0 h8 [o2] := (K3).wr W8 (Or.inl (List.mem_of_getElem? (i := 0) rfl))
  have Z8 : n0 ≤ h8.size := Nat.le_trans Z3 (Keep.of_wr W8).1
  have V8 : Arv Z h8 o2 kv .byte (2 : Int32) [(.int e102.toInt8.toInt32), (.int e83.toInt8.toInt32)] (.int (0 : Int32)) := Arv.set Art7 qt7 st7 nt7 Ht7 Gt7 (fits_nar_byte _) W8 0 rfl (Nat.le_of_ble_eq_true rfl)
  show Go p e below _ (T8.setTop (mkF m 104 #[.val (.int (-p0)), .val (.int (2 : Int32)), .val (.ref o2), .unset, .unset, .val (.int (0 : Int32)), .val (.int (0 : Int32))] []))
  refine Go.of (fun _ k => XS.iload X8.here hx rfl (hb hby d12_104) rfl  k) ?_
  show Go p e below _ (T8.setTop (mkF m 106 #[.val (.int (-p0)), .val (.int (2 : Int32)), .val (.ref o2), .unset, .unset, .val (.int (0 : Int32)), .val (.int (0 : Int32))] [(.int (0 : Int32))]))
  refine Go.of (fun _ k => XS.ifYes X8.here hx rfl (pc0 := 106) (pc' := 118) rfl (hb hby d12_106) rfl ((if0 _ _).trans (teq (by decide : (0 : Int32) = (0 : Int32))).1) (by decide) (by decide) k) ?_
  show Go p e below _ (T8.setTop (mkF m 118 #[.val (.int (-p0)), .val (.int (2 : Int32)), .val (.ref o2), .unset, .unset, .val (.int (0 : Int32)), .val (.int (0 : Int32))] []))
  refine Go.of (fun _ k => XS.iload X8.here hx rfl (hb hby d12_118) rfl  k) ?_
  show Go p e below _ (T8.setTop (mkF m 120 #[.val (.int (-p0)), .val (.int (2 : Int32)), .val (.ref o2), .unset, .unset, .val (.int (0 : Int32)), .val (.int (0 : Int32))] [(.int (0 : Int32))]))
  obtain ⟨fs, hr, hrun, hended, hW, hsame⟩ := X8.leave (v := some (.int (0 : Int32))) (fun h => by rw [Bd.returns] at h; cases h)
  refine Go.mk _ _ ?_ hrun hended ⟨_, _, rfl, ?_, ⟨_, rfl⟩, hW, hsame.mono (by decide) (by decide)⟩
  · exact retI X8 hx Bd.returns (hb hby d12_120) hr
  · show Q12_2n Z p0 o2 w_DigitOnes cl_w_DigitOnes e83 kv w_DigitTens cl_w_DigitTens e102 h0 n0 _ T8.heap _
    rw [e8]
    exact ⟨rfl, N8, K8, V8⟩
theorem ef_10l1_2 (m : MethodId) (x0 : Addr) : entryFrame m #[(.ref x0), (.int (2 : Int32))] 3 = mkF m 0 #[.val (.ref x0), .val (.int (2 : Int32)), .unset] [] := by first | (simp [entryFrame, mkF, argsToLocals, Value.category]; done) | rfl
def Q10_2 (Z : State) (o0 : Addr) (f_o0_value : Addr) (kv : ClassId) (h0 : Heap) (n0 : Nat) (v : Option Value) (h : Heap) (L : List Loc) : Prop := v = none ∧ Fr n0 L ∧ h = h0
set_option maxRecDepth 65536 in
set_option maxHeartbeats 40000000 in
theorem rm10_2 (l : Launch) (Z : State) (a0 : Array Value) (hw : ∀ d ∈ tables_1, d.before a0 Z = true) (ws : List Jvm.Cond) (o0 : Addr) (f_o0_value : Addr) (kv : ClassId) (h0 : Heap) (n0 : Nat) (Z0 : n0 ≤ h0.size) (F_o0_value : Fld Z h0 o0 "java/lang/AbstractStringBuilder" "value" "[B" (.ref f_o0_value)) (V_f_o0_value : Arv Z h0 f_o0_value kv .byte (16 : Int32) [(.int (0 : Int32)), (.int (0 : Int32)), (.int (0 : Int32)), (.int (0 : Int32)), (.int (0 : Int32)), (.int (0 : Int32)), (.int (0 : Int32)), (.int (0 : Int32)), (.int (0 : Int32)), (.int (0 : Int32)), (.int (0 : Int32)), (.int (0 : Int32)), (.int (0 : Int32)), (.int (0 : Int32)), (.int (0 : Int32)), (.int (0 : Int32))] (.int (0 : Int32))) (F_o0_coder : Fld Z h0 o0 "java/lang/AbstractStringBuilder" "coder" "B" (.int (0 : Int32))) :
    MetFree l (⟨"java/lang/AbstractStringBuilder", "ensureCapacityInternal", "(I)V"⟩ : MethodName) (head1 (Jvm.Cond.code (⟨"java/lang/AbstractStringBuilder", "ensureCapacityInternal", "(I)V"⟩ : MethodName) jdk_68_method_9_code 3 none :: ws) ({ frames := 0, cells := 0, slots := 0, locals := 0 } : Room)) (fun a U => a = #[(.ref o0), (.int (2 : Int32))] ∧ Z.Warmed39 U.vm ∧ U.heap = h0) (fun _ _ _ _ _ => True) (fun _ U o U' => ∃ v L, o = .returned v ∧ Q10_2 Z o0 f_o0_value kv h0 n0 v U'.heap L ∧ FrameEnd U o U' L ({ frames := 0, cells := 0, slots := 0, locals := 0 } : Room).cells ({ frames := 0, cells := 0, slots := 0, locals := 0 } : Room).slots) := by
  refine MetFree.of_bodySF (plainFor_of_name pn_java_lang_AbstractStringBuilder) hisR ?_
  intro p e s m args below meth c s₁ Bd hml0 hP hK
  obtain ⟨rfl, hZ, hh⟩ := hP
  have hx := Bd.exec
  have hby := Bd.bytes
  have hml : c.maxLocals = 3 := hml0
  have hown : s.vm.findClass "java/lang/AbstractStringBuilder" = some m.cls := findClass_of_methodNamed Bd.named
  have hnm := (name_of_methodNamed Bd.named Bd.method).1
  have X0 : Stand p l e ({ frames := 0, cells := 0, slots := 0, locals := 0 } : Room) s m #[(.ref o0), (.int (2 : Int32))] below meth c s₁ [] 0 0 := Stand.of_body Bd
  have e0 : s₁.heap = h0 := by rw [← hh, Bd.state]; rfl
  have N0 := Fr.nil n0
  show Go p e below (fun o U' => ∃ v L, o = .returned v ∧ Q10_2 Z o0 f_o0_value kv h0 n0 v U'.heap L ∧ FrameEnd s o U' L ({ frames := 0, cells := 0, slots := 0, locals := 0 } : Room).cells ({ frames := 0, cells := 0, slots := 0, locals := 0 } : Room).slots) (s₁.setTop (entryFrame m #[(.ref o0), (.int (2 : Int32))] 3))
  refine Go.of (fun _ k => castTop (ef_10l1_2 m o0) k) ?_
  show Go p e below _ (s₁.setTop (mkF m 0 #[.val (.ref o0), .val (.int (2 : Int32)), .unset] []))
  refine Go.of (fun _ k => XS.aloadN X0.here hx rfl (hb hby d10_0) rfl rfl k) ?_
  show Go p e below _ (s₁.setTop (mkF m 1 #[.val (.ref o0), .val (.int (2 : Int32)), .unset] [(.ref o0)]))
  obtain ⟨T1, X1, e1, st1⟩ := getF X0 hx hZ hown (host := "") (Or.inl (hw _ (List.mem_of_getElem? (i := 40) rfl))) Via.refl e0 F_o0_value (g := (mkF m 1 #[.val (.ref o0), .val (.int (2 : Int32)), .unset] [(.ref o0)])) rfl rfl (hb hby d10_1)
  refine Go.of st1 ?_
  show Go p e below _ (T1.setTop (mkF m 4 #[.val (.ref o0), .val (.int (2 : Int32)), .unset] [(.ref f_o0_value)]))
  obtain ⟨clt2, Art2, qt2, st2, nt2, Ht2, Gt2⟩ := id V_f_o0_value
  refine Go.of (fun _ k => X1.arraylength hx (by rw [e1]; exact Art2.1) (State.isArrayOf_alike hZ.alike Art2.2.1) (g := (mkF m 4 #[.val (.ref o0), .val (.int (2 : Int32)), .unset] [(.ref f_o0_value)])) rfl rfl (hb hby d10_4) _ k) ?_
  rw [len_of st2 nt2]
  show Go p e below _ (T1.setTop (mkF m 5 #[.val (.ref o0), .val (.int (2 : Int32)), .unset] [(.int (16 : Int32))]))
  refine Go.of (fun _ k => XS.aloadN X1.here hx rfl (hb hby d10_5) rfl rfl k) ?_
  show Go p e below _ (T1.setTop (mkF m 6 #[.val (.ref o0), .val (.int (2 : Int32)), .unset] [(.ref o0), (.int (16 : Int32))]))
  obtain ⟨T3, X3, e3, st3⟩ := getF X1 hx hZ hown (host := "") (Or.inl (hw _ (List.mem_of_getElem? (i := 42) rfl))) Via.refl e1 F_o0_coder (g := (mkF m 6 #[.val (.ref o0), .val (.int (2 : Int32)), .unset] [(.ref o0), (.int (16 : Int32))])) rfl rfl (hb hby d10_6)
  refine Go.of st3 ?_
  show Go p e below _ (T3.setTop (mkF m 9 #[.val (.ref o0), .val (.int (2 : Int32)), .unset] [(.int (0 : Int32)), (.int (16 : Int32))]))
  refine Go.of (fun _ k => XS.ishr X3.here hx rfl (hb hby d10_9) rfl k) ?_
  show Go p e below _ (T3.setTop (mkF m 10 #[.val (.ref o0), .val (.int (2 : Int32)), .unset] [(.int (16 : Int32))]))
  refine Go.of (fun _ k => XS.istoreN X3.here hx rfl (hb hby d10_10) rfl (l' := #[.val (.ref o0), .val (.int (2 : Int32)), .val (.int (16 : Int32))]) rfl k) ?_
  show Go p e below _ (T3.setTop (mkF m 11 #[.val (.ref o0), .val (.int (2 : Int32)), .val (.int (16 : Int32))] []))
  refine Go.of (fun _ k => XS.iloadN X3.here hx rfl (hb hby d10_11) rfl  k) ?_
  show Go p e below _ (T3.setTop (mkF m 12 #[.val (.ref o0), .val (.int (2 : Int32)), .val (.int (16 : Int32))] [(.int (2 : Int32))]))
  refine Go.of (fun _ k => XS.iloadN X3.here hx rfl (hb hby d10_12) rfl  k) ?_
  show Go p e below _ (T3.setTop (mkF m 13 #[.val (.ref o0), .val (.int (2 : Int32)), .val (.int (16 : Int32))] [(.int (16 : Int32)), (.int (2 : Int32))]))
  refine Go.of (fun _ k => XS.isub X3.here hx rfl (hb hby d10_13) rfl k) ?_
  show Go p e below _ (T3.setTop (mkF m 14 #[.val (.ref o0), .val (.int (2 : Int32)), .val (.int (16 : Int32))] [(.int (-14 : Int32))]))
  refine Go.of (fun _ k => XS.ifYes X3.here hx rfl (pc0 := 14) (pc' := 38) rfl (hb hby d10_14) rfl ((if0 _ _).trans (flt (by decide : ¬ ((0 : Int32) < (-14 : Int32)))).2.2.2) (by decide) (by decide) k) ?_
  show Go p e below _ (T3.setTop (mkF m 38 #[.val (.ref o0), .val (.int (2 : Int32)), .val (.int (16 : Int32))] []))
  obtain ⟨fs, hr, hrun, hended, hW, hsame⟩ := X3.leave (v := none) (fun _ => rfl)
  refine Go.mk _ _ ?_ hrun hended ⟨_, _, rfl, ?_, ⟨_, rfl⟩, hW, hsame.mono (by decide) (by decide)⟩
  · exact X3.returnOut hx Bd.returns (hb hby d10_38) hr
  · show Q10_2 Z o0 f_o0_value kv h0 n0 _ T3.heap _
    rw [e3]
    exact ⟨rfl, N0, rfl⟩
def Q8_2 (Z : State) (o0 : Addr) (p1 : Int32) (f_o0_value : Addr) (kv : ClassId) (w_COMPACT_STRINGS : Int32) (e83_30 : Int32) (e102_30 : Int32) (w_DigitOnes : Addr) (cl_w_DigitOnes : Cell) (w_DigitTens : Addr) (cl_w_DigitTens : Cell) (h0 : Heap) (n0 : Nat) (v : Option Value) (h : Heap) (L : List Loc) : Prop := v = some (.ref o0) ∧ Fr n0 L ∧ Keep h0 h [f_o0_value, o0] ∧ Arv Z h f_o0_value kv .byte (16 : Int32) [(.int e102_30.toInt8.toInt32), (.int e83_30.toInt8.toInt32), (.int (0 : Int32)), (.int (0 : Int32)), (.int (0 : Int32)), (.int (0 : Int32)), (.int (0 : Int32)), (.int (0 : Int32)), (.int (0 : Int32)), (.int (0 : Int32)), (.int (0 : Int32)), (.int (0 : Int32)), (.int (0 : Int32)), (.int (0 : Int32)), (.int (0 : Int32)), (.int (0 : Int32))] (.int (0 : Int32)) ∧ Exa Z h o0 "java/lang/StringBuilder" ∧ Fld Z h o0 "java/lang/AbstractStringBuilder" "coder" "B" (.int (0 : Int32)) ∧ Fld Z h o0 "java/lang/AbstractStringBuilder" "count" "I" (.int (2 : Int32)) ∧ Fld Z h o0 "java/lang/AbstractStringBuilder" "value" "[B" (.ref f_o0_value)
set_option maxRecDepth 65536 in
set_option maxHeartbeats 40000000 in
theorem rm8_2 (l : Launch) (Z : State) (a0 : Array Value) (hw : ∀ d ∈ tables_1, d.before a0 Z = true) (ws : List Jvm.Cond) (o0 : Addr) (p1 : Int32) (f_o0_value : Addr) (kv : ClassId) (w_COMPACT_STRINGS : Int32) (e83_30 : Int32) (e102_30 : Int32) (w_DigitOnes : Addr) (cl_w_DigitOnes : Cell) (w_DigitTens : Addr) (cl_w_DigitTens : Cell) (h0 : Heap) (n0 : Nat) (Z0 : n0 ≤ h0.size) (F_o0_count : Fld Z h0 o0 "java/lang/AbstractStringBuilder" "count" "I" (.int (0 : Int32))) (hc3_2 : ¬ (p1 < (0 : Int32))) (hc24_2 : ¬ ((-10 : Int32) < (-p1))) (hc24_1_2 : (-100 : Int32) < (-p1)) (F_o0_value : Fld Z h0 o0 "java/lang/AbstractStringBuilder" "value" "[B" (.ref f_o0_value)) (V_f_o0_value : Arv Z h0 f_o0_value kv .byte (16 : Int32) [(.int (0 : Int32)), (.int (0 : Int32)), (.int (0 : Int32)), (.int (0 : Int32)), (.int (0 : Int32)), (.int (0 : Int32)), (.int (0 : Int32)), (.int (0 : Int32)), (.int (0 : Int32)), (.int (0 : Int32)), (.int (0 : Int32)), (.int (0 : Int32)), (.int (0 : Int32)), (.int (0 : Int32)), (.int (0 : Int32)), (.int (0 : Int32))] (.int (0 : Int32))) (F_o0_coder : Fld Z h0 o0 "java/lang/AbstractStringBuilder" "coder" "B" (.int (0 : Int32))) (E_o0 : Exa Z h0 o0 "java/lang/StringBuilder") (S_COMPACT_STRINGS : Sta Z h0 "java/lang/String" "COMPACT_STRINGS" "Z" (.int w_COMPACT_STRINGS)) (hc3_4 : ¬ (w_COMPACT_STRINGS = (0 : Int32))) (S_DigitOnes : Sta Z h0 "java/lang/Integer" "DigitOnes" "[B" (.ref w_DigitOnes)) (Ar_w_DigitOnes : Arr Z h0 w_DigitOnes cl_w_DigitOnes .byte) (hin83_6 : ¬ ((-(-p1)) < 0 ∨ cl_w_DigitOnes.slots.size ≤ ((-(-p1))).toNatClampNeg)) (hat83_6 : cl_w_DigitOnes.slots[((-(-p1))).toNatClampNeg]? = some (.int e83_30)) (g_f_o0_value : n0 ≤ f_o0_value) (hc88_6 : (-p1) < (-9 : Int32)) (S_DigitTens : Sta Z h0 "java/lang/Integer" "DigitTens" "[B" (.ref w_DigitTens)) (Ar_w_DigitTens : Arr Z h0 w_DigitTens cl_w_DigitTens .byte) (ne_f_o0_value_w_DigitTens : f_o0_value ≠ w_DigitTens) (hin102_6 : ¬ ((-(-p1)) < 0 ∨ cl_w_DigitTens.slots.size ≤ ((-(-p1))).toNatClampNeg)) (hat102_6 : cl_w_DigitTens.slots[((-(-p1))).toNatClampNeg]? = some (.int e102_30)) (ne_f_o0_value_o0 : f_o0_value ≠ o0) (g_o0 : n0 ≤ o0) :
    MetFree l (⟨"java/lang/AbstractStringBuilder", "append", "(I)Ljava/lang/AbstractStringBuilder;"⟩ : MethodName) (head1 (Jvm.Cond.code (⟨"java/lang/AbstractStringBuilder", "append", "(I)Ljava/lang/AbstractStringBuilder;"⟩ : MethodName) jdk_68_method_32_code 4 (some (.object "java/lang/AbstractStringBuilder")) :: ws) ({ frames := 1, cells := 0, slots := 0, locals := 18 } : Room)) (fun a U => a = #[(.ref o0), (.int p1)] ∧ Z.Warmed39 U.vm ∧ U.heap = h0) (fun _ _ _ _ _ => True) (fun _ U o U' => ∃ v L, o = .returned v ∧ Q8_2 Z o0 p1 f_o0_value kv w_COMPACT_STRINGS e83_30 e102_30 w_DigitOnes cl_w_DigitOnes w_DigitTens cl_w_DigitTens h0 n0 v U'.heap L ∧ FrameEnd U o U' L ({ frames := 1, cells := 0, slots := 0, locals := 18 } : Room).cells ({ frames := 1, cells := 0, slots := 0, locals := 18 } : Room).slots) := by
  refine MetFree.of_bodySF (plainFor_of_name pn_java_lang_AbstractStringBuilder) hisR ?_
  intro p e s m args below meth c s₁ Bd hml0 hP hK
  obtain ⟨rfl, hZ, hh⟩ := hP
  have hx := Bd.exec
  have hby := Bd.bytes
  have hml : c.maxLocals = 4 := hml0
  have hown : s.vm.findClass "java/lang/AbstractStringBuilder" = some m.cls := findClass_of_methodNamed Bd.named
  have hnm := (name_of_methodNamed Bd.named Bd.method).1
  have X0 : Stand p l e ({ frames := 1, cells := 0, slots := 0, locals := 18 } : Room) s m #[(.ref o0), (.int p1)] below meth c s₁ [] 0 0 := Stand.of_body Bd
  have e0 : s₁.heap = h0 := by rw [← hh, Bd.state]; rfl
  have N0 := Fr.nil n0
  show Go p e below (fun o U' => ∃ v L, o = .returned v ∧ Q8_2 Z o0 p1 f_o0_value kv w_COMPACT_STRINGS e83_30 e102_30 w_DigitOnes cl_w_DigitOnes w_DigitTens cl_w_DigitTens h0 n0 v U'.heap L ∧ FrameEnd s o U' L ({ frames := 1, cells := 0, slots := 0, locals := 18 } : Room).cells ({ frames := 1, cells := 0, slots := 0, locals := 18 } : Room).slots) (s₁.setTop (entryFrame m #[(.ref o0), (.int p1)] 4))
  refine Go.of (fun _ k => castTop (ef_8 m o0 p1) k) ?_
  show Go p e below _ (s₁.setTop (mkF m 0 #[.val (.ref o0), .val (.int p1), .unset, .unset] []))
  refine Go.of (fun _ k => XS.aloadN X0.here hx rfl (hb hby d8_0) rfl rfl k) ?_
  show Go p e below _ (s₁.setTop (mkF m 1 #[.val (.ref o0), .val (.int p1), .unset, .unset] [(.ref o0)]))
  obtain ⟨T1, X1, e1, st1⟩ := getF X0 hx hZ hown (host := "") (Or.inl (hw _ (List.mem_of_getElem? (i := 54) rfl))) Via.refl e0 F_o0_count (g := (mkF m 1 #[.val (.ref o0), .val (.int p1), .unset, .unset] [(.ref o0)])) rfl rfl (hb hby d8_1)
  refine Go.of st1 ?_
  show Go p e below _ (T1.setTop (mkF m 4 #[.val (.ref o0), .val (.int p1), .unset, .unset] [(.int (0 : Int32))]))
  refine Go.of (fun _ k => XS.istoreN X1.here hx rfl (hb hby d8_4) rfl (l' := #[.val (.ref o0), .val (.int p1), .val (.int (0 : Int32)), .unset]) rfl k) ?_
  show Go p e below _ (T1.setTop (mkF m 5 #[.val (.ref o0), .val (.int p1), .val (.int (0 : Int32)), .unset] []))
  refine Go.of (fun _ k => XS.iloadN X1.here hx rfl (hb hby d8_5) rfl  k) ?_
  show Go p e below _ (T1.setTop (mkF m 6 #[.val (.ref o0), .val (.int p1), .val (.int (0 : Int32)), .unset] [(.int (0 : Int32))]))
  refine Go.of (fun _ k => XS.iloadN X1.here hx rfl (hb hby d8_6) rfl  k) ?_
  show Go p e below _ (T1.setTop (mkF m 7 #[.val (.ref o0), .val (.int p1), .val (.int (0 : Int32)), .unset] [(.int p1), (.int (0 : Int32))]))
  obtain ⟨_, _, ⟨T2, L2, k2, n2⟩, -, X2, ⟨Lc2, hQ2, l2, y2, z2⟩, st2⟩ := Jvm.LawKit.callS X1 hx (y := (⟨"java/lang/Integer", "stringSize", "(I)I"⟩ : MethodName)) hown (mvT hZ (hw _ (List.mem_of_getElem? (i := 56) rfl))) (mvT hZ (hw _ (List.mem_of_getElem? (i := 57) rfl))) (mvT hZ (hw _ (List.mem_of_getElem? (i := 58) rfl))) (mvT hZ (hw _ (List.mem_of_getElem? (i := 59) rfl))) (by decide) (backOf (W := 1) (rm9_2 l Z a0 hw [] p1 h0 n0 Z0 hc3_2 hc24_2 hc24_1_2) hZ (hw _ (List.mem_of_getElem? (i := 59) rfl)) (hw _ (List.mem_of_getElem? (i := 58) rfl)) (by decide) (by decide)) (g := (mkF m 7 #[.val (.ref o0), .val (.int p1), .val (.int (0 : Int32)), .unset] [(.int p1), (.int (0 : Int32))])) rfl (by rw [hml]; rfl) (argsL := [(.int p1)]) (rest := [(.int (0 : Int32))]) (lenOf pd_1 rfl) rfl (by show 2 * 0 + _ ≤ _; exact Nat.le_of_eq rfl) (hb hby d8_7) (fun _ _ => ⟨rfl, e1, (by decide : 0 + 0 ≤ _), (by decide : 0 + 0 ≤ _)⟩)
  dsimp only [Pt.U, Pt.locs, Pt.cells, Pt.slots] at X2 l2 y2 z2 st2 hQ2
  subst l2 y2 z2
  obtain ⟨rfl, Nq2, q2_0⟩ := hQ2
  have N2 := Fr.app N0 Nq2
  refine Go.of st2 ?_
  show Go p e below _ (T2.setTop (mkF m 10 #[.val (.ref o0), .val (.int p1), .val (.int (0 : Int32)), .unset] [(.int (2 : Int32)), (.int (0 : Int32))]))
  refine Go.of (fun _ k => XS.iadd X2.here hx rfl (hb hby d8_10) rfl k) ?_
  show Go p e below _ (T2.setTop (mkF m 11 #[.val (.ref o0), .val (.int p1), .val (.int (0 : Int32)), .unset] [(.int (2 : Int32))]))
  refine Go.of (fun _ k => XS.istoreN X2.here hx rfl (hb hby d8_11) rfl (l' := #[.val (.ref o0), .val (.int p1), .val (.int (0 : Int32)), .val (.int (2 : Int32))]) rfl k) ?_
  show Go p e below _ (T2.setTop (mkF m 12 #[.val (.ref o0), .val (.int p1), .val (.int (0 : Int32)), .val (.int (2 : Int32))] []))
  refine Go.of (fun _ k => XS.aloadN X2.here hx rfl (hb hby d8_12) rfl rfl k) ?_
  show Go p e below _ (T2.setTop (mkF m 13 #[.val (.ref o0), .val (.int p1), .val (.int (0 : Int32)), .val (.int (2 : Int32))] [(.ref o0)]))
  refine Go.of (fun _ k => XS.iloadN X2.here hx rfl (hb hby d8_13) rfl  k) ?_
  show Go p e below _ (T2.setTop (mkF m 14 #[.val (.ref o0), .val (.int p1), .val (.int (0 : Int32)), .val (.int (2 : Int32))] [(.int (2 : Int32)), (.ref o0)]))
  obtain ⟨cq3, q3, q3'⟩ := E_o0.cell
  obtain ⟨_, _, ⟨T3, L3, k3, n3⟩, -, X3, ⟨Lc3, hQ3, l3, y3, z3⟩, st3⟩ := X2.privateBack hx (y := (⟨"java/lang/AbstractStringBuilder", "ensureCapacityInternal", "(I)V"⟩ : MethodName)) hown (mvT hZ (hw _ (List.mem_of_getElem? (i := 60) rfl))) (mvT hZ (hw _ (List.mem_of_getElem? (i := 61) rfl))) (own_selpriv (mvT hZ (hw _ (List.mem_of_getElem? (i := 63) rfl))) (Cond.privateMethod_at (mvP hZ (hw _ (List.mem_of_getElem? (i := 62) rfl)) (args := #[]))) (mvT hZ (hw _ (List.mem_of_getElem? (i := 61) rfl))) (by decide)) (Cond.privateMethod_at (mvP hZ (hw _ (List.mem_of_getElem? (i := 62) rfl)) (args := #[]))) (mvT hZ (hw _ (List.mem_of_getElem? (i := 64) rfl))) (by decide) (backOf (W := 0) (rm10_2 l Z a0 hw [] o0 f_o0_value kv h0 n0 Z0 F_o0_value V_f_o0_value F_o0_coder) hZ (hw _ (List.mem_of_getElem? (i := 64) rfl)) (hw _ (List.mem_of_getElem? (i := 34) rfl)) (by decide) (by decide)) (g := (mkF m 14 #[.val (.ref o0), .val (.int p1), .val (.int (0 : Int32)), .val (.int (2 : Int32))] [(.int (2 : Int32)), (.ref o0)])) rfl (by rw [hml]; rfl) (Steps.refl _) (a := o0) (by rw [q2_0]; exact q3) q3' (argsL := [(.int (2 : Int32))]) (rest := []) (lenOf pd_0 rfl) rfl (by show 2 * 0 + _ ≤ _; exact Nat.le_of_eq rfl) (hb hby d8_14) (fun _ _ => ⟨rfl, q2_0, (by decide : 0 + 0 ≤ _), (by decide : 0 + 0 ≤ _)⟩)
  dsimp only [Pt.U, Pt.locs, Pt.cells, Pt.slots] at X3 l3 y3 z3 st3 hQ3
  subst l3 y3 z3
  obtain ⟨rfl, Nq3, q3_0⟩ := hQ3
  have N3 := Fr.app N2 Nq3
  refine Go.tr st3 ?_
  show Go p e below _ (T3.setTop (mkF m 17 #[.val (.ref o0), .val (.int p1), .val (.int (0 : Int32)), .val (.int (2 : Int32))] []))
  refine Go.of (fun _ k => XS.aloadN X3.here hx rfl (hb hby d8_17) rfl rfl k) ?_
  show Go p e below _ (T3.setTop (mkF m 18 #[.val (.ref o0), .val (.int p1), .val (.int (0 : Int32)), .val (.int (2 : Int32))] [(.ref o0)]))
  obtain ⟨cq4, kq4, q4a, q4b, q4c⟩ := isOf hZ q3_0 E_o0
  obtain ⟨_, _, ⟨T4, L4, k4, n4⟩, -, X4, ⟨Lc4, hQ4, l4, y4, z4⟩, st4⟩ := X3.virtualBack hx (y := (⟨"java/lang/AbstractStringBuilder", "isLatin1", "()Z"⟩ : MethodName)) (z := (⟨"java/lang/AbstractStringBuilder", "isLatin1", "()Z"⟩ : MethodName)) hown (mvT hZ (hw _ (List.mem_of_getElem? (i := 65) rfl))) (mvT hZ (hw _ (List.mem_of_getElem? (i := 66) rfl))) (notFace_of_selects (args := #[]) (mvT hZ (hw _ (List.mem_of_getElem? (i := 68) rfl)))) (mvT hZ (hw _ (List.mem_of_getElem? (i := 68) rfl))) (mvT hZ (hw _ (List.mem_of_getElem? (i := 67) rfl))) (by decide) (backOf (W := 0) (rm11 l Z a0 hw [] o0 w_COMPACT_STRINGS h0 n0 Z0 S_COMPACT_STRINGS hc3_4 F_o0_coder) hZ (hw _ (List.mem_of_getElem? (i := 69) rfl)) (hw _ (List.mem_of_getElem? (i := 34) rfl)) (by decide) (by decide)) q4a q4c (g := (mkF m 18 #[.val (.ref o0), .val (.int p1), .val (.int (0 : Int32)), .val (.int (2 : Int32))] [(.ref o0)])) rfl (by rw [hml]; rfl) (Steps.refl _) (argsL := []) (rest := []) (lenOf pd_2 rfl) rfl (by show 2 * 0 + _ ≤ _; exact Nat.le_of_eq rfl) (hb hby d8_18) (fun _ _ => ⟨rfl, q3_0, (by decide : 0 + 0 ≤ _), (by decide : 0 + 0 ≤ _)⟩)
  dsimp only [Pt.U, Pt.locs, Pt.cells, Pt.slots] at X4 l4 y4 z4 st4 hQ4
  subst l4 y4 z4
  obtain ⟨rfl, Nq4, q4_0⟩ := hQ4
  have N4 := Fr.app N3 Nq4
  refine Go.tr st4 ?_
  show Go p e below _ (T4.setTop (mkF m 21 #[.val (.ref o0), .val (.int p1), .val (.int (0 : Int32)), .val (.int (2 : Int32))] [(.int (1 : Int32))]))
  refine Go.of (fun _ k => XS.ifNo X4.here hx rfl (hb hby d8_21) rfl ((if0 _ _).trans (feq (by decide : ¬ ((1 : Int32) = (0 : Int32)))).1) k) ?_
  show Go p e below _ (T4.setTop (mkF m 24 #[.val (.ref o0), .val (.int p1), .val (.int (0 : Int32)), .val (.int (2 : Int32))] []))
  refine Go.of (fun _ k => XS.iloadN X4.here hx rfl (hb hby d8_24) rfl  k) ?_
  show Go p e below _ (T4.setTop (mkF m 25 #[.val (.ref o0), .val (.int p1), .val (.int (0 : Int32)), .val (.int (2 : Int32))] [(.int p1)]))
  refine Go.of (fun _ k => XS.iloadN X4.here hx rfl (hb hby d8_25) rfl  k) ?_
  show Go p e below _ (T4.setTop (mkF m 26 #[.val (.ref o0), .val (.int p1), .val (.int (0 : Int32)), .val (.int (2 : Int32))] [(.int (2 : Int32)), (.int p1)]))
  refine Go.of (fun _ k => XS.aloadN X4.here hx rfl (hb hby d8_26) rfl rfl k) ?_
  show Go p e below _ (T4.setTop (mkF m 27 #[.val (.ref o0), .val (.int p1), .val (.int (0 : Int32)), .val (.int (2 : Int32))] [(.ref o0), (.int (2 : Int32)), (.int p1)]))
  obtain ⟨T5, X5, e5, st5⟩ := getF X4 hx hZ hown (host := "") (Or.inl (hw _ (List.mem_of_getElem? (i := 40) rfl))) Via.refl q4_0 F_o0_value (g := (mkF m 27 #[.val (.ref o0), .val (.int p1), .val (.int (0 : Int32)), .val (.int (2 : Int32))] [(.ref o0), (.int (2 : Int32)), (.int p1)])) rfl rfl (hb hby d8_27)
  refine Go.of st5 ?_
  show Go p e below _ (T5.setTop (mkF m 30 #[.val (.ref o0), .val (.int p1), .val (.int (0 : Int32)), .val (.int (2 : Int32))] [(.ref f_o0_value), (.int (2 : Int32)), (.int p1)]))
  obtain ⟨_, _, ⟨T6, L6, k6, n6⟩, -, X6, ⟨Lc6, hQ6, l6, y6, z6⟩, st6⟩ := Jvm.LawKit.callS X5 hx (y := (⟨"java/lang/Integer", "getChars", "(II[B)I"⟩ : MethodName)) hown (mvT hZ (hw _ (List.mem_of_getElem? (i := 70) rfl))) (mvT hZ (hw _ (List.mem_of_getElem? (i := 71) rfl))) (mvT hZ (hw _ (List.mem_of_getElem? (i := 58) rfl))) (mvT hZ (hw _ (List.mem_of_getElem? (i := 72) rfl))) (by decide) (backOf (W := 0) (rm12_2w l Z a0 hw [] p1 f_o0_value w_DigitOnes cl_w_DigitOnes e83_30 kv w_DigitTens cl_w_DigitTens e102_30 h0 n0 Z0 hc3_2 hc24_1_2 S_DigitOnes Ar_w_DigitOnes hin83_6 hat83_6 V_f_o0_value g_f_o0_value hc88_6 S_DigitTens Ar_w_DigitTens ne_f_o0_value_w_DigitTens hin102_6 hat102_6) hZ (hw _ (List.mem_of_getElem? (i := 72) rfl)) (hw _ (List.mem_of_getElem? (i := 58) rfl)) (by decide) (by decide)) (g := (mkF m 30 #[.val (.ref o0), .val (.int p1), .val (.int (0 : Int32)), .val (.int (2 : Int32))] [(.ref f_o0_value), (.int (2 : Int32)), (.int p1)])) rfl (by rw [hml]; rfl) (argsL := [(.int p1), (.int (2 : Int32)), (.ref f_o0_value)]) (rest := []) (lenOf pd_3 rfl) rfl (by show 2 * 0 + _ ≤ _; exact Nat.le_of_eq rfl) (hb hby d8_30) (fun _ _ => ⟨rfl, e5, (by decide : 0 + 0 ≤ _), (by decide : 0 + 0 ≤ _)⟩)
  dsimp only [Pt.U, Pt.locs, Pt.cells, Pt.slots] at X6 l6 y6 z6 st6 hQ6
  subst l6 y6 z6
  obtain ⟨rfl, Nq6, q6_0, q6_1⟩ := hQ6
  have N6 := Fr.app N4 Nq6
  refine Go.of st6 ?_
  have K6 : Keep h0 T6.heap [f_o0_value, o0] := ((Keep.refl h0 [f_o0_value, o0])).trans q6_0 (allS (Or.inl (List.mem_of_getElem? (i := 0) rfl)) all0)
  have Z6 : n0 ≤ T6.heap.size := Nat.le_trans Z0 q6_0.1
  show Go p e below _ (T6.setTop (mkF m 33 #[.val (.ref o0), .val (.int p1), .val (.int (0 : Int32)), .val (.int (2 : Int32))] [(.int (0 : Int32))]))
  refine Go.of (fun _ k => XS.pop X6.here hx rfl (hb hby d8_33) rfl rfl k) ?_
  show Go p e below _ (T6.setTop (mkF m 34 #[.val (.ref o0), .val (.int p1), .val (.int (0 : Int32)), .val (.int (2 : Int32))] []))
  refine Go.of (fun _ k => XS.goto X6.here hx rfl (pc0 := 34) (pc' := 48) rfl (hb hby d8_34) (by decide) (by decide) k) ?_
  show Go p e below _ (T6.setTop (mkF m 48 #[.val (.ref o0), .val (.int p1), .val (.int (0 : Int32)), .val (.int (2 : Int32))] []))
  refine Go.of (fun _ k => XS.aloadN X6.here hx rfl (hb hby d8_48) rfl rfl k) ?_
  show Go p e below _ (T6.setTop (mkF m 49 #[.val (.ref o0), .val (.int p1), .val (.int (0 : Int32)), .val (.int (2 : Int32))] [(.ref o0)]))
  refine Go.of (fun _ k => XS.iloadN X6.here hx rfl (hb hby d8_49) rfl  k) ?_
  show Go p e below _ (T6.setTop (mkF m 50 #[.val (.ref o0), .val (.int p1), .val (.int (0 : Int32)), .val (.int (2 : Int32))] [(.int (2 : Int32)), (.ref o0)]))
  have c7 : Fld Z T6.heap o0 "java/lang/AbstractStringBuilder" "count" "I" (.int (0 : Int32)) := (F_o0_count.keep q6_0 (ninS (Ne.symm ne_f_o0_value_o0) nin0))
  have c8 : Exa Z T6.heap o0 "java/lang/StringBuilder" := (E_o0.keep q6_0)
  obtain ⟨T9, h9, X9, e9, W9, st9⟩ := putF X6 hx hZ hown (host := "") (Or.inl (hw _ (List.mem_of_getElem? (i := 54) rfl))) Via.refl rfl c7 c8 (Or.inl (hw _ (List.mem_of_getElem? (i := 55) rfl))) (hw _ (List.mem_of_getElem? (i := 25) rfl)) (ty := .int) (by decide) rfl rfl (g := (mkF m 50 #[.val (.ref o0), .val (.int p1), .val (.int (0 : Int32)), .val (.int (2 : Int32))] [(.int (2 : Int32)), (.ref o0)])) rfl rfl (hb hby d8_50)
  refine Go.of st9 ?_
  have N9 := Fr.snoc X9 N6 g_o0
  have K9 : Keep h0 h9 [f_o0_value, o0] := (K6).wr W9 (Or.inl (List.mem_of_getElem? (i := 1) rfl))
  have Z9 : n0 ≤ h9.size := Nat.le_trans Z6 (Keep.of_wr W9).1
  have f10 : Fld Z h9 o0 "java/lang/AbstractStringBuilder" "count" "I" (.int (2 : Int32)) := Fld.same W9 c7
  show Go p e below _ (T9.setTop (mkF m 53 #[.val (.ref o0), .val (.int p1), .val (.int (0 : Int32)), .val (.int (2 : Int32))] []))
  refine Go.of (fun _ k => XS.aloadN X9.here hx rfl (hb hby d8_53) rfl rfl k) ?_
  show Go p e below _ (T9.setTop (mkF m 54 #[.val (.ref o0), .val (.int p1), .val (.int (0 : Int32)), .val (.int (2 : Int32))] [(.ref o0)]))
  have c12 : Arv Z h9 f_o0_value kv .byte (16 : Int32) [(.int e102_30.toInt8.toInt32), (.int e83_30.toInt8.toInt32), (.int (0 : Int32)), (.int (0 : Int32)), (.int (0 : Int32)), (.int (0 : Int32)), (.int (0 : Int32)), (.int (0 : Int32)), (.int (0 : Int32)), (.int (0 : Int32)), (.int (0 : Int32)), (.int (0 : Int32)), (.int (0 : Int32)), (.int (0 : Int32)), (.int (0 : Int32)), (.int (0 : Int32))] (.int (0 : Int32)) := (q6_1.other W9 ne_f_o0_value_o0)
  have c13 : Exa Z h9 o0 "java/lang/StringBuilder" := (Exa.wr W9 c8)
  have c14 : Fld Z T6.heap o0 "java/lang/AbstractStringBuilder" "coder" "B" (.int (0 : Int32)) := (F_o0_coder.keep q6_0 (ninS (Ne.symm ne_f_o0_value_o0) nin0))
  have c15 : Fld Z h9 o0 "java/lang/AbstractStringBuilder" "coder" "B" (.int (0 : Int32)) := (Fld.other W9 c14 (Or.inr (slot_ne (Or.inl (hw _ (List.mem_of_getElem? (i := 43) rfl))) (Or.inl (hw _ (List.mem_of_getElem? (i := 55) rfl))) (by decide) (t := .byte) (t' := .int) (by decide) (by decide))))
  have c16 : Fld Z T6.heap o0 "java/lang/AbstractStringBuilder" "value" "[B" (.ref f_o0_value) := (F_o0_value.keep q6_0 (ninS (Ne.symm ne_f_o0_value_o0) nin0))
  have c17 : Fld Z h9 o0 "java/lang/AbstractStringBuilder" "value" "[B" (.ref f_o0_value) := (Fld.other W9 c16 (Or.inr (slot_ne (Or.inl (hw _ (List.mem_of_getElem? (i := 41) rfl))) (Or.inl (hw _ (List.mem_of_getElem? (i := 55) rfl))) (by decide) (t := (.array .byte)) (t' := .int) (by decide) (by decide))))
  obtain ⟨fs, hr, hrun, hended, hW, hsame⟩ := X9.leave (v := some (.ref o0)) (fun h => by rw [Bd.returns] at h; cases h)
  refine Go.mk _ _ ?_ hrun hended ⟨_, _, rfl, ?_, ⟨_, rfl⟩, hW, hsame.mono (by decide) (by decide)⟩
  · exact retOut X9 hx Bd.returns rfl (Or.inr (Or.inr (Or.inr (Or.inr ⟨rfl, rfl, rfl⟩)))) (hb hby d8_54) hr
  · show Q8_2 Z o0 p1 f_o0_value kv w_COMPACT_STRINGS e83_30 e102_30 w_DigitOnes cl_w_DigitOnes w_DigitTens cl_w_DigitTens h0 n0 _ T9.heap _
    rw [e9]
    exact ⟨rfl, N9, K9, c12, c13, c15, f10, c17⟩
def Q7_2 (Z : State) (o0 : Addr) (p1 : Int32) (e83_30_2 : Int32) (e102_30_2 : Int32) (f_o0_value : Addr) (kv : ClassId) (w_COMPACT_STRINGS : Int32) (w_DigitOnes : Addr) (cl_w_DigitOnes : Cell) (w_DigitTens : Addr) (cl_w_DigitTens : Cell) (h0 : Heap) (n0 : Nat) (v : Option Value) (h : Heap) (L : List Loc) : Prop := v = some (.ref o0) ∧ Fr n0 L ∧ Keep h0 h [f_o0_value, o0] ∧ Arv Z h f_o0_value kv .byte (16 : Int32) [(.int e102_30_2.toInt8.toInt32), (.int e83_30_2.toInt8.toInt32), (.int (0 : Int32)), (.int (0 : Int32)), (.int (0 : Int32)), (.int (0 : Int32)), (.int (0 : Int32)), (.int (0 : Int32)), (.int (0 : Int32)), (.int (0 : Int32)), (.int (0 : Int32)), (.int (0 : Int32)), (.int (0 : Int32)), (.int (0 : Int32)), (.int (0 : Int32)), (.int (0 : Int32))] (.int (0 : Int32)) ∧ Exa Z h o0 "java/lang/StringBuilder" ∧ Fld Z h o0 "java/lang/AbstractStringBuilder" "coder" "B" (.int (0 : Int32)) ∧ Fld Z h o0 "java/lang/AbstractStringBuilder" "count" "I" (.int (2 : Int32)) ∧ Fld Z h o0 "java/lang/AbstractStringBuilder" "value" "[B" (.ref f_o0_value)
set_option maxRecDepth 65536 in
set_option maxHeartbeats 40000000 in
theorem rm7_2 (l : Launch) (Z : State) (a0 : Array Value) (hw : ∀ d ∈ tables_1, d.before a0 Z = true) (ws : List Jvm.Cond) (o0 : Addr) (p1 : Int32) (e83_30_2 : Int32) (e102_30_2 : Int32) (f_o0_value : Addr) (kv : ClassId) (w_COMPACT_STRINGS : Int32) (w_DigitOnes : Addr) (cl_w_DigitOnes : Cell) (w_DigitTens : Addr) (cl_w_DigitTens : Cell) (h0 : Heap) (n0 : Nat) (Z0 : n0 ≤ h0.size) (F_o0_count : Fld Z h0 o0 "java/lang/AbstractStringBuilder" "count" "I" (.int (0 : Int32))) (hc3_2_1 : ¬ (p1 < (0 : Int32))) (hc24_2_1 : ¬ ((-10 : Int32) < (-p1))) (hc24_1_2_1 : (-100 : Int32) < (-p1)) (F_o0_value : Fld Z h0 o0 "java/lang/AbstractStringBuilder" "value" "[B" (.ref f_o0_value)) (V_f_o0_value : Arv Z h0 f_o0_value kv .byte (16 : Int32) [(.int (0 : Int32)), (.int (0 : Int32)), (.int (0 : Int32)), (.int (0 : Int32)), (.int (0 : Int32)), (.int (0 : Int32)), (.int (0 : Int32)), (.int (0 : Int32)), (.int (0 : Int32)), (.int (0 : Int32)), (.int (0 : Int32)), (.int (0 : Int32)), (.int (0 : Int32)), (.int (0 : Int32)), (.int (0 : Int32)), (.int (0 : Int32))] (.int (0 : Int32))) (F_o0_coder : Fld Z h0 o0 "java/lang/AbstractStringBuilder" "coder" "B" (.int (0 : Int32))) (E_o0 : Exa Z h0 o0 "java/lang/StringBuilder") (S_COMPACT_STRINGS : Sta Z h0 "java/lang/String" "COMPACT_STRINGS" "Z" (.int w_COMPACT_STRINGS)) (hc3_4_1 : ¬ (w_COMPACT_STRINGS = (0 : Int32))) (S_DigitOnes : Sta Z h0 "java/lang/Integer" "DigitOnes" "[B" (.ref w_DigitOnes)) (Ar_w_DigitOnes : Arr Z h0 w_DigitOnes cl_w_DigitOnes .byte) (hin83_6_1 : ¬ ((-(-p1)) < 0 ∨ cl_w_DigitOnes.slots.size ≤ ((-(-p1))).toNatClampNeg)) (hat83_6_1 : cl_w_DigitOnes.slots[((-(-p1))).toNatClampNeg]? = some (.int e83_30_2)) (g_f_o0_value : n0 ≤ f_o0_value) (hc88_6_1 : (-p1) < (-9 : Int32)) (S_DigitTens : Sta Z h0 "java/lang/Integer" "DigitTens" "[B" (.ref w_DigitTens)) (Ar_w_DigitTens : Arr Z h0 w_DigitTens cl_w_DigitTens .byte) (ne_f_o0_value_w_DigitTens : f_o0_value ≠ w_DigitTens) (hin102_6_1 : ¬ ((-(-p1)) < 0 ∨ cl_w_DigitTens.slots.size ≤ ((-(-p1))).toNatClampNeg)) (hat102_6_1 : cl_w_DigitTens.slots[((-(-p1))).toNatClampNeg]? = some (.int e102_30_2)) (ne_f_o0_value_o0 : f_o0_value ≠ o0) (g_o0 : n0 ≤ o0) :
    MetFree l (⟨"java/lang/StringBuilder", "append", "(I)Ljava/lang/StringBuilder;"⟩ : MethodName) (head1 (Jvm.Cond.code (⟨"java/lang/StringBuilder", "append", "(I)Ljava/lang/StringBuilder;"⟩ : MethodName) jdk_67_method_15_code 2 (some (.object "java/lang/StringBuilder")) :: ws) ({ frames := 2, cells := 0, slots := 0, locals := 33 } : Room)) (fun a U => a = #[(.ref o0), (.int p1)] ∧ Z.Warmed39 U.vm ∧ U.heap = h0) (fun _ _ _ _ _ => True) (fun _ U o U' => ∃ v L, o = .returned v ∧ Q7_2 Z o0 p1 e83_30_2 e102_30_2 f_o0_value kv w_COMPACT_STRINGS w_DigitOnes cl_w_DigitOnes w_DigitTens cl_w_DigitTens h0 n0 v U'.heap L ∧ FrameEnd U o U' L ({ frames := 2, cells := 0, slots := 0, locals := 33 } : Room).cells ({ frames := 2, cells := 0, slots := 0, locals := 33 } : Room).slots) := by
  refine MetFree.of_bodySF (plainFor_of_name pn_java_lang_StringBuilder) hisR ?_
  intro p e s m args below meth c s₁ Bd hml0 hP hK
  obtain ⟨rfl, hZ, hh⟩ := hP
  have hx := Bd.exec
  have hby := Bd.bytes
  have hml : c.maxLocals = 2 := hml0
  have hown : s.vm.findClass "java/lang/StringBuilder" = some m.cls := findClass_of_methodNamed Bd.named
  have hnm := (name_of_methodNamed Bd.named Bd.method).1
  have X0 : Stand p l e ({ frames := 2, cells := 0, slots := 0, locals := 33 } : Room) s m #[(.ref o0), (.int p1)] below meth c s₁ [] 0 0 := Stand.of_body Bd
  have e0 : s₁.heap = h0 := by rw [← hh, Bd.state]; rfl
  have N0 := Fr.nil n0
  show Go p e below (fun o U' => ∃ v L, o = .returned v ∧ Q7_2 Z o0 p1 e83_30_2 e102_30_2 f_o0_value kv w_COMPACT_STRINGS w_DigitOnes cl_w_DigitOnes w_DigitTens cl_w_DigitTens h0 n0 v U'.heap L ∧ FrameEnd s o U' L ({ frames := 2, cells := 0, slots := 0, locals := 33 } : Room).cells ({ frames := 2, cells := 0, slots := 0, locals := 33 } : Room).slots) (s₁.setTop (entryFrame m #[(.ref o0), (.int p1)] 2))
  refine Go.of (fun _ k => castTop (ef_7 m o0 p1) k) ?_
  show Go p e below _ (s₁.setTop (mkF m 0 #[.val (.ref o0), .val (.int p1)] []))
  refine Go.of (fun _ k => XS.aloadN X0.here hx rfl (hb hby d7_0) rfl rfl k) ?_
  show Go p e below _ (s₁.setTop (mkF m 1 #[.val (.ref o0), .val (.int p1)] [(.ref o0)]))
  refine Go.of (fun _ k => XS.iloadN X0.here hx rfl (hb hby d7_1) rfl  k) ?_
  show Go p e below _ (s₁.setTop (mkF m 2 #[.val (.ref o0), .val (.int p1)] [(.int p1), (.ref o0)]))
  obtain ⟨_, _, ⟨T1, L1, k1, n1⟩, -, X1, ⟨Lc1, hQ1, l1, y1, z1⟩, st1⟩ := superBack X0 hx hZ (y := (⟨"java/lang/AbstractStringBuilder", "append", "(I)Ljava/lang/AbstractStringBuilder;"⟩ : MethodName)) hown (hw _ (List.mem_of_getElem? (i := 49) rfl)) (own_same (y := (⟨"java/lang/AbstractStringBuilder", "append", "(I)Ljava/lang/AbstractStringBuilder;"⟩ : MethodName)) (hw _ (List.mem_of_getElem? (i := 63) rfl)) rfl (hw _ (List.mem_of_getElem? (i := 50) rfl)) (by decide)) (hw _ (List.mem_of_getElem? (i := 50) rfl)) (hw _ (List.mem_of_getElem? (i := 51) rfl)) (by decide) (backOf (W := 0) (rm8_2 l Z a0 hw [] o0 p1 f_o0_value kv w_COMPACT_STRINGS e83_30_2 e102_30_2 w_DigitOnes cl_w_DigitOnes w_DigitTens cl_w_DigitTens h0 n0 Z0 F_o0_count hc3_2_1 hc24_2_1 hc24_1_2_1 F_o0_value V_f_o0_value F_o0_coder E_o0 S_COMPACT_STRINGS hc3_4_1 S_DigitOnes Ar_w_DigitOnes hin83_6_1 hat83_6_1 g_f_o0_value hc88_6_1 S_DigitTens Ar_w_DigitTens ne_f_o0_value_w_DigitTens hin102_6_1 hat102_6_1 ne_f_o0_value_o0 g_o0) hZ (hw _ (List.mem_of_getElem? (i := 53) rfl)) (hw _ (List.mem_of_getElem? (i := 34) rfl)) (by decide) (by decide)) e0 (Ins.self E_o0) (g := (mkF m 2 #[.val (.ref o0), .val (.int p1)] [(.int p1), (.ref o0)])) rfl (by rw [hml]; rfl) (hw _ (List.mem_of_getElem? (i := 53) rfl)) (argsL := [(.int p1)]) (rest := []) (lenOf pd_4 rfl) rfl (by show 2 * 0 + _ ≤ _; exact Nat.le_of_eq rfl) (hb hby d7_2) (fun _ _ => ⟨rfl, e0, (by decide : 0 + 0 ≤ _), (by decide : 0 + 0 ≤ _)⟩)
  dsimp only [Pt.U, Pt.locs, Pt.cells, Pt.slots] at X1 l1 y1 z1 st1 hQ1
  subst l1 y1 z1
  obtain ⟨rfl, Nq1, q1_0, q1_1, q1_2, q1_3, q1_4, q1_5⟩ := hQ1
  have N1 := Fr.app N0 Nq1
  refine Go.tr st1 ?_
  have K1 : Keep h0 T1.heap [f_o0_value, o0] := ((Keep.refl h0 [f_o0_value, o0])).trans q1_0 (allS (Or.inl (List.mem_of_getElem? (i := 0) rfl)) (allS (Or.inl (List.mem_of_getElem? (i := 1) rfl)) all0))
  have Z1 : n0 ≤ T1.heap.size := Nat.le_trans Z0 q1_0.1
  show Go p e below _ (T1.setTop (mkF m 5 #[.val (.ref o0), .val (.int p1)] [(.ref o0)]))
  refine Go.of (fun _ k => XS.pop X1.here hx rfl (hb hby d7_5) rfl rfl k) ?_
  show Go p e below _ (T1.setTop (mkF m 6 #[.val (.ref o0), .val (.int p1)] []))
  refine Go.of (fun _ k => XS.aloadN X1.here hx rfl (hb hby d7_6) rfl rfl k) ?_
  show Go p e below _ (T1.setTop (mkF m 7 #[.val (.ref o0), .val (.int p1)] [(.ref o0)]))
  obtain ⟨fs, hr, hrun, hended, hW, hsame⟩ := X1.leave (v := some (.ref o0)) (fun h => by rw [Bd.returns] at h; cases h)
  refine Go.mk _ _ ?_ hrun hended ⟨_, _, rfl, ?_, ⟨_, rfl⟩, hW, hsame.mono (by decide) (by decide)⟩
  · exact retOut X1 hx Bd.returns rfl (Or.inr (Or.inr (Or.inr (Or.inr ⟨rfl, rfl, rfl⟩)))) (hb hby d7_7) hr
  · show Q7_2 Z o0 p1 e83_30_2 e102_30_2 f_o0_value kv w_COMPACT_STRINGS w_DigitOnes cl_w_DigitOnes w_DigitTens cl_w_DigitTens h0 n0 _ T1.heap _
    exact ⟨rfl, N1, K1, q1_1, q1_2, q1_3, q1_4, q1_5⟩
theorem d15_0 : decode jdk_42_method_54_code 0 = .ok (.aload_n 0, 1) := by decide +kernel
theorem d15_1 : decode jdk_42_method_54_code 1 = .ok (.getfield 9, 3) := by decide +kernel
theorem d15_4 : decode jdk_42_method_54_code 4 = .ok (.arraylength, 1) := by decide +kernel
theorem d15_5 : decode jdk_42_method_54_code 5 = .ok (.aload_n 0, 1) := by decide +kernel
theorem d15_6 : decode jdk_42_method_54_code 6 = .ok (.invokevirtual 335, 3) := by decide +kernel
theorem pd_5 : parseMethodDescriptor "()B" = some ⟨[], some .byte⟩ := by decide +kernel
theorem d15_9 : decode jdk_42_method_54_code 9 = .ok (.ishr, 1) := by decide +kernel
theorem d15_10 : decode jdk_42_method_54_code 10 = .ok (.ireturn, 1) := by decide +kernel
theorem ef_15 (m : MethodId) (x0 : Addr) : entryFrame m #[(.ref x0)] 1 = mkF m 0 #[.val (.ref x0)] [] := by first | (simp [entryFrame, mkF, argsToLocals, Value.category]; done) | rfl
def Q15_1 (Z : State) (o0 : Addr) (cb0 : Int32) (f_o0_value : Addr) (kv : ClassId) (w_COMPACT_STRINGS : Int32) (h0 : Heap) (n0 : Nat) (v : Option Value) (h : Heap) (L : List Loc) : Prop := v = some (.int (1 : Int32)) ∧ Fr n0 L ∧ h = h0
set_option maxRecDepth 65536 in
set_option maxHeartbeats 40000000 in
theorem rm15_1 (l : Launch) (Z : State) (a0 : Array Value) (hw : ∀ d ∈ tables_1, d.before a0 Z = true) (ws : List Jvm.Cond) (o0 : Addr) (cb0 : Int32) (f_o0_value : Addr) (kv : ClassId) (w_COMPACT_STRINGS : Int32) (h0 : Heap) (n0 : Nat) (Z0 : n0 ≤ h0.size) (F_o0_value : Fld Z h0 o0 "java/lang/String" "value" "[B" (.ref f_o0_value)) (V_f_o0_value : Arv Z h0 f_o0_value kv .byte (1 : Int32) [(.int cb0)] (.int (0 : Int32))) (S_COMPACT_STRINGS : Sta Z h0 "java/lang/String" "COMPACT_STRINGS" "Z" (.int w_COMPACT_STRINGS)) (hc3_3 : ¬ (w_COMPACT_STRINGS = (0 : Int32))) (F_o0_coder : Fld Z h0 o0 "java/lang/String" "coder" "B" (.int (0 : Int32))) (E_o0 : Exa Z h0 o0 "java/lang/String") :
    MetFree l (⟨"java/lang/String", "length", "()I"⟩ : MethodName) (head1 (Jvm.Cond.code (⟨"java/lang/String", "length", "()I"⟩ : MethodName) jdk_42_method_54_code 1 (some .int) :: ws) ({ frames := 1, cells := 0, slots := 0, locals := 13 } : Room)) (fun a U => a = #[(.ref o0)] ∧ Z.Warmed39 U.vm ∧ U.heap = h0) (fun _ _ _ _ _ => True) (fun _ U o U' => ∃ v L, o = .returned v ∧ Q15_1 Z o0 cb0 f_o0_value kv w_COMPACT_STRINGS h0 n0 v U'.heap L ∧ FrameEnd U o U' L ({ frames := 1, cells := 0, slots := 0, locals := 13 } : Room).cells ({ frames := 1, cells := 0, slots := 0, locals := 13 } : Room).slots) := by
  refine MetFree.of_bodySF (plainFor_of_name pn_java_lang_String) hisR ?_
  intro p e s m args below meth c s₁ Bd hml0 hP hK
  obtain ⟨rfl, hZ, hh⟩ := hP
  have hx := Bd.exec
  have hby := Bd.bytes
  have hml : c.maxLocals = 1 := hml0
  have hown : s.vm.findClass "java/lang/String" = some m.cls := findClass_of_methodNamed Bd.named
  have hnm := (name_of_methodNamed Bd.named Bd.method).1
  have X0 : Stand p l e ({ frames := 1, cells := 0, slots := 0, locals := 13 } : Room) s m #[(.ref o0)] below meth c s₁ [] 0 0 := Stand.of_body Bd
  have e0 : s₁.heap = h0 := by rw [← hh, Bd.state]; rfl
  have N0 := Fr.nil n0
  show Go p e below (fun o U' => ∃ v L, o = .returned v ∧ Q15_1 Z o0 cb0 f_o0_value kv w_COMPACT_STRINGS h0 n0 v U'.heap L ∧ FrameEnd s o U' L ({ frames := 1, cells := 0, slots := 0, locals := 13 } : Room).cells ({ frames := 1, cells := 0, slots := 0, locals := 13 } : Room).slots) (s₁.setTop (entryFrame m #[(.ref o0)] 1))
  refine Go.of (fun _ k => castTop (ef_15 m o0) k) ?_
  show Go p e below _ (s₁.setTop (mkF m 0 #[.val (.ref o0)] []))
  refine Go.of (fun _ k => XS.aloadN X0.here hx rfl (hb hby d15_0) rfl rfl k) ?_
  show Go p e below _ (s₁.setTop (mkF m 1 #[.val (.ref o0)] [(.ref o0)]))
  obtain ⟨T1, X1, e1, st1⟩ := getF X0 hx hZ hown (host := "") (Or.inl (hw _ (List.mem_of_getElem? (i := 94) rfl))) Via.refl e0 F_o0_value (g := (mkF m 1 #[.val (.ref o0)] [(.ref o0)])) rfl rfl (hb hby d15_1)
  refine Go.of st1 ?_
  show Go p e below _ (T1.setTop (mkF m 4 #[.val (.ref o0)] [(.ref f_o0_value)]))
  obtain ⟨clt2, Art2, qt2, st2, nt2, Ht2, Gt2⟩ := id V_f_o0_value
  refine Go.of (fun _ k => X1.arraylength hx (by rw [e1]; exact Art2.1) (State.isArrayOf_alike hZ.alike Art2.2.1) (g := (mkF m 4 #[.val (.ref o0)] [(.ref f_o0_value)])) rfl rfl (hb hby d15_4) _ k) ?_
  rw [len_of st2 nt2]
  show Go p e below _ (T1.setTop (mkF m 5 #[.val (.ref o0)] [(.int (1 : Int32))]))
  refine Go.of (fun _ k => XS.aloadN X1.here hx rfl (hb hby d15_5) rfl rfl k) ?_
  show Go p e below _ (T1.setTop (mkF m 6 #[.val (.ref o0)] [(.ref o0), (.int (1 : Int32))]))
  obtain ⟨cq3, kq3, q3a, q3b, q3c⟩ := isOf hZ e1 E_o0
  obtain ⟨_, _, ⟨T3, L3, k3, n3⟩, -, X3, ⟨Lc3, hQ3, l3, y3, z3⟩, st3⟩ := X1.virtualBack hx (y := (⟨"java/lang/String", "coder", "()B"⟩ : MethodName)) (z := (⟨"java/lang/String", "coder", "()B"⟩ : MethodName)) hown (mvT hZ (hw _ (List.mem_of_getElem? (i := 95) rfl))) (mvT hZ (hw _ (List.mem_of_getElem? (i := 96) rfl))) (notFace_of_selects (args := #[]) (mvT hZ (hw _ (List.mem_of_getElem? (i := 98) rfl)))) (mvT hZ (hw _ (List.mem_of_getElem? (i := 98) rfl))) (mvT hZ (hw _ (List.mem_of_getElem? (i := 97) rfl))) (by decide) (backOf (W := 1) (rm16 l Z a0 hw [] o0 w_COMPACT_STRINGS h0 n0 Z0 S_COMPACT_STRINGS hc3_3 F_o0_coder) hZ (hw _ (List.mem_of_getElem? (i := 99) rfl)) (hw _ (List.mem_of_getElem? (i := 38) rfl)) (by decide) (by decide)) q3a q3c (g := (mkF m 6 #[.val (.ref o0)] [(.ref o0), (.int (1 : Int32))])) rfl (by rw [hml]; rfl) (Steps.refl _) (argsL := []) (rest := [(.int (1 : Int32))]) (lenOf pd_5 rfl) rfl (by show 2 * 0 + _ ≤ _; exact Nat.le_of_eq rfl) (hb hby d15_6) (fun _ _ => ⟨rfl, e1, (by decide : 0 + 0 ≤ _), (by decide : 0 + 0 ≤ _)⟩)
  dsimp only [Pt.U, Pt.locs, Pt.cells, Pt.slots] at X3 l3 y3 z3 st3 hQ3
  subst l3 y3 z3
  obtain ⟨rfl, Nq3, q3_0⟩ := hQ3
  have N3 := Fr.app N0 Nq3
  refine Go.tr st3 ?_
  show Go p e below _ (T3.setTop (mkF m 9 #[.val (.ref o0)] [(.int (0 : Int32)), (.int (1 : Int32))]))
  refine Go.of (fun _ k => XS.ishr X3.here hx rfl (hb hby d15_9) rfl k) ?_
  show Go p e below _ (T3.setTop (mkF m 10 #[.val (.ref o0)] [(.int (1 : Int32))]))
  obtain ⟨fs, hr, hrun, hended, hW, hsame⟩ := X3.leave (v := some (.int (1 : Int32))) (fun h => by rw [Bd.returns] at h; cases h)
  refine Go.mk _ _ ?_ hrun hended ⟨_, _, rfl, ?_, ⟨_, rfl⟩, hW, hsame.mono (by decide) (by decide)⟩
  · exact retI X3 hx Bd.returns (hb hby d15_10) hr
  · show Q15_1 Z o0 cb0 f_o0_value kv w_COMPACT_STRINGS h0 n0 _ T3.heap _
    rw [q3_0]
    exact ⟨rfl, N3, rfl⟩
def Q15_2 (Z : State) (o0 : Addr) (cb0 : Int32) (cb1 : Int32) (f_o0_value : Addr) (kv : ClassId) (w_COMPACT_STRINGS : Int32) (h0 : Heap) (n0 : Nat) (v : Option Value) (h : Heap) (L : List Loc) : Prop := v = some (.int (2 : Int32)) ∧ Fr n0 L ∧ h = h0
set_option maxRecDepth 65536 in
set_option maxHeartbeats 40000000 in
theorem rm15_2 (l : Launch) (Z : State) (a0 : Array Value) (hw : ∀ d ∈ tables_1, d.before a0 Z = true) (ws : List Jvm.Cond) (o0 : Addr) (cb0 : Int32) (cb1 : Int32) (f_o0_value : Addr) (kv : ClassId) (w_COMPACT_STRINGS : Int32) (h0 : Heap) (n0 : Nat) (Z0 : n0 ≤ h0.size) (F_o0_value : Fld Z h0 o0 "java/lang/String" "value" "[B" (.ref f_o0_value)) (V_f_o0_value : Arv Z h0 f_o0_value kv .byte (2 : Int32) [(.int cb0), (.int cb1)] (.int (0 : Int32))) (S_COMPACT_STRINGS : Sta Z h0 "java/lang/String" "COMPACT_STRINGS" "Z" (.int w_COMPACT_STRINGS)) (hc3_3 : ¬ (w_COMPACT_STRINGS = (0 : Int32))) (F_o0_coder : Fld Z h0 o0 "java/lang/String" "coder" "B" (.int (0 : Int32))) (E_o0 : Exa Z h0 o0 "java/lang/String") :
    MetFree l (⟨"java/lang/String", "length", "()I"⟩ : MethodName) (head1 (Jvm.Cond.code (⟨"java/lang/String", "length", "()I"⟩ : MethodName) jdk_42_method_54_code 1 (some .int) :: ws) ({ frames := 1, cells := 0, slots := 0, locals := 13 } : Room)) (fun a U => a = #[(.ref o0)] ∧ Z.Warmed39 U.vm ∧ U.heap = h0) (fun _ _ _ _ _ => True) (fun _ U o U' => ∃ v L, o = .returned v ∧ Q15_2 Z o0 cb0 cb1 f_o0_value kv w_COMPACT_STRINGS h0 n0 v U'.heap L ∧ FrameEnd U o U' L ({ frames := 1, cells := 0, slots := 0, locals := 13 } : Room).cells ({ frames := 1, cells := 0, slots := 0, locals := 13 } : Room).slots) := by
  refine MetFree.of_bodySF (plainFor_of_name pn_java_lang_String) hisR ?_
  intro p e s m args below meth c s₁ Bd hml0 hP hK
  obtain ⟨rfl, hZ, hh⟩ := hP
  have hx := Bd.exec
  have hby := Bd.bytes
  have hml : c.maxLocals = 1 := hml0
  have hown : s.vm.findClass "java/lang/String" = some m.cls := findClass_of_methodNamed Bd.named
  have hnm := (name_of_methodNamed Bd.named Bd.method).1
  have X0 : Stand p l e ({ frames := 1, cells := 0, slots := 0, locals := 13 } : Room) s m #[(.ref o0)] below meth c s₁ [] 0 0 := Stand.of_body Bd
  have e0 : s₁.heap = h0 := by rw [← hh, Bd.state]; rfl
  have N0 := Fr.nil n0
  show Go p e below (fun o U' => ∃ v L, o = .returned v ∧ Q15_2 Z o0 cb0 cb1 f_o0_value kv w_COMPACT_STRINGS h0 n0 v U'.heap L ∧ FrameEnd s o U' L ({ frames := 1, cells := 0, slots := 0, locals := 13 } : Room).cells ({ frames := 1, cells := 0, slots := 0, locals := 13 } : Room).slots) (s₁.setTop (entryFrame m #[(.ref o0)] 1))
  refine Go.of (fun _ k => castTop (ef_15 m o0) k) ?_
  show Go p e below _ (s₁.setTop (mkF m 0 #[.val (.ref o0)] []))
  refine Go.of (fun _ k => XS.aloadN X0.here hx rfl (hb hby d15_0) rfl rfl k) ?_
  show Go p e below _ (s₁.setTop (mkF m 1 #[.val (.ref o0)] [(.ref o0)]))
  obtain ⟨T1, X1, e1, st1⟩ := getF X0 hx hZ hown (host := "") (Or.inl (hw _ (List.mem_of_getElem? (i := 94) rfl))) Via.refl e0 F_o0_value (g := (mkF m 1 #[.val (.ref o0)] [(.ref o0)])) rfl rfl (hb hby d15_1)
  refine Go.of st1 ?_
  show Go p e below _ (T1.setTop (mkF m 4 #[.val (.ref o0)] [(.ref f_o0_value)]))
  obtain ⟨clt2, Art2, qt2, st2, nt2, Ht2, Gt2⟩ := id V_f_o0_value
  refine Go.of (fun _ k => X1.arraylength hx (by rw [e1]; exact Art2.1) (State.isArrayOf_alike hZ.alike Art2.2.1) (g := (mkF m 4 #[.val (.ref o0)] [(.ref f_o0_value)])) rfl rfl (hb hby d15_4) _ k) ?_
  rw [len_of st2 nt2]
  show Go p e below _ (T1.setTop (mkF m 5 #[.val (.ref o0)] [(.int (2 : Int32))]))
  refine Go.of (fun _ k => XS.aloadN X1.here hx rfl (hb hby d15_5) rfl rfl k) ?_
  show Go p e below _ (T1.setTop (mkF m 6 #[.val (.ref o0)] [(.ref o0), (.int (2 : Int32))]))
  obtain ⟨cq3, kq3, q3a, q3b, q3c⟩ := isOf hZ e1 E_o0
  obtain ⟨_, _, ⟨T3, L3, k3, n3⟩, -, X3, ⟨Lc3, hQ3, l3, y3, z3⟩, st3⟩ := X1.virtualBack hx (y := (⟨"java/lang/String", "coder", "()B"⟩ : MethodName)) (z := (⟨"java/lang/String", "coder", "()B"⟩ : MethodName)) hown (mvT hZ (hw _ (List.mem_of_getElem? (i := 95) rfl))) (mvT hZ (hw _ (List.mem_of_getElem? (i := 96) rfl))) (notFace_of_selects (args := #[]) (mvT hZ (hw _ (List.mem_of_getElem? (i := 98) rfl)))) (mvT hZ (hw _ (List.mem_of_getElem? (i := 98) rfl))) (mvT hZ (hw _ (List.mem_of_getElem? (i := 97) rfl))) (by decide) (backOf (W := 1) (rm16 l Z a0 hw [] o0 w_COMPACT_STRINGS h0 n0 Z0 S_COMPACT_STRINGS hc3_3 F_o0_coder) hZ (hw _ (List.mem_of_getElem? (i := 99) rfl)) (hw _ (List.mem_of_getElem? (i := 38) rfl)) (by decide) (by decide)) q3a q3c (g := (mkF m 6 #[.val (.ref o0)] [(.ref o0), (.int (2 : Int32))])) rfl (by rw [hml]; rfl) (Steps.refl _) (argsL := []) (rest := [(.int (2 : Int32))]) (lenOf pd_5 rfl) rfl (by show 2 * 0 + _ ≤ _; exact Nat.le_of_eq rfl) (hb hby d15_6) (fun _ _ => ⟨rfl, e1, (by decide : 0 + 0 ≤ _), (by decide : 0 + 0 ≤ _)⟩)
  dsimp only [Pt.U, Pt.locs, Pt.cells, Pt.slots] at X3 l3 y3 z3 st3 hQ3
  subst l3 y3 z3
  obtain ⟨rfl, Nq3, q3_0⟩ := hQ3
  have N3 := Fr.app N0 Nq3
  refine Go.tr st3 ?_
  show Go p e below _ (T3.setTop (mkF m 9 #[.val (.ref o0)] [(.int (0 : Int32)), (.int (2 : Int32))]))
  refine Go.of (fun _ k => XS.ishr X3.here hx rfl (hb hby d15_9) rfl k) ?_
  show Go p e below _ (T3.setTop (mkF m 10 #[.val (.ref o0)] [(.int (2 : Int32))]))
  obtain ⟨fs, hr, hrun, hended, hW, hsame⟩ := X3.leave (v := some (.int (2 : Int32))) (fun h => by rw [Bd.returns] at h; cases h)
  refine Go.mk _ _ ?_ hrun hended ⟨_, _, rfl, ?_, ⟨_, rfl⟩, hW, hsame.mono (by decide) (by decide)⟩
  · exact retI X3 hx Bd.returns (hb hby d15_10) hr
  · show Q15_2 Z o0 cb0 cb1 f_o0_value kv w_COMPACT_STRINGS h0 n0 _ T3.heap _
    rw [q3_0]
    exact ⟨rfl, N3, rfl⟩
def Q15_3 (Z : State) (o0 : Addr) (cb0 : Int32) (cb1 : Int32) (cb2 : Int32) (f_o0_value : Addr) (kv : ClassId) (w_COMPACT_STRINGS : Int32) (h0 : Heap) (n0 : Nat) (v : Option Value) (h : Heap) (L : List Loc) : Prop := v = some (.int (3 : Int32)) ∧ Fr n0 L ∧ h = h0
set_option maxRecDepth 65536 in
set_option maxHeartbeats 40000000 in
theorem rm15_3 (l : Launch) (Z : State) (a0 : Array Value) (hw : ∀ d ∈ tables_1, d.before a0 Z = true) (ws : List Jvm.Cond) (o0 : Addr) (cb0 : Int32) (cb1 : Int32) (cb2 : Int32) (f_o0_value : Addr) (kv : ClassId) (w_COMPACT_STRINGS : Int32) (h0 : Heap) (n0 : Nat) (Z0 : n0 ≤ h0.size) (F_o0_value : Fld Z h0 o0 "java/lang/String" "value" "[B" (.ref f_o0_value)) (V_f_o0_value : Arv Z h0 f_o0_value kv .byte (3 : Int32) [(.int cb0), (.int cb1), (.int cb2)] (.int (0 : Int32))) (S_COMPACT_STRINGS : Sta Z h0 "java/lang/String" "COMPACT_STRINGS" "Z" (.int w_COMPACT_STRINGS)) (hc3_3 : ¬ (w_COMPACT_STRINGS = (0 : Int32))) (F_o0_coder : Fld Z h0 o0 "java/lang/String" "coder" "B" (.int (0 : Int32))) (E_o0 : Exa Z h0 o0 "java/lang/String") :
    MetFree l (⟨"java/lang/String", "length", "()I"⟩ : MethodName) (head1 (Jvm.Cond.code (⟨"java/lang/String", "length", "()I"⟩ : MethodName) jdk_42_method_54_code 1 (some .int) :: ws) ({ frames := 1, cells := 0, slots := 0, locals := 13 } : Room)) (fun a U => a = #[(.ref o0)] ∧ Z.Warmed39 U.vm ∧ U.heap = h0) (fun _ _ _ _ _ => True) (fun _ U o U' => ∃ v L, o = .returned v ∧ Q15_3 Z o0 cb0 cb1 cb2 f_o0_value kv w_COMPACT_STRINGS h0 n0 v U'.heap L ∧ FrameEnd U o U' L ({ frames := 1, cells := 0, slots := 0, locals := 13 } : Room).cells ({ frames := 1, cells := 0, slots := 0, locals := 13 } : Room).slots) := by
  refine MetFree.of_bodySF (plainFor_of_name pn_java_lang_String) hisR ?_
  intro p e s m args below meth c s₁ Bd hml0 hP hK
  obtain ⟨rfl, hZ, hh⟩ := hP
  have hx := Bd.exec
  have hby := Bd.bytes
  have hml : c.maxLocals = 1 := hml0
  have hown : s.vm.findClass "java/lang/String" = some m.cls := findClass_of_methodNamed Bd.named
  have hnm := (name_of_methodNamed Bd.named Bd.method).1
  have X0 : Stand p l e ({ frames := 1, cells := 0, slots := 0, locals := 13 } : Room) s m #[(.ref o0)] below meth c s₁ [] 0 0 := Stand.of_body Bd
  have e0 : s₁.heap = h0 := by rw [← hh, Bd.state]; rfl
  have N0 := Fr.nil n0
  show Go p e below (fun o U' => ∃ v L, o = .returned v ∧ Q15_3 Z o0 cb0 cb1 cb2 f_o0_value kv w_COMPACT_STRINGS h0 n0 v U'.heap L ∧ FrameEnd s o U' L ({ frames := 1, cells := 0, slots := 0, locals := 13 } : Room).cells ({ frames := 1, cells := 0, slots := 0, locals := 13 } : Room).slots) (s₁.setTop (entryFrame m #[(.ref o0)] 1))
  refine Go.of (fun _ k => castTop (ef_15 m o0) k) ?_
  show Go p e below _ (s₁.setTop (mkF m 0 #[.val (.ref o0)] []))
  refine Go.of (fun _ k => XS.aloadN X0.here hx rfl (hb hby d15_0) rfl rfl k) ?_
  show Go p e below _ (s₁.setTop (mkF m 1 #[.val (.ref o0)] [(.ref o0)]))
  obtain ⟨T1, X1, e1, st1⟩ := getF X0 hx hZ hown (host := "") (Or.inl (hw _ (List.mem_of_getElem? (i := 94) rfl))) Via.refl e0 F_o0_value (g := (mkF m 1 #[.val (.ref o0)] [(.ref o0)])) rfl rfl (hb hby d15_1)
  refine Go.of st1 ?_
  show Go p e below _ (T1.setTop (mkF m 4 #[.val (.ref o0)] [(.ref f_o0_value)]))
  obtain ⟨clt2, Art2, qt2, st2, nt2, Ht2, Gt2⟩ := id V_f_o0_value
  refine Go.of (fun _ k => X1.arraylength hx (by rw [e1]; exact Art2.1) (State.isArrayOf_alike hZ.alike Art2.2.1) (g := (mkF m 4 #[.val (.ref o0)] [(.ref f_o0_value)])) rfl rfl (hb hby d15_4) _ k) ?_
  rw [len_of st2 nt2]
  show Go p e below _ (T1.setTop (mkF m 5 #[.val (.ref o0)] [(.int (3 : Int32))]))
  refine Go.of (fun _ k => XS.aloadN X1.here hx rfl (hb hby d15_5) rfl rfl k) ?_
  show Go p e below _ (T1.setTop (mkF m 6 #[.val (.ref o0)] [(.ref o0), (.int (3 : Int32))]))
  obtain ⟨cq3, kq3, q3a, q3b, q3c⟩ := isOf hZ e1 E_o0
  obtain ⟨_, _, ⟨T3, L3, k3, n3⟩, -, X3, ⟨Lc3, hQ3, l3, y3, z3⟩, st3⟩ := X1.virtualBack hx (y := (⟨"java/lang/String", "coder", "()B"⟩ : MethodName)) (z := (⟨"java/lang/String", "coder", "()B"⟩ : MethodName)) hown (mvT hZ (hw _ (List.mem_of_getElem? (i := 95) rfl))) (mvT hZ (hw _ (List.mem_of_getElem? (i := 96) rfl))) (notFace_of_selects (args := #[]) (mvT hZ (hw _ (List.mem_of_getElem? (i := 98) rfl)))) (mvT hZ (hw _ (List.mem_of_getElem? (i := 98) rfl))) (mvT hZ (hw _ (List.mem_of_getElem? (i := 97) rfl))) (by decide) (backOf (W := 1) (rm16 l Z a0 hw [] o0 w_COMPACT_STRINGS h0 n0 Z0 S_COMPACT_STRINGS hc3_3 F_o0_coder) hZ (hw _ (List.mem_of_getElem? (i := 99) rfl)) (hw _ (List.mem_of_getElem? (i := 38) rfl)) (by decide) (by decide)) q3a q3c (g := (mkF m 6 #[.val (.ref o0)] [(.ref o0), (.int (3 : Int32))])) rfl (by rw [hml]; rfl) (Steps.refl _) (argsL := []) (rest := [(.int (3 : Int32))]) (lenOf pd_5 rfl) rfl (by show 2 * 0 + _ ≤ _; exact Nat.le_of_eq rfl) (hb hby d15_6) (fun _ _ => ⟨rfl, e1, (by decide : 0 + 0 ≤ _), (by decide : 0 + 0 ≤ _)⟩)
  dsimp only [Pt.U, Pt.locs, Pt.cells, Pt.slots] at X3 l3 y3 z3 st3 hQ3
  subst l3 y3 z3
  obtain ⟨rfl, Nq3, q3_0⟩ := hQ3
  have N3 := Fr.app N0 Nq3
  refine Go.tr st3 ?_
  show Go p e below _ (T3.setTop (mkF m 9 #[.val (.ref o0)] [(.int (0 : Int32)), (.int (3 : Int32))]))
  refine Go.of (fun _ k => XS.ishr X3.here hx rfl (hb hby d15_9) rfl k) ?_
  show Go p e below _ (T3.setTop (mkF m 10 #[.val (.ref o0)] [(.int (3 : Int32))]))
  obtain ⟨fs, hr, hrun, hended, hW, hsame⟩ := X3.leave (v := some (.int (3 : Int32))) (fun h => by rw [Bd.returns] at h; cases h)
  refine Go.mk _ _ ?_ hrun hended ⟨_, _, rfl, ?_, ⟨_, rfl⟩, hW, hsame.mono (by decide) (by decide)⟩
  · exact retI X3 hx Bd.returns (hb hby d15_10) hr
  · show Q15_3 Z o0 cb0 cb1 cb2 f_o0_value kv w_COMPACT_STRINGS h0 n0 _ T3.heap _
    rw [q3_0]
    exact ⟨rfl, N3, rfl⟩
theorem d18_0 : decode jdk_68_method_71_code 0 = .ok (.getstatic 18, 3) := by decide +kernel
theorem d18_3 : decode jdk_68_method_71_code 3 = .ok (.ifCond .eq 18, 3) := by decide +kernel
theorem d18_6 : decode jdk_68_method_71_code 6 = .ok (.aload_n 0, 1) := by decide +kernel
theorem d18_7 : decode jdk_68_method_71_code 7 = .ok (.getfield 22, 3) := by decide +kernel
theorem d18_10 : decode jdk_68_method_71_code 10 = .ok (.aload_n 1, 1) := by decide +kernel
theorem d18_11 : decode jdk_68_method_71_code 11 = .ok (.invokevirtual 40, 3) := by decide +kernel
theorem d18_14 : decode jdk_68_method_71_code 14 = .ok (.if_icmp .eq 7, 3) := by decide +kernel
theorem d18_21 : decode jdk_68_method_71_code 21 = .ok (.return_, 1) := by decide +kernel
theorem ef_18 (m : MethodId) (x0 : Addr) (x1 : Addr) : entryFrame m #[(.ref x0), (.ref x1)] 2 = mkF m 0 #[.val (.ref x0), .val (.ref x1)] [] := by first | (simp [entryFrame, mkF, argsToLocals, Value.category]; done) | rfl
def Q18 (Z : State) (o0 : Addr) (o1 : Addr) (w_COMPACT_STRINGS : Int32) (h0 : Heap) (n0 : Nat) (v : Option Value) (h : Heap) (L : List Loc) : Prop := v = none ∧ Fr n0 L ∧ h = h0
set_option maxRecDepth 65536 in
set_option maxHeartbeats 40000000 in
theorem rm18 (l : Launch) (Z : State) (a0 : Array Value) (hw : ∀ d ∈ tables_1, d.before a0 Z = true) (ws : List Jvm.Cond) (o0 : Addr) (o1 : Addr) (w_COMPACT_STRINGS : Int32) (h0 : Heap) (n0 : Nat) (Z0 : n0 ≤ h0.size) (S_COMPACT_STRINGS : Sta Z h0 "java/lang/String" "COMPACT_STRINGS" "Z" (.int w_COMPACT_STRINGS)) (hc3 : ¬ (w_COMPACT_STRINGS = (0 : Int32))) (F_o0_coder : Fld Z h0 o0 "java/lang/AbstractStringBuilder" "coder" "B" (.int (0 : Int32))) (F_o1_coder : Fld Z h0 o1 "java/lang/String" "coder" "B" (.int (0 : Int32))) (E_o1 : Exa Z h0 o1 "java/lang/String") :
    MetFree l (⟨"java/lang/AbstractStringBuilder", "inflateIfNeededFor", "(Ljava/lang/String;)V"⟩ : MethodName) (head1 (Jvm.Cond.code (⟨"java/lang/AbstractStringBuilder", "inflateIfNeededFor", "(Ljava/lang/String;)V"⟩ : MethodName) jdk_68_method_71_code 2 none :: ws) ({ frames := 1, cells := 0, slots := 0, locals := 13 } : Room)) (fun a U => a = #[(.ref o0), (.ref o1)] ∧ Z.Warmed39 U.vm ∧ U.heap = h0) (fun _ _ _ _ _ => True) (fun _ U o U' => ∃ v L, o = .returned v ∧ Q18 Z o0 o1 w_COMPACT_STRINGS h0 n0 v U'.heap L ∧ FrameEnd U o U' L ({ frames := 1, cells := 0, slots := 0, locals := 13 } : Room).cells ({ frames := 1, cells := 0, slots := 0, locals := 13 } : Room).slots) := by
  refine MetFree.of_bodySF (plainFor_of_name pn_java_lang_AbstractStringBuilder) hisR ?_
  intro p e s m args below meth c s₁ Bd hml0 hP hK
  obtain ⟨rfl, hZ, hh⟩ := hP
  have hx := Bd.exec
  have hby := Bd.bytes
  have hml : c.maxLocals = 2 := hml0
  have hown : s.vm.findClass "java/lang/AbstractStringBuilder" = some m.cls := findClass_of_methodNamed Bd.named
  have hnm := (name_of_methodNamed Bd.named Bd.method).1
  have X0 : Stand p l e ({ frames := 1, cells := 0, slots := 0, locals := 13 } : Room) s m #[(.ref o0), (.ref o1)] below meth c s₁ [] 0 0 := Stand.of_body Bd
  have e0 : s₁.heap = h0 := by rw [← hh, Bd.state]; rfl
  have N0 := Fr.nil n0
  show Go p e below (fun o U' => ∃ v L, o = .returned v ∧ Q18 Z o0 o1 w_COMPACT_STRINGS h0 n0 v U'.heap L ∧ FrameEnd s o U' L ({ frames := 1, cells := 0, slots := 0, locals := 13 } : Room).cells ({ frames := 1, cells := 0, slots := 0, locals := 13 } : Room).slots) (s₁.setTop (entryFrame m #[(.ref o0), (.ref o1)] 2))
  refine Go.of (fun _ k => castTop (ef_18 m o0 o1) k) ?_
  show Go p e below _ (s₁.setTop (mkF m 0 #[.val (.ref o0), .val (.ref o1)] []))
  obtain ⟨T1, X1, e1, st1⟩ := getS2 X0 hx hZ hown (host := "") (Or.inl (hw _ (List.mem_of_getElem? (i := 37) rfl))) Via.refl e0 S_COMPACT_STRINGS (g := (mkF m 0 #[.val (.ref o0), .val (.ref o1)] [])) rfl (hb hby d18_0)
  refine Go.of st1 ?_
  show Go p e below _ (T1.setTop (mkF m 3 #[.val (.ref o0), .val (.ref o1)] [(.int w_COMPACT_STRINGS)]))
  refine Go.of (fun _ k => XS.ifNo X1.here hx rfl (hb hby d18_3) rfl ((if0 _ _).trans (feq hc3).1) k) ?_
  show Go p e below _ (T1.setTop (mkF m 6 #[.val (.ref o0), .val (.ref o1)] []))
  refine Go.of (fun _ k => XS.aloadN X1.here hx rfl (hb hby d18_6) rfl rfl k) ?_
  show Go p e below _ (T1.setTop (mkF m 7 #[.val (.ref o0), .val (.ref o1)] [(.ref o0)]))
  obtain ⟨T2, X2, e2, st2⟩ := getF X1 hx hZ hown (host := "") (Or.inl (hw _ (List.mem_of_getElem? (i := 42) rfl))) Via.refl e1 F_o0_coder (g := (mkF m 7 #[.val (.ref o0), .val (.ref o1)] [(.ref o0)])) rfl rfl (hb hby d18_7)
  refine Go.of st2 ?_
  show Go p e below _ (T2.setTop (mkF m 10 #[.val (.ref o0), .val (.ref o1)] [(.int (0 : Int32))]))
  refine Go.of (fun _ k => XS.aloadN X2.here hx rfl (hb hby d18_10) rfl rfl k) ?_
  show Go p e below _ (T2.setTop (mkF m 11 #[.val (.ref o0), .val (.ref o1)] [(.ref o1), (.int (0 : Int32))]))
  obtain ⟨cq3, kq3, q3a, q3b, q3c⟩ := isOf hZ e2 E_o1
  obtain ⟨_, _, ⟨T3, L3, k3, n3⟩, -, X3, ⟨Lc3, hQ3, l3, y3, z3⟩, st3⟩ := X2.virtualBack hx (y := (⟨"java/lang/String", "coder", "()B"⟩ : MethodName)) (z := (⟨"java/lang/String", "coder", "()B"⟩ : MethodName)) hown (mvT hZ (hw _ (List.mem_of_getElem? (i := 112) rfl))) (mvT hZ (hw _ (List.mem_of_getElem? (i := 96) rfl))) (notFace_of_selects (args := #[]) (mvT hZ (hw _ (List.mem_of_getElem? (i := 98) rfl)))) (mvT hZ (hw _ (List.mem_of_getElem? (i := 98) rfl))) (mvT hZ (hw _ (List.mem_of_getElem? (i := 97) rfl))) (by decide) (backOf (W := 1) (rm16 l Z a0 hw [] o1 w_COMPACT_STRINGS h0 n0 Z0 S_COMPACT_STRINGS hc3 F_o1_coder) hZ (hw _ (List.mem_of_getElem? (i := 99) rfl)) (hw _ (List.mem_of_getElem? (i := 38) rfl)) (by decide) (by decide)) q3a q3c (g := (mkF m 11 #[.val (.ref o0), .val (.ref o1)] [(.ref o1), (.int (0 : Int32))])) rfl (by rw [hml]; rfl) (Steps.refl _) (argsL := []) (rest := [(.int (0 : Int32))]) (lenOf pd_5 rfl) rfl (by show 2 * 0 + _ ≤ _; exact Nat.le_of_eq rfl) (hb hby d18_11) (fun _ _ => ⟨rfl, e2, (by decide : 0 + 0 ≤ _), (by decide : 0 + 0 ≤ _)⟩)
  dsimp only [Pt.U, Pt.locs, Pt.cells, Pt.slots] at X3 l3 y3 z3 st3 hQ3
  subst l3 y3 z3
  obtain ⟨rfl, Nq3, q3_0⟩ := hQ3
  have N3 := Fr.app N0 Nq3
  refine Go.tr st3 ?_
  show Go p e below _ (T3.setTop (mkF m 14 #[.val (.ref o0), .val (.ref o1)] [(.int (0 : Int32)), (.int (0 : Int32))]))
  refine Go.of (fun _ k => XS.icmpYes X3.here hx rfl (pc0 := 14) (pc' := 21) rfl (hb hby d18_14) rfl (teq (by decide : (0 : Int32) = (0 : Int32))).1 (by decide) (by decide) k) ?_
  show Go p e below _ (T3.setTop (mkF m 21 #[.val (.ref o0), .val (.ref o1)] []))
  obtain ⟨fs, hr, hrun, hended, hW, hsame⟩ := X3.leave (v := none) (fun _ => rfl)
  refine Go.mk _ _ ?_ hrun hended ⟨_, _, rfl, ?_, ⟨_, rfl⟩, hW, hsame.mono (by decide) (by decide)⟩
  · exact X3.returnOut hx Bd.returns (hb hby d18_21) hr
  · show Q18 Z o0 o1 w_COMPACT_STRINGS h0 n0 _ T3.heap _
    rw [q3_0]
    exact ⟨rfl, N3, rfl⟩
theorem d19_0 : decode jdk_42_method_147_code 0 = .ok (.aload_n 0, 1) := by decide +kernel
theorem d19_1 : decode jdk_42_method_147_code 1 = .ok (.invokevirtual 335, 3) := by decide +kernel
theorem d19_4 : decode jdk_42_method_147_code 4 = .ok (.iload_n 3, 1) := by decide +kernel
theorem d19_5 : decode jdk_42_method_147_code 5 = .ok (.if_icmp .ne 23, 3) := by decide +kernel
theorem d19_8 : decode jdk_42_method_147_code 8 = .ok (.aload_n 0, 1) := by decide +kernel
theorem d19_9 : decode jdk_42_method_147_code 9 = .ok (.getfield 9, 3) := by decide +kernel
theorem d19_12 : decode jdk_42_method_147_code 12 = .ok (.iconst 0, 1) := by decide +kernel
theorem d19_13 : decode jdk_42_method_147_code 13 = .ok (.aload_n 1, 1) := by decide +kernel
theorem d19_14 : decode jdk_42_method_147_code 14 = .ok (.iload_n 2, 1) := by decide +kernel
theorem d19_15 : decode jdk_42_method_147_code 15 = .ok (.iload_n 3, 1) := by decide +kernel
theorem d19_16 : decode jdk_42_method_147_code 16 = .ok (.ishl, 1) := by decide +kernel
theorem d19_17 : decode jdk_42_method_147_code 17 = .ok (.aload_n 0, 1) := by decide +kernel
theorem d19_18 : decode jdk_42_method_147_code 18 = .ok (.getfield 9, 3) := by decide +kernel
theorem d19_21 : decode jdk_42_method_147_code 21 = .ok (.arraylength, 1) := by decide +kernel
theorem d19_22 : decode jdk_42_method_147_code 22 = .ok (.invokestatic 212, 3) := by decide +kernel
theorem d19_25 : decode jdk_42_method_147_code 25 = .ok (.goto 18, 3) := by decide +kernel
theorem d19_43 : decode jdk_42_method_147_code 43 = .ok (.return_, 1) := by decide +kernel
theorem ef_19l2_1l3_0 (m : MethodId) (x0 : Addr) (x1 : Addr) : entryFrame m #[(.ref x0), (.ref x1), (.int (1 : Int32)), (.int (0 : Int32))] 4 = mkF m 0 #[.val (.ref x0), .val (.ref x1), .val (.int (1 : Int32)), .val (.int (0 : Int32))] [] := by first | (simp [entryFrame, mkF, argsToLocals, Value.category]; done) | rfl
def Q19_1 (Z : State) (o0 : Addr) (o1 : Addr) (cb0 : Int32) (cc0 : Int32) (w_COMPACT_STRINGS : Int32) (f_o0_value : Addr) (ks : ClassId) (kd : ClassId) (h0 : Heap) (n0 : Nat) (v : Option Value) (h : Heap) (L : List Loc) : Prop := v = none ∧ Fr n0 L ∧ Keep h0 h [o1] ∧ Arv Z h o1 kd .byte (16 : Int32) [(.int cb0), (.int cc0), (.int (0 : Int32)), (.int (0 : Int32)), (.int (0 : Int32)), (.int (0 : Int32)), (.int (0 : Int32)), (.int (0 : Int32)), (.int (0 : Int32)), (.int (0 : Int32)), (.int (0 : Int32)), (.int (0 : Int32)), (.int (0 : Int32)), (.int (0 : Int32)), (.int (0 : Int32)), (.int (0 : Int32))] (.int (0 : Int32))
set_option maxRecDepth 65536 in
set_option maxHeartbeats 40000000 in
theorem rm19_1 (l : Launch) (Z : State) (a0 : Array Value) (hw : ∀ d ∈ tables_1, d.before a0 Z = true) (ws : List Jvm.Cond) (o0 : Addr) (o1 : Addr) (cb0 : Int32) (cc0 : Int32) (w_COMPACT_STRINGS : Int32) (f_o0_value : Addr) (ks : ClassId) (kd : ClassId) (h0 : Heap) (n0 : Nat) (Z0 : n0 ≤ h0.size) (S_COMPACT_STRINGS : Sta Z h0 "java/lang/String" "COMPACT_STRINGS" "Z" (.int w_COMPACT_STRINGS)) (hc3_1 : ¬ (w_COMPACT_STRINGS = (0 : Int32))) (F_o0_coder : Fld Z h0 o0 "java/lang/String" "coder" "B" (.int (0 : Int32))) (E_o0 : Exa Z h0 o0 "java/lang/String") (F_o0_value : Fld Z h0 o0 "java/lang/String" "value" "[B" (.ref f_o0_value)) (V_f_o0_value : Arv Z h0 f_o0_value ks .byte (1 : Int32) [(.int cc0)] (.int (0 : Int32))) (V_o1 : Arv Z h0 o1 kd .byte (16 : Int32) [(.int cb0), (.int (0 : Int32)), (.int (0 : Int32)), (.int (0 : Int32)), (.int (0 : Int32)), (.int (0 : Int32)), (.int (0 : Int32)), (.int (0 : Int32)), (.int (0 : Int32)), (.int (0 : Int32)), (.int (0 : Int32)), (.int (0 : Int32)), (.int (0 : Int32)), (.int (0 : Int32)), (.int (0 : Int32)), (.int (0 : Int32))] (.int (0 : Int32))) (g_o1 : n0 ≤ o1) :
    MetFree l (⟨"java/lang/String", "getBytes", "([BIB)V"⟩ : MethodName) (head1 (Jvm.Cond.code (⟨"java/lang/String", "getBytes", "([BIB)V"⟩ : MethodName) jdk_42_method_147_code 4 none :: ws) ({ frames := 1, cells := 0, slots := 0, locals := 32 } : Room)) (fun a U => a = #[(.ref o0), (.ref o1), (.int (1 : Int32)), (.int (0 : Int32))] ∧ Z.Warmed39 U.vm ∧ U.heap = h0) (fun _ _ _ _ _ => True) (fun _ U o U' => ∃ v L, o = .returned v ∧ Q19_1 Z o0 o1 cb0 cc0 w_COMPACT_STRINGS f_o0_value ks kd h0 n0 v U'.heap L ∧ FrameEnd U o U' L ({ frames := 1, cells := 0, slots := 0, locals := 32 } : Room).cells ({ frames := 1, cells := 0, slots := 0, locals := 32 } : Room).slots) := by
  refine MetFree.of_bodySF (plainFor_of_name pn_java_lang_String) hisR ?_
  intro p e s m args below meth c s₁ Bd hml0 hP hK
  obtain ⟨rfl, hZ, hh⟩ := hP
  have hx := Bd.exec
  have hby := Bd.bytes
  have hml : c.maxLocals = 4 := hml0
  have hown : s.vm.findClass "java/lang/String" = some m.cls := findClass_of_methodNamed Bd.named
  have hnm := (name_of_methodNamed Bd.named Bd.method).1
  have X0 : Stand p l e ({ frames := 1, cells := 0, slots := 0, locals := 32 } : Room) s m #[(.ref o0), (.ref o1), (.int (1 : Int32)), (.int (0 : Int32))] below meth c s₁ [] 0 0 := Stand.of_body Bd
  have e0 : s₁.heap = h0 := by rw [← hh, Bd.state]; rfl
  have N0 := Fr.nil n0
  show Go p e below (fun o U' => ∃ v L, o = .returned v ∧ Q19_1 Z o0 o1 cb0 cc0 w_COMPACT_STRINGS f_o0_value ks kd h0 n0 v U'.heap L ∧ FrameEnd s o U' L ({ frames := 1, cells := 0, slots := 0, locals := 32 } : Room).cells ({ frames := 1, cells := 0, slots := 0, locals := 32 } : Room).slots) (s₁.setTop (entryFrame m #[(.ref o0), (.ref o1), (.int (1 : Int32)), (.int (0 : Int32))] 4))
  refine Go.of (fun _ k => castTop (ef_19l2_1l3_0 m o0 o1) k) ?_
  show Go p e below _ (s₁.setTop (mkF m 0 #[.val (.ref o0), .val (.ref o1), .val (.int (1 : Int32)), .val (.int (0 : Int32))] []))
  refine Go.of (fun _ k => XS.aloadN X0.here hx rfl (hb hby d19_0) rfl rfl k) ?_
  show Go p e below _ (s₁.setTop (mkF m 1 #[.val (.ref o0), .val (.ref o1), .val (.int (1 : Int32)), .val (.int (0 : Int32))] [(.ref o0)]))
  obtain ⟨cq1, kq1, q1a, q1b, q1c⟩ := isOf hZ e0 E_o0
  obtain ⟨_, _, ⟨T1, L1, k1, n1⟩, -, X1, ⟨Lc1, hQ1, l1, y1, z1⟩, st1⟩ := X0.virtualBack hx (y := (⟨"java/lang/String", "coder", "()B"⟩ : MethodName)) (z := (⟨"java/lang/String", "coder", "()B"⟩ : MethodName)) hown (mvT hZ (hw _ (List.mem_of_getElem? (i := 95) rfl))) (mvT hZ (hw _ (List.mem_of_getElem? (i := 96) rfl))) (notFace_of_selects (args := #[]) (mvT hZ (hw _ (List.mem_of_getElem? (i := 98) rfl)))) (mvT hZ (hw _ (List.mem_of_getElem? (i := 98) rfl))) (mvT hZ (hw _ (List.mem_of_getElem? (i := 97) rfl))) (by decide) (backOf (W := 0) (rm16 l Z a0 hw [] o0 w_COMPACT_STRINGS h0 n0 Z0 S_COMPACT_STRINGS hc3_1 F_o0_coder) hZ (hw _ (List.mem_of_getElem? (i := 99) rfl)) (hw _ (List.mem_of_getElem? (i := 38) rfl)) (by decide) (by decide)) q1a q1c (g := (mkF m 1 #[.val (.ref o0), .val (.ref o1), .val (.int (1 : Int32)), .val (.int (0 : Int32))] [(.ref o0)])) rfl (by rw [hml]; rfl) (Steps.refl _) (argsL := []) (rest := []) (lenOf pd_5 rfl) rfl (by show 2 * 0 + _ ≤ _; exact Nat.le_of_eq rfl) (hb hby d19_1) (fun _ _ => ⟨rfl, e0, (by decide : 0 + 0 ≤ _), (by decide : 0 + 0 ≤ _)⟩)
  dsimp only [Pt.U, Pt.locs, Pt.cells, Pt.slots] at X1 l1 y1 z1 st1 hQ1
  subst l1 y1 z1
  obtain ⟨rfl, Nq1, q1_0⟩ := hQ1
  have N1 := Fr.app N0 Nq1
  refine Go.tr st1 ?_
  show Go p e below _ (T1.setTop (mkF m 4 #[.val (.ref o0), .val (.ref o1), .val (.int (1 : Int32)), .val (.int (0 : Int32))] [(.int (0 : Int32))]))
  refine Go.of (fun _ k => XS.iloadN X1.here hx rfl (hb hby d19_4) rfl  k) ?_
  show Go p e below _ (T1.setTop (mkF m 5 #[.val (.ref o0), .val (.ref o1), .val (.int (1 : Int32)), .val (.int (0 : Int32))] [(.int (0 : Int32)), (.int (0 : Int32))]))
  refine Go.of (fun _ k => XS.icmpNo X1.here hx rfl (hb hby d19_5) rfl (teq (by decide : (0 : Int32) = (0 : Int32))).2 k) ?_
  show Go p e below _ (T1.setTop (mkF m 8 #[.val (.ref o0), .val (.ref o1), .val (.int (1 : Int32)), .val (.int (0 : Int32))] []))
  refine Go.of (fun _ k => XS.aloadN X1.here hx rfl (hb hby d19_8) rfl rfl k) ?_
  show Go p e below _ (T1.setTop (mkF m 9 #[.val (.ref o0), .val (.ref o1), .val (.int (1 : Int32)), .val (.int (0 : Int32))] [(.ref o0)]))
  obtain ⟨T2, X2, e2, st2⟩ := getF X1 hx hZ hown (host := "") (Or.inl (hw _ (List.mem_of_getElem? (i := 94) rfl))) Via.refl q1_0 F_o0_value (g := (mkF m 9 #[.val (.ref o0), .val (.ref o1), .val (.int (1 : Int32)), .val (.int (0 : Int32))] [(.ref o0)])) rfl rfl (hb hby d19_9)
  refine Go.of st2 ?_
  show Go p e below _ (T2.setTop (mkF m 12 #[.val (.ref o0), .val (.ref o1), .val (.int (1 : Int32)), .val (.int (0 : Int32))] [(.ref f_o0_value)]))
  refine Go.of (fun _ k => XS.iconst X2.here hx rfl (hb hby d19_12) k) ?_
  show Go p e below _ (T2.setTop (mkF m 13 #[.val (.ref o0), .val (.ref o1), .val (.int (1 : Int32)), .val (.int (0 : Int32))] [(.int (0 : Int32)), (.ref f_o0_value)]))
  refine Go.of (fun _ k => XS.aloadN X2.here hx rfl (hb hby d19_13) rfl rfl k) ?_
  show Go p e below _ (T2.setTop (mkF m 14 #[.val (.ref o0), .val (.ref o1), .val (.int (1 : Int32)), .val (.int (0 : Int32))] [(.ref o1), (.int (0 : Int32)), (.ref f_o0_value)]))
  refine Go.of (fun _ k => XS.iloadN X2.here hx rfl (hb hby d19_14) rfl  k) ?_
  show Go p e below _ (T2.setTop (mkF m 15 #[.val (.ref o0), .val (.ref o1), .val (.int (1 : Int32)), .val (.int (0 : Int32))] [(.int (1 : Int32)), (.ref o1), (.int (0 : Int32)), (.ref f_o0_value)]))
  refine Go.of (fun _ k => XS.iloadN X2.here hx rfl (hb hby d19_15) rfl  k) ?_
  show Go p e below _ (T2.setTop (mkF m 16 #[.val (.ref o0), .val (.ref o1), .val (.int (1 : Int32)), .val (.int (0 : Int32))] [(.int (0 : Int32)), (.int (1 : Int32)), (.ref o1), (.int (0 : Int32)), (.ref f_o0_value)]))
  refine Go.of (fun _ k => XS.ishl X2.here hx rfl (hb hby d19_16) rfl k) ?_
  show Go p e below _ (T2.setTop (mkF m 17 #[.val (.ref o0), .val (.ref o1), .val (.int (1 : Int32)), .val (.int (0 : Int32))] [(.int (1 : Int32)), (.ref o1), (.int (0 : Int32)), (.ref f_o0_value)]))
  refine Go.of (fun _ k => XS.aloadN X2.here hx rfl (hb hby d19_17) rfl rfl k) ?_
  show Go p e below _ (T2.setTop (mkF m 18 #[.val (.ref o0), .val (.ref o1), .val (.int (1 : Int32)), .val (.int (0 : Int32))] [(.ref o0), (.int (1 : Int32)), (.ref o1), (.int (0 : Int32)), (.ref f_o0_value)]))
  obtain ⟨T3, X3, e3, st3⟩ := getF X2 hx hZ hown (host := "") (Or.inl (hw _ (List.mem_of_getElem? (i := 94) rfl))) Via.refl e2 F_o0_value (g := (mkF m 18 #[.val (.ref o0), .val (.ref o1), .val (.int (1 : Int32)), .val (.int (0 : Int32))] [(.ref o0), (.int (1 : Int32)), (.ref o1), (.int (0 : Int32)), (.ref f_o0_value)])) rfl rfl (hb hby d19_18)
  refine Go.of st3 ?_
  show Go p e below _ (T3.setTop (mkF m 21 #[.val (.ref o0), .val (.ref o1), .val (.int (1 : Int32)), .val (.int (0 : Int32))] [(.ref f_o0_value), (.int (1 : Int32)), (.ref o1), (.int (0 : Int32)), (.ref f_o0_value)]))
  obtain ⟨clt4, Art4, qt4, st4, nt4, Ht4, Gt4⟩ := id V_f_o0_value
  refine Go.of (fun _ k => X3.arraylength hx (by rw [e3]; exact Art4.1) (State.isArrayOf_alike hZ.alike Art4.2.1) (g := (mkF m 21 #[.val (.ref o0), .val (.ref o1), .val (.int (1 : Int32)), .val (.int (0 : Int32))] [(.ref f_o0_value), (.int (1 : Int32)), (.ref o1), (.int (0 : Int32)), (.ref f_o0_value)])) rfl rfl (hb hby d19_21) _ k) ?_
  rw [len_of st4 nt4]
  show Go p e below _ (T3.setTop (mkF m 22 #[.val (.ref o0), .val (.ref o1), .val (.int (1 : Int32)), .val (.int (0 : Int32))] [(.int (1 : Int32)), (.int (1 : Int32)), (.ref o1), (.int (0 : Int32)), (.ref f_o0_value)]))
  obtain ⟨T5, h5, L5, X5, e5, N5, q5_0, V5, st5⟩ := cpA X3 hx hZ hown (hw _ (List.mem_of_getElem? (i := 118) rfl)) (hw _ (List.mem_of_getElem? (i := 121) rfl)) (hw _ (List.mem_of_getElem? (i := 119) rfl)) (hw _ (List.mem_of_getElem? (i := 120) rfl)) e3 V_f_o0_value V_o1 (us := [(.int cc0)]) (Or.inl ⟨rfl, rfl⟩) (by decide) (by decide) (by decide) (by decide) (by decide) rfl (Nat.le_of_ble_eq_true rfl) N1 g_o1 (g := (mkF m 22 #[.val (.ref o0), .val (.ref o1), .val (.int (1 : Int32)), .val (.int (0 : Int32))] [(.int (1 : Int32)), (.int (1 : Int32)), (.ref o1), (.int (0 : Int32)), (.ref f_o0_value)])) rfl (by rw [hml]; rfl) (rest := []) rfl (hb hby d19_22) (by decide) (W := 0) (by show 2 * 0 + _ ≤ _; exact Nat.le_of_eq rfl) (by decide)
  refine Go.of st5 ?_
  have K5 : Keep h0 h5 [o1] := ((Keep.refl h0 [o1])).trans q5_0 (allS (Or.inl (List.mem_of_getElem? (i := 0) rfl)) all0)
  have Z5 : n0 ≤ h5.size := Nat.le_trans Z0 q5_0.1
  have Vc5 : Arv Z h5 o1 kd .byte (16 : Int32) [(.int cb0), (.int cc0), (.int (0 : Int32)), (.int (0 : Int32)), (.int (0 : Int32)), (.int (0 : Int32)), (.int (0 : Int32)), (.int (0 : Int32)), (.int (0 : Int32)), (.int (0 : Int32)), (.int (0 : Int32)), (.int (0 : Int32)), (.int (0 : Int32)), (.int (0 : Int32)), (.int (0 : Int32)), (.int (0 : Int32))] (.int (0 : Int32)) := V5
  show Go p e below _ (T5.setTop (mkF m 25 #[.val (.ref o0), .val (.ref o1), .val (.int (1 : Int32)), .val (.int (0 : Int32))] []))
  refine Go.of (fun _ k => XS.goto X5.here hx rfl (pc0 := 25) (pc' := 43) rfl (hb hby d19_25) (by decide) (by decide) k) ?_
  show Go p e below _ (T5.setTop (mkF m 43 #[.val (.ref o0), .val (.ref o1), .val (.int (1 : Int32)), .val (.int (0 : Int32))] []))
  obtain ⟨fs, hr, hrun, hended, hW, hsame⟩ := X5.leave (v := none) (fun _ => rfl)
  refine Go.mk _ _ ?_ hrun hended ⟨_, _, rfl, ?_, ⟨_, rfl⟩, hW, hsame.mono (by decide) (by decide)⟩
  · exact X5.returnOut hx Bd.returns (hb hby d19_43) hr
  · show Q19_1 Z o0 o1 cb0 cc0 w_COMPACT_STRINGS f_o0_value ks kd h0 n0 _ T5.heap _
    rw [e5]
    exact ⟨rfl, N5, K5, Vc5⟩
theorem d17_0 : decode jdk_68_method_73_code 0 = .ok (.aload_n 0, 1) := by decide +kernel
theorem d17_1 : decode jdk_68_method_73_code 1 = .ok (.aload_n 2, 1) := by decide +kernel
theorem d17_2 : decode jdk_68_method_73_code 2 = .ok (.invokevirtual 397, 3) := by decide +kernel
theorem pd_6 : parseMethodDescriptor "(Ljava/lang/String;)V" = some ⟨[(.object "java/lang/String")], none⟩ := by decide +kernel
theorem d17_5 : decode jdk_68_method_73_code 5 = .ok (.aload_n 2, 1) := by decide +kernel
theorem d17_6 : decode jdk_68_method_73_code 6 = .ok (.aload_n 0, 1) := by decide +kernel
theorem d17_7 : decode jdk_68_method_73_code 7 = .ok (.getfield 15, 3) := by decide +kernel
theorem d17_10 : decode jdk_68_method_73_code 10 = .ok (.iload_n 1, 1) := by decide +kernel
theorem d17_11 : decode jdk_68_method_73_code 11 = .ok (.aload_n 0, 1) := by decide +kernel
theorem d17_12 : decode jdk_68_method_73_code 12 = .ok (.getfield 22, 3) := by decide +kernel
theorem d17_15 : decode jdk_68_method_73_code 15 = .ok (.invokevirtual 399, 3) := by decide +kernel
theorem pd_7 : parseMethodDescriptor "([BIB)V" = some ⟨[(.array .byte), .int, .byte], none⟩ := by decide +kernel
theorem d17_18 : decode jdk_68_method_73_code 18 = .ok (.return_, 1) := by decide +kernel
theorem ef_17l1_1 (m : MethodId) (x0 : Addr) (x2 : Addr) : entryFrame m #[(.ref x0), (.int (1 : Int32)), (.ref x2)] 3 = mkF m 0 #[.val (.ref x0), .val (.int (1 : Int32)), .val (.ref x2)] [] := by first | (simp [entryFrame, mkF, argsToLocals, Value.category]; done) | rfl
def Q17_1 (Z : State) (o0 : Addr) (o2 : Addr) (cb0 : Int32) (cc0 : Int32) (w_COMPACT_STRINGS : Int32) (f_o0_value : Addr) (f_o2_value : Addr) (ks : ClassId) (kv : ClassId) (h0 : Heap) (n0 : Nat) (v : Option Value) (h : Heap) (L : List Loc) : Prop := v = none ∧ Fr n0 L ∧ Keep h0 h [f_o0_value] ∧ Arv Z h f_o0_value kv .byte (16 : Int32) [(.int cb0), (.int cc0), (.int (0 : Int32)), (.int (0 : Int32)), (.int (0 : Int32)), (.int (0 : Int32)), (.int (0 : Int32)), (.int (0 : Int32)), (.int (0 : Int32)), (.int (0 : Int32)), (.int (0 : Int32)), (.int (0 : Int32)), (.int (0 : Int32)), (.int (0 : Int32)), (.int (0 : Int32)), (.int (0 : Int32))] (.int (0 : Int32))
set_option maxRecDepth 65536 in
set_option maxHeartbeats 40000000 in
theorem rm17_1 (l : Launch) (Z : State) (a0 : Array Value) (hw : ∀ d ∈ tables_1, d.before a0 Z = true) (ws : List Jvm.Cond) (o0 : Addr) (o2 : Addr) (cb0 : Int32) (cc0 : Int32) (w_COMPACT_STRINGS : Int32) (f_o0_value : Addr) (f_o2_value : Addr) (ks : ClassId) (kv : ClassId) (h0 : Heap) (n0 : Nat) (Z0 : n0 ≤ h0.size) (S_COMPACT_STRINGS : Sta Z h0 "java/lang/String" "COMPACT_STRINGS" "Z" (.int w_COMPACT_STRINGS)) (hc3_1 : ¬ (w_COMPACT_STRINGS = (0 : Int32))) (F_o0_coder : Fld Z h0 o0 "java/lang/AbstractStringBuilder" "coder" "B" (.int (0 : Int32))) (F_o2_coder : Fld Z h0 o2 "java/lang/String" "coder" "B" (.int (0 : Int32))) (E_o2 : Exa Z h0 o2 "java/lang/String") (E_o0 : Exa Z h0 o0 "java/lang/StringBuilder") (F_o0_value : Fld Z h0 o0 "java/lang/AbstractStringBuilder" "value" "[B" (.ref f_o0_value)) (F_o2_value : Fld Z h0 o2 "java/lang/String" "value" "[B" (.ref f_o2_value)) (V_f_o2_value : Arv Z h0 f_o2_value ks .byte (1 : Int32) [(.int cc0)] (.int (0 : Int32))) (V_f_o0_value : Arv Z h0 f_o0_value kv .byte (16 : Int32) [(.int cb0), (.int (0 : Int32)), (.int (0 : Int32)), (.int (0 : Int32)), (.int (0 : Int32)), (.int (0 : Int32)), (.int (0 : Int32)), (.int (0 : Int32)), (.int (0 : Int32)), (.int (0 : Int32)), (.int (0 : Int32)), (.int (0 : Int32)), (.int (0 : Int32)), (.int (0 : Int32)), (.int (0 : Int32)), (.int (0 : Int32))] (.int (0 : Int32))) (g_f_o0_value : n0 ≤ f_o0_value) :
    MetFree l (⟨"java/lang/AbstractStringBuilder", "putStringAt", "(ILjava/lang/String;)V"⟩ : MethodName) (head1 (Jvm.Cond.code (⟨"java/lang/AbstractStringBuilder", "putStringAt", "(ILjava/lang/String;)V"⟩ : MethodName) jdk_68_method_73_code 3 none :: ws) ({ frames := 2, cells := 0, slots := 0, locals := 47 } : Room)) (fun a U => a = #[(.ref o0), (.int (1 : Int32)), (.ref o2)] ∧ Z.Warmed39 U.vm ∧ U.heap = h0) (fun _ _ _ _ _ => True) (fun _ U o U' => ∃ v L, o = .returned v ∧ Q17_1 Z o0 o2 cb0 cc0 w_COMPACT_STRINGS f_o0_value f_o2_value ks kv h0 n0 v U'.heap L ∧ FrameEnd U o U' L ({ frames := 2, cells := 0, slots := 0, locals := 47 } : Room).cells ({ frames := 2, cells := 0, slots := 0, locals := 47 } : Room).slots) := by
  refine MetFree.of_bodySF (plainFor_of_name pn_java_lang_AbstractStringBuilder) hisR ?_
  intro p e s m args below meth c s₁ Bd hml0 hP hK
  obtain ⟨rfl, hZ, hh⟩ := hP
  have hx := Bd.exec
  have hby := Bd.bytes
  have hml : c.maxLocals = 3 := hml0
  have hown : s.vm.findClass "java/lang/AbstractStringBuilder" = some m.cls := findClass_of_methodNamed Bd.named
  have hnm := (name_of_methodNamed Bd.named Bd.method).1
  have X0 : Stand p l e ({ frames := 2, cells := 0, slots := 0, locals := 47 } : Room) s m #[(.ref o0), (.int (1 : Int32)), (.ref o2)] below meth c s₁ [] 0 0 := Stand.of_body Bd
  have e0 : s₁.heap = h0 := by rw [← hh, Bd.state]; rfl
  have N0 := Fr.nil n0
  show Go p e below (fun o U' => ∃ v L, o = .returned v ∧ Q17_1 Z o0 o2 cb0 cc0 w_COMPACT_STRINGS f_o0_value f_o2_value ks kv h0 n0 v U'.heap L ∧ FrameEnd s o U' L ({ frames := 2, cells := 0, slots := 0, locals := 47 } : Room).cells ({ frames := 2, cells := 0, slots := 0, locals := 47 } : Room).slots) (s₁.setTop (entryFrame m #[(.ref o0), (.int (1 : Int32)), (.ref o2)] 3))
  refine Go.of (fun _ k => castTop (ef_17l1_1 m o0 o2) k) ?_
  show Go p e below _ (s₁.setTop (mkF m 0 #[.val (.ref o0), .val (.int (1 : Int32)), .val (.ref o2)] []))
  refine Go.of (fun _ k => XS.aloadN X0.here hx rfl (hb hby d17_0) rfl rfl k) ?_
  show Go p e below _ (s₁.setTop (mkF m 1 #[.val (.ref o0), .val (.int (1 : Int32)), .val (.ref o2)] [(.ref o0)]))
  refine Go.of (fun _ k => XS.aloadN X0.here hx rfl (hb hby d17_1) rfl rfl k) ?_
  show Go p e below _ (s₁.setTop (mkF m 2 #[.val (.ref o0), .val (.int (1 : Int32)), .val (.ref o2)] [(.ref o2), (.ref o0)]))
  obtain ⟨cq1, q1, q1'⟩ := E_o0.cell
  obtain ⟨_, _, ⟨T1, L1, k1, n1⟩, -, X1, ⟨Lc1, hQ1, l1, y1, z1⟩, st1⟩ := X0.privateBack hx (y := (⟨"java/lang/AbstractStringBuilder", "inflateIfNeededFor", "(Ljava/lang/String;)V"⟩ : MethodName)) hown (mvT hZ (hw _ (List.mem_of_getElem? (i := 107) rfl))) (mvT hZ (hw _ (List.mem_of_getElem? (i := 108) rfl))) (own_selpriv (mvT hZ (hw _ (List.mem_of_getElem? (i := 110) rfl))) (Cond.privateMethod_at (mvP hZ (hw _ (List.mem_of_getElem? (i := 109) rfl)) (args := #[]))) (mvT hZ (hw _ (List.mem_of_getElem? (i := 108) rfl))) (by decide)) (Cond.privateMethod_at (mvP hZ (hw _ (List.mem_of_getElem? (i := 109) rfl)) (args := #[]))) (mvT hZ (hw _ (List.mem_of_getElem? (i := 111) rfl))) (by decide) (backOf (W := 0) (rm18 l Z a0 hw [] o0 o2 w_COMPACT_STRINGS h0 n0 Z0 S_COMPACT_STRINGS hc3_1 F_o0_coder F_o2_coder E_o2) hZ (hw _ (List.mem_of_getElem? (i := 111) rfl)) (hw _ (List.mem_of_getElem? (i := 34) rfl)) (by decide) (by decide)) (g := (mkF m 2 #[.val (.ref o0), .val (.int (1 : Int32)), .val (.ref o2)] [(.ref o2), (.ref o0)])) rfl (by rw [hml]; rfl) (Steps.refl _) (a := o0) (by rw [e0]; exact q1) q1' (argsL := [(.ref o2)]) (rest := []) (lenOf pd_6 rfl) rfl (by show 2 * 0 + _ ≤ _; exact Nat.le_of_eq rfl) (hb hby d17_2) (fun _ _ => ⟨rfl, e0, (by decide : 0 + 0 ≤ _), (by decide : 0 + 0 ≤ _)⟩)
  dsimp only [Pt.U, Pt.locs, Pt.cells, Pt.slots] at X1 l1 y1 z1 st1 hQ1
  subst l1 y1 z1
  obtain ⟨rfl, Nq1, q1_0⟩ := hQ1
  have N1 := Fr.app N0 Nq1
  refine Go.tr st1 ?_
  show Go p e below _ (T1.setTop (mkF m 5 #[.val (.ref o0), .val (.int (1 : Int32)), .val (.ref o2)] []))
  refine Go.of (fun _ k => XS.aloadN X1.here hx rfl (hb hby d17_5) rfl rfl k) ?_
  show Go p e below _ (T1.setTop (mkF m 6 #[.val (.ref o0), .val (.int (1 : Int32)), .val (.ref o2)] [(.ref o2)]))
  refine Go.of (fun _ k => XS.aloadN X1.here hx rfl (hb hby d17_6) rfl rfl k) ?_
  show Go p e below _ (T1.setTop (mkF m 7 #[.val (.ref o0), .val (.int (1 : Int32)), .val (.ref o2)] [(.ref o0), (.ref o2)]))
  obtain ⟨T2, X2, e2, st2⟩ := getF X1 hx hZ hown (host := "") (Or.inl (hw _ (List.mem_of_getElem? (i := 40) rfl))) Via.refl q1_0 F_o0_value (g := (mkF m 7 #[.val (.ref o0), .val (.int (1 : Int32)), .val (.ref o2)] [(.ref o0), (.ref o2)])) rfl rfl (hb hby d17_7)
  refine Go.of st2 ?_
  show Go p e below _ (T2.setTop (mkF m 10 #[.val (.ref o0), .val (.int (1 : Int32)), .val (.ref o2)] [(.ref f_o0_value), (.ref o2)]))
  refine Go.of (fun _ k => XS.iloadN X2.here hx rfl (hb hby d17_10) rfl  k) ?_
  show Go p e below _ (T2.setTop (mkF m 11 #[.val (.ref o0), .val (.int (1 : Int32)), .val (.ref o2)] [(.int (1 : Int32)), (.ref f_o0_value), (.ref o2)]))
  refine Go.of (fun _ k => XS.aloadN X2.here hx rfl (hb hby d17_11) rfl rfl k) ?_
  show Go p e below _ (T2.setTop (mkF m 12 #[.val (.ref o0), .val (.int (1 : Int32)), .val (.ref o2)] [(.ref o0), (.int (1 : Int32)), (.ref f_o0_value), (.ref o2)]))
  obtain ⟨T3, X3, e3, st3⟩ := getF X2 hx hZ hown (host := "") (Or.inl (hw _ (List.mem_of_getElem? (i := 42) rfl))) Via.refl e2 F_o0_coder (g := (mkF m 12 #[.val (.ref o0), .val (.int (1 : Int32)), .val (.ref o2)] [(.ref o0), (.int (1 : Int32)), (.ref f_o0_value), (.ref o2)])) rfl rfl (hb hby d17_12)
  refine Go.of st3 ?_
  show Go p e below _ (T3.setTop (mkF m 15 #[.val (.ref o0), .val (.int (1 : Int32)), .val (.ref o2)] [(.int (0 : Int32)), (.int (1 : Int32)), (.ref f_o0_value), (.ref o2)]))
  obtain ⟨cq4, kq4, q4a, q4b, q4c⟩ := isOf hZ e3 E_o2
  obtain ⟨_, _, ⟨T4, L4, k4, n4⟩, -, X4, ⟨Lc4, hQ4, l4, y4, z4⟩, st4⟩ := X3.virtualBack hx (y := (⟨"java/lang/String", "getBytes", "([BIB)V"⟩ : MethodName)) (z := (⟨"java/lang/String", "getBytes", "([BIB)V"⟩ : MethodName)) hown (mvT hZ (hw _ (List.mem_of_getElem? (i := 113) rfl))) (mvT hZ (hw _ (List.mem_of_getElem? (i := 114) rfl))) (notFace_of_selects (args := #[]) (mvT hZ (hw _ (List.mem_of_getElem? (i := 116) rfl)))) (mvT hZ (hw _ (List.mem_of_getElem? (i := 116) rfl))) (mvT hZ (hw _ (List.mem_of_getElem? (i := 115) rfl))) (by decide) (backOf (W := 0) (rm19_1 l Z a0 hw [] o2 f_o0_value cb0 cc0 w_COMPACT_STRINGS f_o2_value ks kv h0 n0 Z0 S_COMPACT_STRINGS hc3_1 F_o2_coder E_o2 F_o2_value V_f_o2_value V_f_o0_value g_f_o0_value) hZ (hw _ (List.mem_of_getElem? (i := 117) rfl)) (hw _ (List.mem_of_getElem? (i := 38) rfl)) (by decide) (by decide)) q4a q4c (g := (mkF m 15 #[.val (.ref o0), .val (.int (1 : Int32)), .val (.ref o2)] [(.int (0 : Int32)), (.int (1 : Int32)), (.ref f_o0_value), (.ref o2)])) rfl (by rw [hml]; rfl) (Steps.refl _) (argsL := [(.ref f_o0_value), (.int (1 : Int32)), (.int (0 : Int32))]) (rest := []) (lenOf pd_7 rfl) rfl (by show 2 * 0 + _ ≤ _; exact Nat.le_of_eq rfl) (hb hby d17_15) (fun _ _ => ⟨rfl, e3, (by decide : 0 + 0 ≤ _), (by decide : 0 + 0 ≤ _)⟩)
  dsimp only [Pt.U, Pt.locs, Pt.cells, Pt.slots] at X4 l4 y4 z4 st4 hQ4
  subst l4 y4 z4
  obtain ⟨rfl, Nq4, q4_0, q4_1⟩ := hQ4
  have N4 := Fr.app N1 Nq4
  refine Go.tr st4 ?_
  have K4 : Keep h0 T4.heap [f_o0_value] := ((Keep.refl h0 [f_o0_value])).trans q4_0 (allS (Or.inl (List.mem_of_getElem? (i := 0) rfl)) all0)
  have Z4 : n0 ≤ T4.heap.size := Nat.le_trans Z0 q4_0.1
  show Go p e below _ (T4.setTop (mkF m 18 #[.val (.ref o0), .val (.int (1 : Int32)), .val (.ref o2)] []))
  obtain ⟨fs, hr, hrun, hended, hW, hsame⟩ := X4.leave (v := none) (fun _ => rfl)
  refine Go.mk _ _ ?_ hrun hended ⟨_, _, rfl, ?_, ⟨_, rfl⟩, hW, hsame.mono (by decide) (by decide)⟩
  · exact X4.returnOut hx Bd.returns (hb hby d17_18) hr
  · show Q17_1 Z o0 o2 cb0 cc0 w_COMPACT_STRINGS f_o0_value f_o2_value ks kv h0 n0 _ T4.heap _
    exact ⟨rfl, N4, K4, q4_1⟩
def Q10_s1 (Z : State) (o0 : Addr) (cb0 : Int32) (f_o0_value : Addr) (kv : ClassId) (h0 : Heap) (n0 : Nat) (v : Option Value) (h : Heap) (L : List Loc) : Prop := v = none ∧ Fr n0 L ∧ h = h0
set_option maxRecDepth 65536 in
set_option maxHeartbeats 40000000 in
theorem rm10_s1 (l : Launch) (Z : State) (a0 : Array Value) (hw : ∀ d ∈ tables_1, d.before a0 Z = true) (ws : List Jvm.Cond) (o0 : Addr) (cb0 : Int32) (f_o0_value : Addr) (kv : ClassId) (h0 : Heap) (n0 : Nat) (Z0 : n0 ≤ h0.size) (F_o0_value : Fld Z h0 o0 "java/lang/AbstractStringBuilder" "value" "[B" (.ref f_o0_value)) (V_f_o0_value : Arv Z h0 f_o0_value kv .byte (16 : Int32) [(.int cb0), (.int (0 : Int32)), (.int (0 : Int32)), (.int (0 : Int32)), (.int (0 : Int32)), (.int (0 : Int32)), (.int (0 : Int32)), (.int (0 : Int32)), (.int (0 : Int32)), (.int (0 : Int32)), (.int (0 : Int32)), (.int (0 : Int32)), (.int (0 : Int32)), (.int (0 : Int32)), (.int (0 : Int32)), (.int (0 : Int32))] (.int (0 : Int32))) (F_o0_coder : Fld Z h0 o0 "java/lang/AbstractStringBuilder" "coder" "B" (.int (0 : Int32))) :
    MetFree l (⟨"java/lang/AbstractStringBuilder", "ensureCapacityInternal", "(I)V"⟩ : MethodName) (head1 (Jvm.Cond.code (⟨"java/lang/AbstractStringBuilder", "ensureCapacityInternal", "(I)V"⟩ : MethodName) jdk_68_method_9_code 3 none :: ws) ({ frames := 0, cells := 0, slots := 0, locals := 0 } : Room)) (fun a U => a = #[(.ref o0), (.int (2 : Int32))] ∧ Z.Warmed39 U.vm ∧ U.heap = h0) (fun _ _ _ _ _ => True) (fun _ U o U' => ∃ v L, o = .returned v ∧ Q10_s1 Z o0 cb0 f_o0_value kv h0 n0 v U'.heap L ∧ FrameEnd U o U' L ({ frames := 0, cells := 0, slots := 0, locals := 0 } : Room).cells ({ frames := 0, cells := 0, slots := 0, locals := 0 } : Room).slots) := by
  refine MetFree.of_bodySF (plainFor_of_name pn_java_lang_AbstractStringBuilder) hisR ?_
  intro p e s m args below meth c s₁ Bd hml0 hP hK
  obtain ⟨rfl, hZ, hh⟩ := hP
  have hx := Bd.exec
  have hby := Bd.bytes
  have hml : c.maxLocals = 3 := hml0
  have hown : s.vm.findClass "java/lang/AbstractStringBuilder" = some m.cls := findClass_of_methodNamed Bd.named
  have hnm := (name_of_methodNamed Bd.named Bd.method).1
  have X0 : Stand p l e ({ frames := 0, cells := 0, slots := 0, locals := 0 } : Room) s m #[(.ref o0), (.int (2 : Int32))] below meth c s₁ [] 0 0 := Stand.of_body Bd
  have e0 : s₁.heap = h0 := by rw [← hh, Bd.state]; rfl
  have N0 := Fr.nil n0
  show Go p e below (fun o U' => ∃ v L, o = .returned v ∧ Q10_s1 Z o0 cb0 f_o0_value kv h0 n0 v U'.heap L ∧ FrameEnd s o U' L ({ frames := 0, cells := 0, slots := 0, locals := 0 } : Room).cells ({ frames := 0, cells := 0, slots := 0, locals := 0 } : Room).slots) (s₁.setTop (entryFrame m #[(.ref o0), (.int (2 : Int32))] 3))
  refine Go.of (fun _ k => castTop (ef_10l1_2 m o0) k) ?_
  show Go p e below _ (s₁.setTop (mkF m 0 #[.val (.ref o0), .val (.int (2 : Int32)), .unset] []))
  refine Go.of (fun _ k => XS.aloadN X0.here hx rfl (hb hby d10_0) rfl rfl k) ?_
  show Go p e below _ (s₁.setTop (mkF m 1 #[.val (.ref o0), .val (.int (2 : Int32)), .unset] [(.ref o0)]))
  obtain ⟨T1, X1, e1, st1⟩ := getF X0 hx hZ hown (host := "") (Or.inl (hw _ (List.mem_of_getElem? (i := 40) rfl))) Via.refl e0 F_o0_value (g := (mkF m 1 #[.val (.ref o0), .val (.int (2 : Int32)), .unset] [(.ref o0)])) rfl rfl (hb hby d10_1)
  refine Go.of st1 ?_
  show Go p e below _ (T1.setTop (mkF m 4 #[.val (.ref o0), .val (.int (2 : Int32)), .unset] [(.ref f_o0_value)]))
  obtain ⟨clt2, Art2, qt2, st2, nt2, Ht2, Gt2⟩ := id V_f_o0_value
  refine Go.of (fun _ k => X1.arraylength hx (by rw [e1]; exact Art2.1) (State.isArrayOf_alike hZ.alike Art2.2.1) (g := (mkF m 4 #[.val (.ref o0), .val (.int (2 : Int32)), .unset] [(.ref f_o0_value)])) rfl rfl (hb hby d10_4) _ k) ?_
  rw [len_of st2 nt2]
  show Go p e below _ (T1.setTop (mkF m 5 #[.val (.ref o0), .val (.int (2 : Int32)), .unset] [(.int (16 : Int32))]))
  refine Go.of (fun _ k => XS.aloadN X1.here hx rfl (hb hby d10_5) rfl rfl k) ?_
  show Go p e below _ (T1.setTop (mkF m 6 #[.val (.ref o0), .val (.int (2 : Int32)), .unset] [(.ref o0), (.int (16 : Int32))]))
  obtain ⟨T3, X3, e3, st3⟩ := getF X1 hx hZ hown (host := "") (Or.inl (hw _ (List.mem_of_getElem? (i := 42) rfl))) Via.refl e1 F_o0_coder (g := (mkF m 6 #[.val (.ref o0), .val (.int (2 : Int32)), .unset] [(.ref o0), (.int (16 : Int32))])) rfl rfl (hb hby d10_6)
  refine Go.of st3 ?_
  show Go p e below _ (T3.setTop (mkF m 9 #[.val (.ref o0), .val (.int (2 : Int32)), .unset] [(.int (0 : Int32)), (.int (16 : Int32))]))
  refine Go.of (fun _ k => XS.ishr X3.here hx rfl (hb hby d10_9) rfl k) ?_
  show Go p e below _ (T3.setTop (mkF m 10 #[.val (.ref o0), .val (.int (2 : Int32)), .unset] [(.int (16 : Int32))]))
  refine Go.of (fun _ k => XS.istoreN X3.here hx rfl (hb hby d10_10) rfl (l' := #[.val (.ref o0), .val (.int (2 : Int32)), .val (.int (16 : Int32))]) rfl k) ?_
  show Go p e below _ (T3.setTop (mkF m 11 #[.val (.ref o0), .val (.int (2 : Int32)), .val (.int (16 : Int32))] []))
  refine Go.of (fun _ k => XS.iloadN X3.here hx rfl (hb hby d10_11) rfl  k) ?_
  show Go p e below _ (T3.setTop (mkF m 12 #[.val (.ref o0), .val (.int (2 : Int32)), .val (.int (16 : Int32))] [(.int (2 : Int32))]))
  refine Go.of (fun _ k => XS.iloadN X3.here hx rfl (hb hby d10_12) rfl  k) ?_
  show Go p e below _ (T3.setTop (mkF m 13 #[.val (.ref o0), .val (.int (2 : Int32)), .val (.int (16 : Int32))] [(.int (16 : Int32)), (.int (2 : Int32))]))
  refine Go.of (fun _ k => XS.isub X3.here hx rfl (hb hby d10_13) rfl k) ?_
  show Go p e below _ (T3.setTop (mkF m 14 #[.val (.ref o0), .val (.int (2 : Int32)), .val (.int (16 : Int32))] [(.int (-14 : Int32))]))
  refine Go.of (fun _ k => XS.ifYes X3.here hx rfl (pc0 := 14) (pc' := 38) rfl (hb hby d10_14) rfl ((if0 _ _).trans (flt (by decide : ¬ ((0 : Int32) < (-14 : Int32)))).2.2.2) (by decide) (by decide) k) ?_
  show Go p e below _ (T3.setTop (mkF m 38 #[.val (.ref o0), .val (.int (2 : Int32)), .val (.int (16 : Int32))] []))
  obtain ⟨fs, hr, hrun, hended, hW, hsame⟩ := X3.leave (v := none) (fun _ => rfl)
  refine Go.mk _ _ ?_ hrun hended ⟨_, _, rfl, ?_, ⟨_, rfl⟩, hW, hsame.mono (by decide) (by decide)⟩
  · exact X3.returnOut hx Bd.returns (hb hby d10_38) hr
  · show Q10_s1 Z o0 cb0 f_o0_value kv h0 n0 _ T3.heap _
    rw [e3]
    exact ⟨rfl, N0, rfl⟩
theorem d14_0 : decode jdk_68_method_22_code 0 = .ok (.aload_n 1, 1) := by decide +kernel
theorem d14_1 : decode jdk_68_method_22_code 1 = .ok (.ifnonnull 8, 3) := by decide +kernel
theorem d14_9 : decode jdk_68_method_22_code 9 = .ok (.aload_n 1, 1) := by decide +kernel
theorem d14_10 : decode jdk_68_method_22_code 10 = .ok (.invokevirtual 32, 3) := by decide +kernel
theorem pd_8 : parseMethodDescriptor "()I" = some ⟨[], some .int⟩ := by decide +kernel
theorem d14_13 : decode jdk_68_method_22_code 13 = .ok (.istore_n 2, 1) := by decide +kernel
theorem d14_14 : decode jdk_68_method_22_code 14 = .ok (.aload_n 0, 1) := by decide +kernel
theorem d14_15 : decode jdk_68_method_22_code 15 = .ok (.aload_n 0, 1) := by decide +kernel
theorem d14_16 : decode jdk_68_method_22_code 16 = .ok (.getfield 79, 3) := by decide +kernel
theorem d14_19 : decode jdk_68_method_22_code 19 = .ok (.iload_n 2, 1) := by decide +kernel
theorem d14_20 : decode jdk_68_method_22_code 20 = .ok (.iadd, 1) := by decide +kernel
theorem d14_21 : decode jdk_68_method_22_code 21 = .ok (.invokevirtual 100, 3) := by decide +kernel
theorem d14_24 : decode jdk_68_method_22_code 24 = .ok (.aload_n 0, 1) := by decide +kernel
theorem d14_25 : decode jdk_68_method_22_code 25 = .ok (.aload_n 0, 1) := by decide +kernel
theorem d14_26 : decode jdk_68_method_22_code 26 = .ok (.getfield 79, 3) := by decide +kernel
theorem d14_29 : decode jdk_68_method_22_code 29 = .ok (.aload_n 1, 1) := by decide +kernel
theorem d14_30 : decode jdk_68_method_22_code 30 = .ok (.invokevirtual 208, 3) := by decide +kernel
theorem pd_9 : parseMethodDescriptor "(ILjava/lang/String;)V" = some ⟨[.int, (.object "java/lang/String")], none⟩ := by decide +kernel
theorem d14_33 : decode jdk_68_method_22_code 33 = .ok (.aload_n 0, 1) := by decide +kernel
theorem d14_34 : decode jdk_68_method_22_code 34 = .ok (.dup, 1) := by decide +kernel
theorem d14_35 : decode jdk_68_method_22_code 35 = .ok (.getfield 79, 3) := by decide +kernel
theorem d14_38 : decode jdk_68_method_22_code 38 = .ok (.iload_n 2, 1) := by decide +kernel
theorem d14_39 : decode jdk_68_method_22_code 39 = .ok (.iadd, 1) := by decide +kernel
theorem d14_40 : decode jdk_68_method_22_code 40 = .ok (.putfield 79, 3) := by decide +kernel
theorem d14_43 : decode jdk_68_method_22_code 43 = .ok (.aload_n 0, 1) := by decide +kernel
theorem d14_44 : decode jdk_68_method_22_code 44 = .ok (.areturn, 1) := by decide +kernel
theorem ef_14 (m : MethodId) (x0 : Addr) (x1 : Addr) : entryFrame m #[(.ref x0), (.ref x1)] 3 = mkF m 0 #[.val (.ref x0), .val (.ref x1), .unset] [] := by first | (simp [entryFrame, mkF, argsToLocals, Value.category]; done) | rfl
def Q14_1 (Z : State) (o0 : Addr) (o1 : Addr) (cb0 : Int32) (cc0 : Int32) (f_o1_value : Addr) (ks : ClassId) (w_COMPACT_STRINGS : Int32) (f_o0_value : Addr) (kv : ClassId) (h0 : Heap) (n0 : Nat) (v : Option Value) (h : Heap) (L : List Loc) : Prop := v = some (.ref o0) ∧ Fr n0 L ∧ Keep h0 h [f_o0_value, o0] ∧ Arv Z h f_o0_value kv .byte (16 : Int32) [(.int cb0), (.int cc0), (.int (0 : Int32)), (.int (0 : Int32)), (.int (0 : Int32)), (.int (0 : Int32)), (.int (0 : Int32)), (.int (0 : Int32)), (.int (0 : Int32)), (.int (0 : Int32)), (.int (0 : Int32)), (.int (0 : Int32)), (.int (0 : Int32)), (.int (0 : Int32)), (.int (0 : Int32)), (.int (0 : Int32))] (.int (0 : Int32)) ∧ Exa Z h o0 "java/lang/StringBuilder" ∧ Fld Z h o0 "java/lang/AbstractStringBuilder" "coder" "B" (.int (0 : Int32)) ∧ Fld Z h o0 "java/lang/AbstractStringBuilder" "count" "I" (.int (2 : Int32)) ∧ Fld Z h o0 "java/lang/AbstractStringBuilder" "value" "[B" (.ref f_o0_value)
set_option maxRecDepth 65536 in
set_option maxHeartbeats 40000000 in
theorem rm14_1 (l : Launch) (Z : State) (a0 : Array Value) (hw : ∀ d ∈ tables_1, d.before a0 Z = true) (ws : List Jvm.Cond) (o0 : Addr) (o1 : Addr) (cb0 : Int32) (cc0 : Int32) (f_o1_value : Addr) (ks : ClassId) (w_COMPACT_STRINGS : Int32) (f_o0_value : Addr) (kv : ClassId) (h0 : Heap) (n0 : Nat) (Z0 : n0 ≤ h0.size) (F_o1_value : Fld Z h0 o1 "java/lang/String" "value" "[B" (.ref f_o1_value)) (V_f_o1_value : Arv Z h0 f_o1_value ks .byte (1 : Int32) [(.int cc0)] (.int (0 : Int32))) (S_COMPACT_STRINGS : Sta Z h0 "java/lang/String" "COMPACT_STRINGS" "Z" (.int w_COMPACT_STRINGS)) (hc3_3_1 : ¬ (w_COMPACT_STRINGS = (0 : Int32))) (F_o1_coder : Fld Z h0 o1 "java/lang/String" "coder" "B" (.int (0 : Int32))) (E_o1 : Exa Z h0 o1 "java/lang/String") (F_o0_count : Fld Z h0 o0 "java/lang/AbstractStringBuilder" "count" "I" (.int (1 : Int32))) (F_o0_value : Fld Z h0 o0 "java/lang/AbstractStringBuilder" "value" "[B" (.ref f_o0_value)) (V_f_o0_value : Arv Z h0 f_o0_value kv .byte (16 : Int32) [(.int cb0), (.int (0 : Int32)), (.int (0 : Int32)), (.int (0 : Int32)), (.int (0 : Int32)), (.int (0 : Int32)), (.int (0 : Int32)), (.int (0 : Int32)), (.int (0 : Int32)), (.int (0 : Int32)), (.int (0 : Int32)), (.int (0 : Int32)), (.int (0 : Int32)), (.int (0 : Int32)), (.int (0 : Int32)), (.int (0 : Int32))] (.int (0 : Int32))) (F_o0_coder : Fld Z h0 o0 "java/lang/AbstractStringBuilder" "coder" "B" (.int (0 : Int32))) (E_o0 : Exa Z h0 o0 "java/lang/StringBuilder") (g_f_o0_value : n0 ≤ f_o0_value) (ne_f_o0_value_o0 : f_o0_value ≠ o0) (g_o0 : n0 ≤ o0) :
    MetFree l (⟨"java/lang/AbstractStringBuilder", "append", "(Ljava/lang/String;)Ljava/lang/AbstractStringBuilder;"⟩ : MethodName) (head1 (Jvm.Cond.code (⟨"java/lang/AbstractStringBuilder", "append", "(Ljava/lang/String;)Ljava/lang/AbstractStringBuilder;"⟩ : MethodName) jdk_68_method_22_code 3 (some (.object "java/lang/AbstractStringBuilder")) :: ws) ({ frames := 3, cells := 0, slots := 0, locals := 61 } : Room)) (fun a U => a = #[(.ref o0), (.ref o1)] ∧ Z.Warmed39 U.vm ∧ U.heap = h0) (fun _ _ _ _ _ => True) (fun _ U o U' => ∃ v L, o = .returned v ∧ Q14_1 Z o0 o1 cb0 cc0 f_o1_value ks w_COMPACT_STRINGS f_o0_value kv h0 n0 v U'.heap L ∧ FrameEnd U o U' L ({ frames := 3, cells := 0, slots := 0, locals := 61 } : Room).cells ({ frames := 3, cells := 0, slots := 0, locals := 61 } : Room).slots) := by
  refine MetFree.of_bodySF (plainFor_of_name pn_java_lang_AbstractStringBuilder) hisR ?_
  intro p e s m args below meth c s₁ Bd hml0 hP hK
  obtain ⟨rfl, hZ, hh⟩ := hP
  have hx := Bd.exec
  have hby := Bd.bytes
  have hml : c.maxLocals = 3 := hml0
  have hown : s.vm.findClass "java/lang/AbstractStringBuilder" = some m.cls := findClass_of_methodNamed Bd.named
  have hnm := (name_of_methodNamed Bd.named Bd.method).1
  have X0 : Stand p l e ({ frames := 3, cells := 0, slots := 0, locals := 61 } : Room) s m #[(.ref o0), (.ref o1)] below meth c s₁ [] 0 0 := Stand.of_body Bd
  have e0 : s₁.heap = h0 := by rw [← hh, Bd.state]; rfl
  have N0 := Fr.nil n0
  show Go p e below (fun o U' => ∃ v L, o = .returned v ∧ Q14_1 Z o0 o1 cb0 cc0 f_o1_value ks w_COMPACT_STRINGS f_o0_value kv h0 n0 v U'.heap L ∧ FrameEnd s o U' L ({ frames := 3, cells := 0, slots := 0, locals := 61 } : Room).cells ({ frames := 3, cells := 0, slots := 0, locals := 61 } : Room).slots) (s₁.setTop (entryFrame m #[(.ref o0), (.ref o1)] 3))
  refine Go.of (fun _ k => castTop (ef_14 m o0 o1) k) ?_
  show Go p e below _ (s₁.setTop (mkF m 0 #[.val (.ref o0), .val (.ref o1), .unset] []))
  refine Go.of (fun _ k => XS.aloadN X0.here hx rfl (hb hby d14_0) rfl rfl k) ?_
  show Go p e below _ (s₁.setTop (mkF m 1 #[.val (.ref o0), .val (.ref o1), .unset] [(.ref o1)]))
  refine Go.of (fun _ k => XS.ifnonnullYes X0.here hx rfl (pc0 := 1) (pc' := 9) rfl (hb hby d14_1) rfl (by decide) (by decide) k) ?_
  show Go p e below _ (s₁.setTop (mkF m 9 #[.val (.ref o0), .val (.ref o1), .unset] []))
  refine Go.of (fun _ k => XS.aloadN X0.here hx rfl (hb hby d14_9) rfl rfl k) ?_
  show Go p e below _ (s₁.setTop (mkF m 10 #[.val (.ref o0), .val (.ref o1), .unset] [(.ref o1)]))
  obtain ⟨cq1, kq1, q1a, q1b, q1c⟩ := isOf hZ e0 E_o1
  obtain ⟨_, _, ⟨T1, L1, k1, n1⟩, -, X1, ⟨Lc1, hQ1, l1, y1, z1⟩, st1⟩ := X0.virtualBack hx (y := (⟨"java/lang/String", "length", "()I"⟩ : MethodName)) (z := (⟨"java/lang/String", "length", "()I"⟩ : MethodName)) hown (mvT hZ (hw _ (List.mem_of_getElem? (i := 89) rfl))) (mvT hZ (hw _ (List.mem_of_getElem? (i := 90) rfl))) (notFace_of_selects (args := #[]) (mvT hZ (hw _ (List.mem_of_getElem? (i := 92) rfl)))) (mvT hZ (hw _ (List.mem_of_getElem? (i := 92) rfl))) (mvT hZ (hw _ (List.mem_of_getElem? (i := 91) rfl))) (by decide) (backOf (W := 0) (rm15_1 l Z a0 hw [] o1 cc0 f_o1_value ks w_COMPACT_STRINGS h0 n0 Z0 F_o1_value V_f_o1_value S_COMPACT_STRINGS hc3_3_1 F_o1_coder E_o1) hZ (hw _ (List.mem_of_getElem? (i := 93) rfl)) (hw _ (List.mem_of_getElem? (i := 38) rfl)) (by decide) (by decide)) q1a q1c (g := (mkF m 10 #[.val (.ref o0), .val (.ref o1), .unset] [(.ref o1)])) rfl (by rw [hml]; rfl) (Steps.refl _) (argsL := []) (rest := []) (lenOf pd_8 rfl) rfl (by show 2 * 0 + _ ≤ _; exact Nat.le_of_eq rfl) (hb hby d14_10) (fun _ _ => ⟨rfl, e0, (by decide : 0 + 0 ≤ _), (by decide : 0 + 0 ≤ _)⟩)
  dsimp only [Pt.U, Pt.locs, Pt.cells, Pt.slots] at X1 l1 y1 z1 st1 hQ1
  subst l1 y1 z1
  obtain ⟨rfl, Nq1, q1_0⟩ := hQ1
  have N1 := Fr.app N0 Nq1
  refine Go.tr st1 ?_
  show Go p e below _ (T1.setTop (mkF m 13 #[.val (.ref o0), .val (.ref o1), .unset] [(.int (1 : Int32))]))
  refine Go.of (fun _ k => XS.istoreN X1.here hx rfl (hb hby d14_13) rfl (l' := #[.val (.ref o0), .val (.ref o1), .val (.int (1 : Int32))]) rfl k) ?_
  show Go p e below _ (T1.setTop (mkF m 14 #[.val (.ref o0), .val (.ref o1), .val (.int (1 : Int32))] []))
  refine Go.of (fun _ k => XS.aloadN X1.here hx rfl (hb hby d14_14) rfl rfl k) ?_
  show Go p e below _ (T1.setTop (mkF m 15 #[.val (.ref o0), .val (.ref o1), .val (.int (1 : Int32))] [(.ref o0)]))
  refine Go.of (fun _ k => XS.aloadN X1.here hx rfl (hb hby d14_15) rfl rfl k) ?_
  show Go p e below _ (T1.setTop (mkF m 16 #[.val (.ref o0), .val (.ref o1), .val (.int (1 : Int32))] [(.ref o0), (.ref o0)]))
  obtain ⟨T2, X2, e2, st2⟩ := getF X1 hx hZ hown (host := "") (Or.inl (hw _ (List.mem_of_getElem? (i := 54) rfl))) Via.refl q1_0 F_o0_count (g := (mkF m 16 #[.val (.ref o0), .val (.ref o1), .val (.int (1 : Int32))] [(.ref o0), (.ref o0)])) rfl rfl (hb hby d14_16)
  refine Go.of st2 ?_
  show Go p e below _ (T2.setTop (mkF m 19 #[.val (.ref o0), .val (.ref o1), .val (.int (1 : Int32))] [(.int (1 : Int32)), (.ref o0)]))
  refine Go.of (fun _ k => XS.iloadN X2.here hx rfl (hb hby d14_19) rfl  k) ?_
  show Go p e below _ (T2.setTop (mkF m 20 #[.val (.ref o0), .val (.ref o1), .val (.int (1 : Int32))] [(.int (1 : Int32)), (.int (1 : Int32)), (.ref o0)]))
  refine Go.of (fun _ k => XS.iadd X2.here hx rfl (hb hby d14_20) rfl k) ?_
  show Go p e below _ (T2.setTop (mkF m 21 #[.val (.ref o0), .val (.ref o1), .val (.int (1 : Int32))] [(.int (2 : Int32)), (.ref o0)]))
  obtain ⟨cq3, q3, q3'⟩ := E_o0.cell
  obtain ⟨_, _, ⟨T3, L3, k3, n3⟩, -, X3, ⟨Lc3, hQ3, l3, y3, z3⟩, st3⟩ := X2.privateBack hx (y := (⟨"java/lang/AbstractStringBuilder", "ensureCapacityInternal", "(I)V"⟩ : MethodName)) hown (mvT hZ (hw _ (List.mem_of_getElem? (i := 60) rfl))) (mvT hZ (hw _ (List.mem_of_getElem? (i := 61) rfl))) (own_selpriv (mvT hZ (hw _ (List.mem_of_getElem? (i := 63) rfl))) (Cond.privateMethod_at (mvP hZ (hw _ (List.mem_of_getElem? (i := 62) rfl)) (args := #[]))) (mvT hZ (hw _ (List.mem_of_getElem? (i := 61) rfl))) (by decide)) (Cond.privateMethod_at (mvP hZ (hw _ (List.mem_of_getElem? (i := 62) rfl)) (args := #[]))) (mvT hZ (hw _ (List.mem_of_getElem? (i := 64) rfl))) (by decide) (backOf (W := 0) (rm10_s1 l Z a0 hw [] o0 cb0 f_o0_value kv h0 n0 Z0 F_o0_value V_f_o0_value F_o0_coder) hZ (hw _ (List.mem_of_getElem? (i := 64) rfl)) (hw _ (List.mem_of_getElem? (i := 34) rfl)) (by decide) (by decide)) (g := (mkF m 21 #[.val (.ref o0), .val (.ref o1), .val (.int (1 : Int32))] [(.int (2 : Int32)), (.ref o0)])) rfl (by rw [hml]; rfl) (Steps.refl _) (a := o0) (by rw [e2]; exact q3) q3' (argsL := [(.int (2 : Int32))]) (rest := []) (lenOf pd_0 rfl) rfl (by show 2 * 0 + _ ≤ _; exact Nat.le_of_eq rfl) (hb hby d14_21) (fun _ _ => ⟨rfl, e2, (by decide : 0 + 0 ≤ _), (by decide : 0 + 0 ≤ _)⟩)
  dsimp only [Pt.U, Pt.locs, Pt.cells, Pt.slots] at X3 l3 y3 z3 st3 hQ3
  subst l3 y3 z3
  obtain ⟨rfl, Nq3, q3_0⟩ := hQ3
  have N3 := Fr.app N1 Nq3
  refine Go.tr st3 ?_
  show Go p e below _ (T3.setTop (mkF m 24 #[.val (.ref o0), .val (.ref o1), .val (.int (1 : Int32))] []))
  refine Go.of (fun _ k => XS.aloadN X3.here hx rfl (hb hby d14_24) rfl rfl k) ?_
  show Go p e below _ (T3.setTop (mkF m 25 #[.val (.ref o0), .val (.ref o1), .val (.int (1 : Int32))] [(.ref o0)]))
  refine Go.of (fun _ k => XS.aloadN X3.here hx rfl (hb hby d14_25) rfl rfl k) ?_
  show Go p e below _ (T3.setTop (mkF m 26 #[.val (.ref o0), .val (.ref o1), .val (.int (1 : Int32))] [(.ref o0), (.ref o0)]))
  obtain ⟨T4, X4, e4, st4⟩ := getF X3 hx hZ hown (host := "") (Or.inl (hw _ (List.mem_of_getElem? (i := 54) rfl))) Via.refl q3_0 F_o0_count (g := (mkF m 26 #[.val (.ref o0), .val (.ref o1), .val (.int (1 : Int32))] [(.ref o0), (.ref o0)])) rfl rfl (hb hby d14_26)
  refine Go.of st4 ?_
  show Go p e below _ (T4.setTop (mkF m 29 #[.val (.ref o0), .val (.ref o1), .val (.int (1 : Int32))] [(.int (1 : Int32)), (.ref o0)]))
  refine Go.of (fun _ k => XS.aloadN X4.here hx rfl (hb hby d14_29) rfl rfl k) ?_
  show Go p e below _ (T4.setTop (mkF m 30 #[.val (.ref o0), .val (.ref o1), .val (.int (1 : Int32))] [(.ref o1), (.int (1 : Int32)), (.ref o0)]))
  obtain ⟨cq5, q5, q5'⟩ := E_o0.cell
  obtain ⟨_, _, ⟨T5, L5, k5, n5⟩, -, X5, ⟨Lc5, hQ5, l5, y5, z5⟩, st5⟩ := X4.privateBack hx (y := (⟨"java/lang/AbstractStringBuilder", "putStringAt", "(ILjava/lang/String;)V"⟩ : MethodName)) hown (mvT hZ (hw _ (List.mem_of_getElem? (i := 102) rfl))) (mvT hZ (hw _ (List.mem_of_getElem? (i := 103) rfl))) (own_selpriv (mvT hZ (hw _ (List.mem_of_getElem? (i := 105) rfl))) (Cond.privateMethod_at (mvP hZ (hw _ (List.mem_of_getElem? (i := 104) rfl)) (args := #[]))) (mvT hZ (hw _ (List.mem_of_getElem? (i := 103) rfl))) (by decide)) (Cond.privateMethod_at (mvP hZ (hw _ (List.mem_of_getElem? (i := 104) rfl)) (args := #[]))) (mvT hZ (hw _ (List.mem_of_getElem? (i := 106) rfl))) (by decide) (backOf (W := 0) (rm17_1 l Z a0 hw [] o0 o1 cb0 cc0 w_COMPACT_STRINGS f_o0_value f_o1_value ks kv h0 n0 Z0 S_COMPACT_STRINGS hc3_3_1 F_o0_coder F_o1_coder E_o1 E_o0 F_o0_value F_o1_value V_f_o1_value V_f_o0_value g_f_o0_value) hZ (hw _ (List.mem_of_getElem? (i := 106) rfl)) (hw _ (List.mem_of_getElem? (i := 34) rfl)) (by decide) (by decide)) (g := (mkF m 30 #[.val (.ref o0), .val (.ref o1), .val (.int (1 : Int32))] [(.ref o1), (.int (1 : Int32)), (.ref o0)])) rfl (by rw [hml]; rfl) (Steps.refl _) (a := o0) (by rw [e4]; exact q5) q5' (argsL := [(.int (1 : Int32)), (.ref o1)]) (rest := []) (lenOf pd_9 rfl) rfl (by show 2 * 0 + _ ≤ _; exact Nat.le_of_eq rfl) (hb hby d14_30) (fun _ _ => ⟨rfl, e4, (by decide : 0 + 0 ≤ _), (by decide : 0 + 0 ≤ _)⟩)
  dsimp only [Pt.U, Pt.locs, Pt.cells, Pt.slots] at X5 l5 y5 z5 st5 hQ5
  subst l5 y5 z5
  obtain ⟨rfl, Nq5, q5_0, q5_1⟩ := hQ5
  have N5 := Fr.app N3 Nq5
  refine Go.tr st5 ?_
  have K5 : Keep h0 T5.heap [f_o0_value, o0] := ((Keep.refl h0 [f_o0_value, o0])).trans q5_0 (allS (Or.inl (List.mem_of_getElem? (i := 0) rfl)) all0)
  have Z5 : n0 ≤ T5.heap.size := Nat.le_trans Z0 q5_0.1
  show Go p e below _ (T5.setTop (mkF m 33 #[.val (.ref o0), .val (.ref o1), .val (.int (1 : Int32))] []))
  refine Go.of (fun _ k => XS.aloadN X5.here hx rfl (hb hby d14_33) rfl rfl k) ?_
  show Go p e below _ (T5.setTop (mkF m 34 #[.val (.ref o0), .val (.ref o1), .val (.int (1 : Int32))] [(.ref o0)]))
  refine Go.of (fun _ k => XS.dup X5.here hx rfl (hb hby d14_34) rfl rfl k) ?_
  show Go p e below _ (T5.setTop (mkF m 35 #[.val (.ref o0), .val (.ref o1), .val (.int (1 : Int32))] [(.ref o0), (.ref o0)]))
  have c6 : Fld Z T5.heap o0 "java/lang/AbstractStringBuilder" "count" "I" (.int (1 : Int32)) := (F_o0_count.keep q5_0 (ninS (Ne.symm ne_f_o0_value_o0) nin0))
  obtain ⟨T7, X7, e7, st7⟩ := getF X5 hx hZ hown (host := "") (Or.inl (hw _ (List.mem_of_getElem? (i := 54) rfl))) Via.refl rfl c6 (g := (mkF m 35 #[.val (.ref o0), .val (.ref o1), .val (.int (1 : Int32))] [(.ref o0), (.ref o0)])) rfl rfl (hb hby d14_35)
  refine Go.of st7 ?_
  show Go p e below _ (T7.setTop (mkF m 38 #[.val (.ref o0), .val (.ref o1), .val (.int (1 : Int32))] [(.int (1 : Int32)), (.ref o0)]))
  refine Go.of (fun _ k => XS.iloadN X7.here hx rfl (hb hby d14_38) rfl  k) ?_
  show Go p e below _ (T7.setTop (mkF m 39 #[.val (.ref o0), .val (.ref o1), .val (.int (1 : Int32))] [(.int (1 : Int32)), (.int (1 : Int32)), (.ref o0)]))
  refine Go.of (fun _ k => XS.iadd X7.here hx rfl (hb hby d14_39) rfl k) ?_
  show Go p e below _ (T7.setTop (mkF m 40 #[.val (.ref o0), .val (.ref o1), .val (.int (1 : Int32))] [(.int (2 : Int32)), (.ref o0)]))
  have c8 : Exa Z T5.heap o0 "java/lang/StringBuilder" := (E_o0.keep q5_0)
  obtain ⟨T9, h9, X9, e9, W9, st9⟩ := putF X7 hx hZ hown (host := "") (Or.inl (hw _ (List.mem_of_getElem? (i := 54) rfl))) Via.refl e7 c6 c8 (Or.inl (hw _ (List.mem_of_getElem? (i := 55) rfl))) (hw _ (List.mem_of_getElem? (i := 25) rfl)) (ty := .int) (by decide) rfl rfl (g := (mkF m 40 #[.val (.ref o0), .val (.ref o1), .val (.int (1 : Int32))] [(.int (2 : Int32)), (.ref o0)])) rfl rfl (hb hby d14_40)
  refine Go.of st9 ?_
  have N9 := Fr.snoc X9 N5 g_o0
  have K9 : Keep h0 h9 [f_o0_value, o0] := (K5).wr W9 (Or.inl (List.mem_of_getElem? (i := 1) rfl))
  have Z9 : n0 ≤ h9.size := Nat.le_trans Z5 (Keep.of_wr W9).1
  have f10 : Fld Z h9 o0 "java/lang/AbstractStringBuilder" "count" "I" (.int (2 : Int32)) := Fld.same W9 c6
  show Go p e below _ (T9.setTop (mkF m 43 #[.val (.ref o0), .val (.ref o1), .val (.int (1 : Int32))] []))
  refine Go.of (fun _ k => XS.aloadN X9.here hx rfl (hb hby d14_43) rfl rfl k) ?_
  show Go p e below _ (T9.setTop (mkF m 44 #[.val (.ref o0), .val (.ref o1), .val (.int (1 : Int32))] [(.ref o0)]))
  have c12 : Arv Z h9 f_o0_value kv .byte (16 : Int32) [(.int cb0), (.int cc0), (.int (0 : Int32)), (.int (0 : Int32)), (.int (0 : Int32)), (.int (0 : Int32)), (.int (0 : Int32)), (.int (0 : Int32)), (.int (0 : Int32)), (.int (0 : Int32)), (.int (0 : Int32)), (.int (0 : Int32)), (.int (0 : Int32)), (.int (0 : Int32)), (.int (0 : Int32)), (.int (0 : Int32))] (.int (0 : Int32)) := (q5_1.other W9 ne_f_o0_value_o0)
  have c13 : Exa Z h9 o0 "java/lang/StringBuilder" := (Exa.wr W9 c8)
  have c14 : Fld Z T5.heap o0 "java/lang/AbstractStringBuilder" "coder" "B" (.int (0 : Int32)) := (F_o0_coder.keep q5_0 (ninS (Ne.symm ne_f_o0_value_o0) nin0))
  have c15 : Fld Z h9 o0 "java/lang/AbstractStringBuilder" "coder" "B" (.int (0 : Int32)) := (Fld.other W9 c14 (Or.inr (slot_ne (Or.inl (hw _ (List.mem_of_getElem? (i := 43) rfl))) (Or.inl (hw _ (List.mem_of_getElem? (i := 55) rfl))) (by decide) (t := .byte) (t' := .int) (by decide) (by decide))))
  have c16 : Fld Z T5.heap o0 "java/lang/AbstractStringBuilder" "value" "[B" (.ref f_o0_value) := (F_o0_value.keep q5_0 (ninS (Ne.symm ne_f_o0_value_o0) nin0))
  have c17 : Fld Z h9 o0 "java/lang/AbstractStringBuilder" "value" "[B" (.ref f_o0_value) := (Fld.other W9 c16 (Or.inr (slot_ne (Or.inl (hw _ (List.mem_of_getElem? (i := 41) rfl))) (Or.inl (hw _ (List.mem_of_getElem? (i := 55) rfl))) (by decide) (t := (.array .byte)) (t' := .int) (by decide) (by decide))))
  obtain ⟨fs, hr, hrun, hended, hW, hsame⟩ := X9.leave (v := some (.ref o0)) (fun h => by rw [Bd.returns] at h; cases h)
  refine Go.mk _ _ ?_ hrun hended ⟨_, _, rfl, ?_, ⟨_, rfl⟩, hW, hsame.mono (by decide) (by decide)⟩
  · exact retOut X9 hx Bd.returns rfl (Or.inr (Or.inr (Or.inr (Or.inr ⟨rfl, rfl, rfl⟩)))) (hb hby d14_44) hr
  · show Q14_1 Z o0 o1 cb0 cc0 f_o1_value ks w_COMPACT_STRINGS f_o0_value kv h0 n0 _ T9.heap _
    rw [e9]
    exact ⟨rfl, N9, K9, c12, c13, c15, f10, c17⟩
theorem d13_0 : decode jdk_67_method_7_code 0 = .ok (.aload_n 0, 1) := by decide +kernel
theorem d13_1 : decode jdk_67_method_7_code 1 = .ok (.aload_n 1, 1) := by decide +kernel
theorem d13_2 : decode jdk_67_method_7_code 2 = .ok (.invokespecial 29, 3) := by decide +kernel
theorem pd_10 : parseMethodDescriptor "(Ljava/lang/String;)Ljava/lang/AbstractStringBuilder;" = some ⟨[(.object "java/lang/String")], some (.object "java/lang/AbstractStringBuilder")⟩ := by decide +kernel
theorem d13_5 : decode jdk_67_method_7_code 5 = .ok (.pop, 1) := by decide +kernel
theorem d13_6 : decode jdk_67_method_7_code 6 = .ok (.aload_n 0, 1) := by decide +kernel
theorem d13_7 : decode jdk_67_method_7_code 7 = .ok (.areturn, 1) := by decide +kernel
theorem ef_13 (m : MethodId) (x0 : Addr) (x1 : Addr) : entryFrame m #[(.ref x0), (.ref x1)] 2 = mkF m 0 #[.val (.ref x0), .val (.ref x1)] [] := by first | (simp [entryFrame, mkF, argsToLocals, Value.category]; done) | rfl
def Q13_1 (Z : State) (o0 : Addr) (o1 : Addr) (cb0 : Int32) (cc0 : Int32) (f_o1_value : Addr) (ks : ClassId) (w_COMPACT_STRINGS : Int32) (f_o0_value : Addr) (kv : ClassId) (h0 : Heap) (n0 : Nat) (v : Option Value) (h : Heap) (L : List Loc) : Prop := v = some (.ref o0) ∧ Fr n0 L ∧ Keep h0 h [f_o0_value, o0] ∧ Arv Z h f_o0_value kv .byte (16 : Int32) [(.int cb0), (.int cc0), (.int (0 : Int32)), (.int (0 : Int32)), (.int (0 : Int32)), (.int (0 : Int32)), (.int (0 : Int32)), (.int (0 : Int32)), (.int (0 : Int32)), (.int (0 : Int32)), (.int (0 : Int32)), (.int (0 : Int32)), (.int (0 : Int32)), (.int (0 : Int32)), (.int (0 : Int32)), (.int (0 : Int32))] (.int (0 : Int32)) ∧ Exa Z h o0 "java/lang/StringBuilder" ∧ Fld Z h o0 "java/lang/AbstractStringBuilder" "coder" "B" (.int (0 : Int32)) ∧ Fld Z h o0 "java/lang/AbstractStringBuilder" "count" "I" (.int (2 : Int32)) ∧ Fld Z h o0 "java/lang/AbstractStringBuilder" "value" "[B" (.ref f_o0_value)
set_option maxRecDepth 65536 in
set_option maxHeartbeats 40000000 in
theorem rm13_1 (l : Launch) (Z : State) (a0 : Array Value) (hw : ∀ d ∈ tables_1, d.before a0 Z = true) (ws : List Jvm.Cond) (o0 : Addr) (o1 : Addr) (cb0 : Int32) (cc0 : Int32) (f_o1_value : Addr) (ks : ClassId) (w_COMPACT_STRINGS : Int32) (f_o0_value : Addr) (kv : ClassId) (h0 : Heap) (n0 : Nat) (Z0 : n0 ≤ h0.size) (F_o1_value : Fld Z h0 o1 "java/lang/String" "value" "[B" (.ref f_o1_value)) (V_f_o1_value : Arv Z h0 f_o1_value ks .byte (1 : Int32) [(.int cc0)] (.int (0 : Int32))) (S_COMPACT_STRINGS : Sta Z h0 "java/lang/String" "COMPACT_STRINGS" "Z" (.int w_COMPACT_STRINGS)) (hc3_3_1_1 : ¬ (w_COMPACT_STRINGS = (0 : Int32))) (F_o1_coder : Fld Z h0 o1 "java/lang/String" "coder" "B" (.int (0 : Int32))) (E_o1 : Exa Z h0 o1 "java/lang/String") (F_o0_count : Fld Z h0 o0 "java/lang/AbstractStringBuilder" "count" "I" (.int (1 : Int32))) (F_o0_value : Fld Z h0 o0 "java/lang/AbstractStringBuilder" "value" "[B" (.ref f_o0_value)) (V_f_o0_value : Arv Z h0 f_o0_value kv .byte (16 : Int32) [(.int cb0), (.int (0 : Int32)), (.int (0 : Int32)), (.int (0 : Int32)), (.int (0 : Int32)), (.int (0 : Int32)), (.int (0 : Int32)), (.int (0 : Int32)), (.int (0 : Int32)), (.int (0 : Int32)), (.int (0 : Int32)), (.int (0 : Int32)), (.int (0 : Int32)), (.int (0 : Int32)), (.int (0 : Int32)), (.int (0 : Int32))] (.int (0 : Int32))) (F_o0_coder : Fld Z h0 o0 "java/lang/AbstractStringBuilder" "coder" "B" (.int (0 : Int32))) (E_o0 : Exa Z h0 o0 "java/lang/StringBuilder") (g_f_o0_value : n0 ≤ f_o0_value) (ne_f_o0_value_o0 : f_o0_value ≠ o0) (g_o0 : n0 ≤ o0) :
    MetFree l (⟨"java/lang/StringBuilder", "append", "(Ljava/lang/String;)Ljava/lang/StringBuilder;"⟩ : MethodName) (head1 (Jvm.Cond.code (⟨"java/lang/StringBuilder", "append", "(Ljava/lang/String;)Ljava/lang/StringBuilder;"⟩ : MethodName) jdk_67_method_7_code 2 (some (.object "java/lang/StringBuilder")) :: ws) ({ frames := 4, cells := 0, slots := 0, locals := 75 } : Room)) (fun a U => a = #[(.ref o0), (.ref o1)] ∧ Z.Warmed39 U.vm ∧ U.heap = h0) (fun _ _ _ _ _ => True) (fun _ U o U' => ∃ v L, o = .returned v ∧ Q13_1 Z o0 o1 cb0 cc0 f_o1_value ks w_COMPACT_STRINGS f_o0_value kv h0 n0 v U'.heap L ∧ FrameEnd U o U' L ({ frames := 4, cells := 0, slots := 0, locals := 75 } : Room).cells ({ frames := 4, cells := 0, slots := 0, locals := 75 } : Room).slots) := by
  refine MetFree.of_bodySF (plainFor_of_name pn_java_lang_StringBuilder) hisR ?_
  intro p e s m args below meth c s₁ Bd hml0 hP hK
  obtain ⟨rfl, hZ, hh⟩ := hP
  have hx := Bd.exec
  have hby := Bd.bytes
  have hml : c.maxLocals = 2 := hml0
  have hown : s.vm.findClass "java/lang/StringBuilder" = some m.cls := findClass_of_methodNamed Bd.named
  have hnm := (name_of_methodNamed Bd.named Bd.method).1
  have X0 : Stand p l e ({ frames := 4, cells := 0, slots := 0, locals := 75 } : Room) s m #[(.ref o0), (.ref o1)] below meth c s₁ [] 0 0 := Stand.of_body Bd
  have e0 : s₁.heap = h0 := by rw [← hh, Bd.state]; rfl
  have N0 := Fr.nil n0
  show Go p e below (fun o U' => ∃ v L, o = .returned v ∧ Q13_1 Z o0 o1 cb0 cc0 f_o1_value ks w_COMPACT_STRINGS f_o0_value kv h0 n0 v U'.heap L ∧ FrameEnd s o U' L ({ frames := 4, cells := 0, slots := 0, locals := 75 } : Room).cells ({ frames := 4, cells := 0, slots := 0, locals := 75 } : Room).slots) (s₁.setTop (entryFrame m #[(.ref o0), (.ref o1)] 2))
  refine Go.of (fun _ k => castTop (ef_13 m o0 o1) k) ?_
  show Go p e below _ (s₁.setTop (mkF m 0 #[.val (.ref o0), .val (.ref o1)] []))
  refine Go.of (fun _ k => XS.aloadN X0.here hx rfl (hb hby d13_0) rfl rfl k) ?_
  show Go p e below _ (s₁.setTop (mkF m 1 #[.val (.ref o0), .val (.ref o1)] [(.ref o0)]))
  refine Go.of (fun _ k => XS.aloadN X0.here hx rfl (hb hby d13_1) rfl rfl k) ?_
  show Go p e below _ (s₁.setTop (mkF m 2 #[.val (.ref o0), .val (.ref o1)] [(.ref o1), (.ref o0)]))
  obtain ⟨_, _, ⟨T1, L1, k1, n1⟩, -, X1, ⟨Lc1, hQ1, l1, y1, z1⟩, st1⟩ := superBack X0 hx hZ (y := (⟨"java/lang/AbstractStringBuilder", "append", "(Ljava/lang/String;)Ljava/lang/AbstractStringBuilder;"⟩ : MethodName)) hown (hw _ (List.mem_of_getElem? (i := 85) rfl)) (own_same (y := (⟨"java/lang/AbstractStringBuilder", "append", "(Ljava/lang/String;)Ljava/lang/AbstractStringBuilder;"⟩ : MethodName)) (hw _ (List.mem_of_getElem? (i := 63) rfl)) rfl (hw _ (List.mem_of_getElem? (i := 86) rfl)) (by decide)) (hw _ (List.mem_of_getElem? (i := 86) rfl)) (hw _ (List.mem_of_getElem? (i := 51) rfl)) (by decide) (backOf (W := 0) (rm14_1 l Z a0 hw [] o0 o1 cb0 cc0 f_o1_value ks w_COMPACT_STRINGS f_o0_value kv h0 n0 Z0 F_o1_value V_f_o1_value S_COMPACT_STRINGS hc3_3_1_1 F_o1_coder E_o1 F_o0_count F_o0_value V_f_o0_value F_o0_coder E_o0 g_f_o0_value ne_f_o0_value_o0 g_o0) hZ (hw _ (List.mem_of_getElem? (i := 88) rfl)) (hw _ (List.mem_of_getElem? (i := 34) rfl)) (by decide) (by decide)) e0 (Ins.self E_o0) (g := (mkF m 2 #[.val (.ref o0), .val (.ref o1)] [(.ref o1), (.ref o0)])) rfl (by rw [hml]; rfl) (hw _ (List.mem_of_getElem? (i := 88) rfl)) (argsL := [(.ref o1)]) (rest := []) (lenOf pd_10 rfl) rfl (by show 2 * 0 + _ ≤ _; exact Nat.le_of_eq rfl) (hb hby d13_2) (fun _ _ => ⟨rfl, e0, (by decide : 0 + 0 ≤ _), (by decide : 0 + 0 ≤ _)⟩)
  dsimp only [Pt.U, Pt.locs, Pt.cells, Pt.slots] at X1 l1 y1 z1 st1 hQ1
  subst l1 y1 z1
  obtain ⟨rfl, Nq1, q1_0, q1_1, q1_2, q1_3, q1_4, q1_5⟩ := hQ1
  have N1 := Fr.app N0 Nq1
  refine Go.tr st1 ?_
  have K1 : Keep h0 T1.heap [f_o0_value, o0] := ((Keep.refl h0 [f_o0_value, o0])).trans q1_0 (allS (Or.inl (List.mem_of_getElem? (i := 0) rfl)) (allS (Or.inl (List.mem_of_getElem? (i := 1) rfl)) all0))
  have Z1 : n0 ≤ T1.heap.size := Nat.le_trans Z0 q1_0.1
  show Go p e below _ (T1.setTop (mkF m 5 #[.val (.ref o0), .val (.ref o1)] [(.ref o0)]))
  refine Go.of (fun _ k => XS.pop X1.here hx rfl (hb hby d13_5) rfl rfl k) ?_
  show Go p e below _ (T1.setTop (mkF m 6 #[.val (.ref o0), .val (.ref o1)] []))
  refine Go.of (fun _ k => XS.aloadN X1.here hx rfl (hb hby d13_6) rfl rfl k) ?_
  show Go p e below _ (T1.setTop (mkF m 7 #[.val (.ref o0), .val (.ref o1)] [(.ref o0)]))
  obtain ⟨fs, hr, hrun, hended, hW, hsame⟩ := X1.leave (v := some (.ref o0)) (fun h => by rw [Bd.returns] at h; cases h)
  refine Go.mk _ _ ?_ hrun hended ⟨_, _, rfl, ?_, ⟨_, rfl⟩, hW, hsame.mono (by decide) (by decide)⟩
  · exact retOut X1 hx Bd.returns rfl (Or.inr (Or.inr (Or.inr (Or.inr ⟨rfl, rfl, rfl⟩)))) (hb hby d13_7) hr
  · show Q13_1 Z o0 o1 cb0 cc0 f_o1_value ks w_COMPACT_STRINGS f_o0_value kv h0 n0 _ T1.heap _
    exact ⟨rfl, N1, K1, q1_1, q1_2, q1_3, q1_4, q1_5⟩
theorem ef_19l2_2l3_0 (m : MethodId) (x0 : Addr) (x1 : Addr) : entryFrame m #[(.ref x0), (.ref x1), (.int (2 : Int32)), (.int (0 : Int32))] 4 = mkF m 0 #[.val (.ref x0), .val (.ref x1), .val (.int (2 : Int32)), .val (.int (0 : Int32))] [] := by first | (simp [entryFrame, mkF, argsToLocals, Value.category]; done) | rfl
def Q19_2 (Z : State) (o0 : Addr) (o1 : Addr) (cb0 : Int32) (cb1 : Int32) (cc0 : Int32) (w_COMPACT_STRINGS : Int32) (f_o0_value : Addr) (ks : ClassId) (kd : ClassId) (h0 : Heap) (n0 : Nat) (v : Option Value) (h : Heap) (L : List Loc) : Prop := v = none ∧ Fr n0 L ∧ Keep h0 h [o1] ∧ Arv Z h o1 kd .byte (16 : Int32) [(.int cb0), (.int cb1), (.int cc0), (.int (0 : Int32)), (.int (0 : Int32)), (.int (0 : Int32)), (.int (0 : Int32)), (.int (0 : Int32)), (.int (0 : Int32)), (.int (0 : Int32)), (.int (0 : Int32)), (.int (0 : Int32)), (.int (0 : Int32)), (.int (0 : Int32)), (.int (0 : Int32)), (.int (0 : Int32))] (.int (0 : Int32))
set_option maxRecDepth 65536 in
set_option maxHeartbeats 40000000 in
theorem rm19_2 (l : Launch) (Z : State) (a0 : Array Value) (hw : ∀ d ∈ tables_1, d.before a0 Z = true) (ws : List Jvm.Cond) (o0 : Addr) (o1 : Addr) (cb0 : Int32) (cb1 : Int32) (cc0 : Int32) (w_COMPACT_STRINGS : Int32) (f_o0_value : Addr) (ks : ClassId) (kd : ClassId) (h0 : Heap) (n0 : Nat) (Z0 : n0 ≤ h0.size) (S_COMPACT_STRINGS : Sta Z h0 "java/lang/String" "COMPACT_STRINGS" "Z" (.int w_COMPACT_STRINGS)) (hc3_1 : ¬ (w_COMPACT_STRINGS = (0 : Int32))) (F_o0_coder : Fld Z h0 o0 "java/lang/String" "coder" "B" (.int (0 : Int32))) (E_o0 : Exa Z h0 o0 "java/lang/String") (F_o0_value : Fld Z h0 o0 "java/lang/String" "value" "[B" (.ref f_o0_value)) (V_f_o0_value : Arv Z h0 f_o0_value ks .byte (1 : Int32) [(.int cc0)] (.int (0 : Int32))) (V_o1 : Arv Z h0 o1 kd .byte (16 : Int32) [(.int cb0), (.int cb1), (.int (0 : Int32)), (.int (0 : Int32)), (.int (0 : Int32)), (.int (0 : Int32)), (.int (0 : Int32)), (.int (0 : Int32)), (.int (0 : Int32)), (.int (0 : Int32)), (.int (0 : Int32)), (.int (0 : Int32)), (.int (0 : Int32)), (.int (0 : Int32)), (.int (0 : Int32)), (.int (0 : Int32))] (.int (0 : Int32))) (g_o1 : n0 ≤ o1) :
    MetFree l (⟨"java/lang/String", "getBytes", "([BIB)V"⟩ : MethodName) (head1 (Jvm.Cond.code (⟨"java/lang/String", "getBytes", "([BIB)V"⟩ : MethodName) jdk_42_method_147_code 4 none :: ws) ({ frames := 1, cells := 0, slots := 0, locals := 32 } : Room)) (fun a U => a = #[(.ref o0), (.ref o1), (.int (2 : Int32)), (.int (0 : Int32))] ∧ Z.Warmed39 U.vm ∧ U.heap = h0) (fun _ _ _ _ _ => True) (fun _ U o U' => ∃ v L, o = .returned v ∧ Q19_2 Z o0 o1 cb0 cb1 cc0 w_COMPACT_STRINGS f_o0_value ks kd h0 n0 v U'.heap L ∧ FrameEnd U o U' L ({ frames := 1, cells := 0, slots := 0, locals := 32 } : Room).cells ({ frames := 1, cells := 0, slots := 0, locals := 32 } : Room).slots) := by
  refine MetFree.of_bodySF (plainFor_of_name pn_java_lang_String) hisR ?_
  intro p e s m args below meth c s₁ Bd hml0 hP hK
  obtain ⟨rfl, hZ, hh⟩ := hP
  have hx := Bd.exec
  have hby := Bd.bytes
  have hml : c.maxLocals = 4 := hml0
  have hown : s.vm.findClass "java/lang/String" = some m.cls := findClass_of_methodNamed Bd.named
  have hnm := (name_of_methodNamed Bd.named Bd.method).1
  have X0 : Stand p l e ({ frames := 1, cells := 0, slots := 0, locals := 32 } : Room) s m #[(.ref o0), (.ref o1), (.int (2 : Int32)), (.int (0 : Int32))] below meth c s₁ [] 0 0 := Stand.of_body Bd
  have e0 : s₁.heap = h0 := by rw [← hh, Bd.state]; rfl
  have N0 := Fr.nil n0
  show Go p e below (fun o U' => ∃ v L, o = .returned v ∧ Q19_2 Z o0 o1 cb0 cb1 cc0 w_COMPACT_STRINGS f_o0_value ks kd h0 n0 v U'.heap L ∧ FrameEnd s o U' L ({ frames := 1, cells := 0, slots := 0, locals := 32 } : Room).cells ({ frames := 1, cells := 0, slots := 0, locals := 32 } : Room).slots) (s₁.setTop (entryFrame m #[(.ref o0), (.ref o1), (.int (2 : Int32)), (.int (0 : Int32))] 4))
  refine Go.of (fun _ k => castTop (ef_19l2_2l3_0 m o0 o1) k) ?_
  show Go p e below _ (s₁.setTop (mkF m 0 #[.val (.ref o0), .val (.ref o1), .val (.int (2 : Int32)), .val (.int (0 : Int32))] []))
  refine Go.of (fun _ k => XS.aloadN X0.here hx rfl (hb hby d19_0) rfl rfl k) ?_
  show Go p e below _ (s₁.setTop (mkF m 1 #[.val (.ref o0), .val (.ref o1), .val (.int (2 : Int32)), .val (.int (0 : Int32))] [(.ref o0)]))
  obtain ⟨cq1, kq1, q1a, q1b, q1c⟩ := isOf hZ e0 E_o0
  obtain ⟨_, _, ⟨T1, L1, k1, n1⟩, -, X1, ⟨Lc1, hQ1, l1, y1, z1⟩, st1⟩ := X0.virtualBack hx (y := (⟨"java/lang/String", "coder", "()B"⟩ : MethodName)) (z := (⟨"java/lang/String", "coder", "()B"⟩ : MethodName)) hown (mvT hZ (hw _ (List.mem_of_getElem? (i := 95) rfl))) (mvT hZ (hw _ (List.mem_of_getElem? (i := 96) rfl))) (notFace_of_selects (args := #[]) (mvT hZ (hw _ (List.mem_of_getElem? (i := 98) rfl)))) (mvT hZ (hw _ (List.mem_of_getElem? (i := 98) rfl))) (mvT hZ (hw _ (List.mem_of_getElem? (i := 97) rfl))) (by decide) (backOf (W := 0) (rm16 l Z a0 hw [] o0 w_COMPACT_STRINGS h0 n0 Z0 S_COMPACT_STRINGS hc3_1 F_o0_coder) hZ (hw _ (List.mem_of_getElem? (i := 99) rfl)) (hw _ (List.mem_of_getElem? (i := 38) rfl)) (by decide) (by decide)) q1a q1c (g := (mkF m 1 #[.val (.ref o0), .val (.ref o1), .val (.int (2 : Int32)), .val (.int (0 : Int32))] [(.ref o0)])) rfl (by rw [hml]; rfl) (Steps.refl _) (argsL := []) (rest := []) (lenOf pd_5 rfl) rfl (by show 2 * 0 + _ ≤ _; exact Nat.le_of_eq rfl) (hb hby d19_1) (fun _ _ => ⟨rfl, e0, (by decide : 0 + 0 ≤ _), (by decide : 0 + 0 ≤ _)⟩)
  dsimp only [Pt.U, Pt.locs, Pt.cells, Pt.slots] at X1 l1 y1 z1 st1 hQ1
  subst l1 y1 z1
  obtain ⟨rfl, Nq1, q1_0⟩ := hQ1
  have N1 := Fr.app N0 Nq1
  refine Go.tr st1 ?_
  show Go p e below _ (T1.setTop (mkF m 4 #[.val (.ref o0), .val (.ref o1), .val (.int (2 : Int32)), .val (.int (0 : Int32))] [(.int (0 : Int32))]))
  refine Go.of (fun _ k => XS.iloadN X1.here hx rfl (hb hby d19_4) rfl  k) ?_
  show Go p e below _ (T1.setTop (mkF m 5 #[.val (.ref o0), .val (.ref o1), .val (.int (2 : Int32)), .val (.int (0 : Int32))] [(.int (0 : Int32)), (.int (0 : Int32))]))
  refine Go.of (fun _ k => XS.icmpNo X1.here hx rfl (hb hby d19_5) rfl (teq (by decide : (0 : Int32) = (0 : Int32))).2 k) ?_
  show Go p e below _ (T1.setTop (mkF m 8 #[.val (.ref o0), .val (.ref o1), .val (.int (2 : Int32)), .val (.int (0 : Int32))] []))
  refine Go.of (fun _ k => XS.aloadN X1.here hx rfl (hb hby d19_8) rfl rfl k) ?_
  show Go p e below _ (T1.setTop (mkF m 9 #[.val (.ref o0), .val (.ref o1), .val (.int (2 : Int32)), .val (.int (0 : Int32))] [(.ref o0)]))
  obtain ⟨T2, X2, e2, st2⟩ := getF X1 hx hZ hown (host := "") (Or.inl (hw _ (List.mem_of_getElem? (i := 94) rfl))) Via.refl q1_0 F_o0_value (g := (mkF m 9 #[.val (.ref o0), .val (.ref o1), .val (.int (2 : Int32)), .val (.int (0 : Int32))] [(.ref o0)])) rfl rfl (hb hby d19_9)
  refine Go.of st2 ?_
  show Go p e below _ (T2.setTop (mkF m 12 #[.val (.ref o0), .val (.ref o1), .val (.int (2 : Int32)), .val (.int (0 : Int32))] [(.ref f_o0_value)]))
  refine Go.of (fun _ k => XS.iconst X2.here hx rfl (hb hby d19_12) k) ?_
  show Go p e below _ (T2.setTop (mkF m 13 #[.val (.ref o0), .val (.ref o1), .val (.int (2 : Int32)), .val (.int (0 : Int32))] [(.int (0 : Int32)), (.ref f_o0_value)]))
  refine Go.of (fun _ k => XS.aloadN X2.here hx rfl (hb hby d19_13) rfl rfl k) ?_
  show Go p e below _ (T2.setTop (mkF m 14 #[.val (.ref o0), .val (.ref o1), .val (.int (2 : Int32)), .val (.int (0 : Int32))] [(.ref o1), (.int (0 : Int32)), (.ref f_o0_value)]))
  refine Go.of (fun _ k => XS.iloadN X2.here hx rfl (hb hby d19_14) rfl  k) ?_
  show Go p e below _ (T2.setTop (mkF m 15 #[.val (.ref o0), .val (.ref o1), .val (.int (2 : Int32)), .val (.int (0 : Int32))] [(.int (2 : Int32)), (.ref o1), (.int (0 : Int32)), (.ref f_o0_value)]))
  refine Go.of (fun _ k => XS.iloadN X2.here hx rfl (hb hby d19_15) rfl  k) ?_
  show Go p e below _ (T2.setTop (mkF m 16 #[.val (.ref o0), .val (.ref o1), .val (.int (2 : Int32)), .val (.int (0 : Int32))] [(.int (0 : Int32)), (.int (2 : Int32)), (.ref o1), (.int (0 : Int32)), (.ref f_o0_value)]))
  refine Go.of (fun _ k => XS.ishl X2.here hx rfl (hb hby d19_16) rfl k) ?_
  show Go p e below _ (T2.setTop (mkF m 17 #[.val (.ref o0), .val (.ref o1), .val (.int (2 : Int32)), .val (.int (0 : Int32))] [(.int (2 : Int32)), (.ref o1), (.int (0 : Int32)), (.ref f_o0_value)]))
  refine Go.of (fun _ k => XS.aloadN X2.here hx rfl (hb hby d19_17) rfl rfl k) ?_
  show Go p e below _ (T2.setTop (mkF m 18 #[.val (.ref o0), .val (.ref o1), .val (.int (2 : Int32)), .val (.int (0 : Int32))] [(.ref o0), (.int (2 : Int32)), (.ref o1), (.int (0 : Int32)), (.ref f_o0_value)]))
  obtain ⟨T3, X3, e3, st3⟩ := getF X2 hx hZ hown (host := "") (Or.inl (hw _ (List.mem_of_getElem? (i := 94) rfl))) Via.refl e2 F_o0_value (g := (mkF m 18 #[.val (.ref o0), .val (.ref o1), .val (.int (2 : Int32)), .val (.int (0 : Int32))] [(.ref o0), (.int (2 : Int32)), (.ref o1), (.int (0 : Int32)), (.ref f_o0_value)])) rfl rfl (hb hby d19_18)
  refine Go.of st3 ?_
  show Go p e below _ (T3.setTop (mkF m 21 #[.val (.ref o0), .val (.ref o1), .val (.int (2 : Int32)), .val (.int (0 : Int32))] [(.ref f_o0_value), (.int (2 : Int32)), (.ref o1), (.int (0 : Int32)), (.ref f_o0_value)]))
  obtain ⟨clt4, Art4, qt4, st4, nt4, Ht4, Gt4⟩ := id V_f_o0_value
  refine Go.of (fun _ k => X3.arraylength hx (by rw [e3]; exact Art4.1) (State.isArrayOf_alike hZ.alike Art4.2.1) (g := (mkF m 21 #[.val (.ref o0), .val (.ref o1), .val (.int (2 : Int32)), .val (.int (0 : Int32))] [(.ref f_o0_value), (.int (2 : Int32)), (.ref o1), (.int (0 : Int32)), (.ref f_o0_value)])) rfl rfl (hb hby d19_21) _ k) ?_
  rw [len_of st4 nt4]
  show Go p e below _ (T3.setTop (mkF m 22 #[.val (.ref o0), .val (.ref o1), .val (.int (2 : Int32)), .val (.int (0 : Int32))] [(.int (1 : Int32)), (.int (2 : Int32)), (.ref o1), (.int (0 : Int32)), (.ref f_o0_value)]))
  obtain ⟨T5, h5, L5, X5, e5, N5, q5_0, V5, st5⟩ := cpA X3 hx hZ hown (hw _ (List.mem_of_getElem? (i := 118) rfl)) (hw _ (List.mem_of_getElem? (i := 121) rfl)) (hw _ (List.mem_of_getElem? (i := 119) rfl)) (hw _ (List.mem_of_getElem? (i := 120) rfl)) e3 V_f_o0_value V_o1 (us := [(.int cc0)]) (Or.inl ⟨rfl, rfl⟩) (by decide) (by decide) (by decide) (by decide) (by decide) rfl (Nat.le_of_ble_eq_true rfl) N1 g_o1 (g := (mkF m 22 #[.val (.ref o0), .val (.ref o1), .val (.int (2 : Int32)), .val (.int (0 : Int32))] [(.int (1 : Int32)), (.int (2 : Int32)), (.ref o1), (.int (0 : Int32)), (.ref f_o0_value)])) rfl (by rw [hml]; rfl) (rest := []) rfl (hb hby d19_22) (by decide) (W := 0) (by show 2 * 0 + _ ≤ _; exact Nat.le_of_eq rfl) (by decide)
  refine Go.of st5 ?_
  have K5 : Keep h0 h5 [o1] := ((Keep.refl h0 [o1])).trans q5_0 (allS (Or.inl (List.mem_of_getElem? (i := 0) rfl)) all0)
  have Z5 : n0 ≤ h5.size := Nat.le_trans Z0 q5_0.1
  have Vc5 : Arv Z h5 o1 kd .byte (16 : Int32) [(.int cb0), (.int cb1), (.int cc0), (.int (0 : Int32)), (.int (0 : Int32)), (.int (0 : Int32)), (.int (0 : Int32)), (.int (0 : Int32)), (.int (0 : Int32)), (.int (0 : Int32)), (.int (0 : Int32)), (.int (0 : Int32)), (.int (0 : Int32)), (.int (0 : Int32)), (.int (0 : Int32)), (.int (0 : Int32))] (.int (0 : Int32)) := V5
  show Go p e below _ (T5.setTop (mkF m 25 #[.val (.ref o0), .val (.ref o1), .val (.int (2 : Int32)), .val (.int (0 : Int32))] []))
  refine Go.of (fun _ k => XS.goto X5.here hx rfl (pc0 := 25) (pc' := 43) rfl (hb hby d19_25) (by decide) (by decide) k) ?_
  show Go p e below _ (T5.setTop (mkF m 43 #[.val (.ref o0), .val (.ref o1), .val (.int (2 : Int32)), .val (.int (0 : Int32))] []))
  obtain ⟨fs, hr, hrun, hended, hW, hsame⟩ := X5.leave (v := none) (fun _ => rfl)
  refine Go.mk _ _ ?_ hrun hended ⟨_, _, rfl, ?_, ⟨_, rfl⟩, hW, hsame.mono (by decide) (by decide)⟩
  · exact X5.returnOut hx Bd.returns (hb hby d19_43) hr
  · show Q19_2 Z o0 o1 cb0 cb1 cc0 w_COMPACT_STRINGS f_o0_value ks kd h0 n0 _ T5.heap _
    rw [e5]
    exact ⟨rfl, N5, K5, Vc5⟩
theorem ef_17l1_2 (m : MethodId) (x0 : Addr) (x2 : Addr) : entryFrame m #[(.ref x0), (.int (2 : Int32)), (.ref x2)] 3 = mkF m 0 #[.val (.ref x0), .val (.int (2 : Int32)), .val (.ref x2)] [] := by first | (simp [entryFrame, mkF, argsToLocals, Value.category]; done) | rfl
def Q17_2 (Z : State) (o0 : Addr) (o2 : Addr) (cb0 : Int32) (cb1 : Int32) (cc0 : Int32) (w_COMPACT_STRINGS : Int32) (f_o0_value : Addr) (f_o2_value : Addr) (ks : ClassId) (kv : ClassId) (h0 : Heap) (n0 : Nat) (v : Option Value) (h : Heap) (L : List Loc) : Prop := v = none ∧ Fr n0 L ∧ Keep h0 h [f_o0_value] ∧ Arv Z h f_o0_value kv .byte (16 : Int32) [(.int cb0), (.int cb1), (.int cc0), (.int (0 : Int32)), (.int (0 : Int32)), (.int (0 : Int32)), (.int (0 : Int32)), (.int (0 : Int32)), (.int (0 : Int32)), (.int (0 : Int32)), (.int (0 : Int32)), (.int (0 : Int32)), (.int (0 : Int32)), (.int (0 : Int32)), (.int (0 : Int32)), (.int (0 : Int32))] (.int (0 : Int32))
set_option maxRecDepth 65536 in
set_option maxHeartbeats 40000000 in
theorem rm17_2 (l : Launch) (Z : State) (a0 : Array Value) (hw : ∀ d ∈ tables_1, d.before a0 Z = true) (ws : List Jvm.Cond) (o0 : Addr) (o2 : Addr) (cb0 : Int32) (cb1 : Int32) (cc0 : Int32) (w_COMPACT_STRINGS : Int32) (f_o0_value : Addr) (f_o2_value : Addr) (ks : ClassId) (kv : ClassId) (h0 : Heap) (n0 : Nat) (Z0 : n0 ≤ h0.size) (S_COMPACT_STRINGS : Sta Z h0 "java/lang/String" "COMPACT_STRINGS" "Z" (.int w_COMPACT_STRINGS)) (hc3_1 : ¬ (w_COMPACT_STRINGS = (0 : Int32))) (F_o0_coder : Fld Z h0 o0 "java/lang/AbstractStringBuilder" "coder" "B" (.int (0 : Int32))) (F_o2_coder : Fld Z h0 o2 "java/lang/String" "coder" "B" (.int (0 : Int32))) (E_o2 : Exa Z h0 o2 "java/lang/String") (E_o0 : Exa Z h0 o0 "java/lang/StringBuilder") (F_o0_value : Fld Z h0 o0 "java/lang/AbstractStringBuilder" "value" "[B" (.ref f_o0_value)) (F_o2_value : Fld Z h0 o2 "java/lang/String" "value" "[B" (.ref f_o2_value)) (V_f_o2_value : Arv Z h0 f_o2_value ks .byte (1 : Int32) [(.int cc0)] (.int (0 : Int32))) (V_f_o0_value : Arv Z h0 f_o0_value kv .byte (16 : Int32) [(.int cb0), (.int cb1), (.int (0 : Int32)), (.int (0 : Int32)), (.int (0 : Int32)), (.int (0 : Int32)), (.int (0 : Int32)), (.int (0 : Int32)), (.int (0 : Int32)), (.int (0 : Int32)), (.int (0 : Int32)), (.int (0 : Int32)), (.int (0 : Int32)), (.int (0 : Int32)), (.int (0 : Int32)), (.int (0 : Int32))] (.int (0 : Int32))) (g_f_o0_value : n0 ≤ f_o0_value) :
    MetFree l (⟨"java/lang/AbstractStringBuilder", "putStringAt", "(ILjava/lang/String;)V"⟩ : MethodName) (head1 (Jvm.Cond.code (⟨"java/lang/AbstractStringBuilder", "putStringAt", "(ILjava/lang/String;)V"⟩ : MethodName) jdk_68_method_73_code 3 none :: ws) ({ frames := 2, cells := 0, slots := 0, locals := 47 } : Room)) (fun a U => a = #[(.ref o0), (.int (2 : Int32)), (.ref o2)] ∧ Z.Warmed39 U.vm ∧ U.heap = h0) (fun _ _ _ _ _ => True) (fun _ U o U' => ∃ v L, o = .returned v ∧ Q17_2 Z o0 o2 cb0 cb1 cc0 w_COMPACT_STRINGS f_o0_value f_o2_value ks kv h0 n0 v U'.heap L ∧ FrameEnd U o U' L ({ frames := 2, cells := 0, slots := 0, locals := 47 } : Room).cells ({ frames := 2, cells := 0, slots := 0, locals := 47 } : Room).slots) := by
  refine MetFree.of_bodySF (plainFor_of_name pn_java_lang_AbstractStringBuilder) hisR ?_
  intro p e s m args below meth c s₁ Bd hml0 hP hK
  obtain ⟨rfl, hZ, hh⟩ := hP
  have hx := Bd.exec
  have hby := Bd.bytes
  have hml : c.maxLocals = 3 := hml0
  have hown : s.vm.findClass "java/lang/AbstractStringBuilder" = some m.cls := findClass_of_methodNamed Bd.named
  have hnm := (name_of_methodNamed Bd.named Bd.method).1
  have X0 : Stand p l e ({ frames := 2, cells := 0, slots := 0, locals := 47 } : Room) s m #[(.ref o0), (.int (2 : Int32)), (.ref o2)] below meth c s₁ [] 0 0 := Stand.of_body Bd
  have e0 : s₁.heap = h0 := by rw [← hh, Bd.state]; rfl
  have N0 := Fr.nil n0
  show Go p e below (fun o U' => ∃ v L, o = .returned v ∧ Q17_2 Z o0 o2 cb0 cb1 cc0 w_COMPACT_STRINGS f_o0_value f_o2_value ks kv h0 n0 v U'.heap L ∧ FrameEnd s o U' L ({ frames := 2, cells := 0, slots := 0, locals := 47 } : Room).cells ({ frames := 2, cells := 0, slots := 0, locals := 47 } : Room).slots) (s₁.setTop (entryFrame m #[(.ref o0), (.int (2 : Int32)), (.ref o2)] 3))
  refine Go.of (fun _ k => castTop (ef_17l1_2 m o0 o2) k) ?_
  show Go p e below _ (s₁.setTop (mkF m 0 #[.val (.ref o0), .val (.int (2 : Int32)), .val (.ref o2)] []))
  refine Go.of (fun _ k => XS.aloadN X0.here hx rfl (hb hby d17_0) rfl rfl k) ?_
  show Go p e below _ (s₁.setTop (mkF m 1 #[.val (.ref o0), .val (.int (2 : Int32)), .val (.ref o2)] [(.ref o0)]))
  refine Go.of (fun _ k => XS.aloadN X0.here hx rfl (hb hby d17_1) rfl rfl k) ?_
  show Go p e below _ (s₁.setTop (mkF m 2 #[.val (.ref o0), .val (.int (2 : Int32)), .val (.ref o2)] [(.ref o2), (.ref o0)]))
  obtain ⟨cq1, q1, q1'⟩ := E_o0.cell
  obtain ⟨_, _, ⟨T1, L1, k1, n1⟩, -, X1, ⟨Lc1, hQ1, l1, y1, z1⟩, st1⟩ := X0.privateBack hx (y := (⟨"java/lang/AbstractStringBuilder", "inflateIfNeededFor", "(Ljava/lang/String;)V"⟩ : MethodName)) hown (mvT hZ (hw _ (List.mem_of_getElem? (i := 107) rfl))) (mvT hZ (hw _ (List.mem_of_getElem? (i := 108) rfl))) (own_selpriv (mvT hZ (hw _ (List.mem_of_getElem? (i := 110) rfl))) (Cond.privateMethod_at (mvP hZ (hw _ (List.mem_of_getElem? (i := 109) rfl)) (args := #[]))) (mvT hZ (hw _ (List.mem_of_getElem? (i := 108) rfl))) (by decide)) (Cond.privateMethod_at (mvP hZ (hw _ (List.mem_of_getElem? (i := 109) rfl)) (args := #[]))) (mvT hZ (hw _ (List.mem_of_getElem? (i := 111) rfl))) (by decide) (backOf (W := 0) (rm18 l Z a0 hw [] o0 o2 w_COMPACT_STRINGS h0 n0 Z0 S_COMPACT_STRINGS hc3_1 F_o0_coder F_o2_coder E_o2) hZ (hw _ (List.mem_of_getElem? (i := 111) rfl)) (hw _ (List.mem_of_getElem? (i := 34) rfl)) (by decide) (by decide)) (g := (mkF m 2 #[.val (.ref o0), .val (.int (2 : Int32)), .val (.ref o2)] [(.ref o2), (.ref o0)])) rfl (by rw [hml]; rfl) (Steps.refl _) (a := o0) (by rw [e0]; exact q1) q1' (argsL := [(.ref o2)]) (rest := []) (lenOf pd_6 rfl) rfl (by show 2 * 0 + _ ≤ _; exact Nat.le_of_eq rfl) (hb hby d17_2) (fun _ _ => ⟨rfl, e0, (by decide : 0 + 0 ≤ _), (by decide : 0 + 0 ≤ _)⟩)
  dsimp only [Pt.U, Pt.locs, Pt.cells, Pt.slots] at X1 l1 y1 z1 st1 hQ1
  subst l1 y1 z1
  obtain ⟨rfl, Nq1, q1_0⟩ := hQ1
  have N1 := Fr.app N0 Nq1
  refine Go.tr st1 ?_
  show Go p e below _ (T1.setTop (mkF m 5 #[.val (.ref o0), .val (.int (2 : Int32)), .val (.ref o2)] []))
  refine Go.of (fun _ k => XS.aloadN X1.here hx rfl (hb hby d17_5) rfl rfl k) ?_
  show Go p e below _ (T1.setTop (mkF m 6 #[.val (.ref o0), .val (.int (2 : Int32)), .val (.ref o2)] [(.ref o2)]))
  refine Go.of (fun _ k => XS.aloadN X1.here hx rfl (hb hby d17_6) rfl rfl k) ?_
  show Go p e below _ (T1.setTop (mkF m 7 #[.val (.ref o0), .val (.int (2 : Int32)), .val (.ref o2)] [(.ref o0), (.ref o2)]))
  obtain ⟨T2, X2, e2, st2⟩ := getF X1 hx hZ hown (host := "") (Or.inl (hw _ (List.mem_of_getElem? (i := 40) rfl))) Via.refl q1_0 F_o0_value (g := (mkF m 7 #[.val (.ref o0), .val (.int (2 : Int32)), .val (.ref o2)] [(.ref o0), (.ref o2)])) rfl rfl (hb hby d17_7)
  refine Go.of st2 ?_
  show Go p e below _ (T2.setTop (mkF m 10 #[.val (.ref o0), .val (.int (2 : Int32)), .val (.ref o2)] [(.ref f_o0_value), (.ref o2)]))
  refine Go.of (fun _ k => XS.iloadN X2.here hx rfl (hb hby d17_10) rfl  k) ?_
  show Go p e below _ (T2.setTop (mkF m 11 #[.val (.ref o0), .val (.int (2 : Int32)), .val (.ref o2)] [(.int (2 : Int32)), (.ref f_o0_value), (.ref o2)]))
  refine Go.of (fun _ k => XS.aloadN X2.here hx rfl (hb hby d17_11) rfl rfl k) ?_
  show Go p e below _ (T2.setTop (mkF m 12 #[.val (.ref o0), .val (.int (2 : Int32)), .val (.ref o2)] [(.ref o0), (.int (2 : Int32)), (.ref f_o0_value), (.ref o2)]))
  obtain ⟨T3, X3, e3, st3⟩ := getF X2 hx hZ hown (host := "") (Or.inl (hw _ (List.mem_of_getElem? (i := 42) rfl))) Via.refl e2 F_o0_coder (g := (mkF m 12 #[.val (.ref o0), .val (.int (2 : Int32)), .val (.ref o2)] [(.ref o0), (.int (2 : Int32)), (.ref f_o0_value), (.ref o2)])) rfl rfl (hb hby d17_12)
  refine Go.of st3 ?_
  show Go p e below _ (T3.setTop (mkF m 15 #[.val (.ref o0), .val (.int (2 : Int32)), .val (.ref o2)] [(.int (0 : Int32)), (.int (2 : Int32)), (.ref f_o0_value), (.ref o2)]))
  obtain ⟨cq4, kq4, q4a, q4b, q4c⟩ := isOf hZ e3 E_o2
  obtain ⟨_, _, ⟨T4, L4, k4, n4⟩, -, X4, ⟨Lc4, hQ4, l4, y4, z4⟩, st4⟩ := X3.virtualBack hx (y := (⟨"java/lang/String", "getBytes", "([BIB)V"⟩ : MethodName)) (z := (⟨"java/lang/String", "getBytes", "([BIB)V"⟩ : MethodName)) hown (mvT hZ (hw _ (List.mem_of_getElem? (i := 113) rfl))) (mvT hZ (hw _ (List.mem_of_getElem? (i := 114) rfl))) (notFace_of_selects (args := #[]) (mvT hZ (hw _ (List.mem_of_getElem? (i := 116) rfl)))) (mvT hZ (hw _ (List.mem_of_getElem? (i := 116) rfl))) (mvT hZ (hw _ (List.mem_of_getElem? (i := 115) rfl))) (by decide) (backOf (W := 0) (rm19_2 l Z a0 hw [] o2 f_o0_value cb0 cb1 cc0 w_COMPACT_STRINGS f_o2_value ks kv h0 n0 Z0 S_COMPACT_STRINGS hc3_1 F_o2_coder E_o2 F_o2_value V_f_o2_value V_f_o0_value g_f_o0_value) hZ (hw _ (List.mem_of_getElem? (i := 117) rfl)) (hw _ (List.mem_of_getElem? (i := 38) rfl)) (by decide) (by decide)) q4a q4c (g := (mkF m 15 #[.val (.ref o0), .val (.int (2 : Int32)), .val (.ref o2)] [(.int (0 : Int32)), (.int (2 : Int32)), (.ref f_o0_value), (.ref o2)])) rfl (by rw [hml]; rfl) (Steps.refl _) (argsL := [(.ref f_o0_value), (.int (2 : Int32)), (.int (0 : Int32))]) (rest := []) (lenOf pd_7 rfl) rfl (by show 2 * 0 + _ ≤ _; exact Nat.le_of_eq rfl) (hb hby d17_15) (fun _ _ => ⟨rfl, e3, (by decide : 0 + 0 ≤ _), (by decide : 0 + 0 ≤ _)⟩)
  dsimp only [Pt.U, Pt.locs, Pt.cells, Pt.slots] at X4 l4 y4 z4 st4 hQ4
  subst l4 y4 z4
  obtain ⟨rfl, Nq4, q4_0, q4_1⟩ := hQ4
  have N4 := Fr.app N1 Nq4
  refine Go.tr st4 ?_
  have K4 : Keep h0 T4.heap [f_o0_value] := ((Keep.refl h0 [f_o0_value])).trans q4_0 (allS (Or.inl (List.mem_of_getElem? (i := 0) rfl)) all0)
  have Z4 : n0 ≤ T4.heap.size := Nat.le_trans Z0 q4_0.1
  show Go p e below _ (T4.setTop (mkF m 18 #[.val (.ref o0), .val (.int (2 : Int32)), .val (.ref o2)] []))
  obtain ⟨fs, hr, hrun, hended, hW, hsame⟩ := X4.leave (v := none) (fun _ => rfl)
  refine Go.mk _ _ ?_ hrun hended ⟨_, _, rfl, ?_, ⟨_, rfl⟩, hW, hsame.mono (by decide) (by decide)⟩
  · exact X4.returnOut hx Bd.returns (hb hby d17_18) hr
  · show Q17_2 Z o0 o2 cb0 cb1 cc0 w_COMPACT_STRINGS f_o0_value f_o2_value ks kv h0 n0 _ T4.heap _
    exact ⟨rfl, N4, K4, q4_1⟩
theorem ef_10l1_3 (m : MethodId) (x0 : Addr) : entryFrame m #[(.ref x0), (.int (3 : Int32))] 3 = mkF m 0 #[.val (.ref x0), .val (.int (3 : Int32)), .unset] [] := by first | (simp [entryFrame, mkF, argsToLocals, Value.category]; done) | rfl
def Q10_s2 (Z : State) (o0 : Addr) (cb0 : Int32) (cb1 : Int32) (f_o0_value : Addr) (kv : ClassId) (h0 : Heap) (n0 : Nat) (v : Option Value) (h : Heap) (L : List Loc) : Prop := v = none ∧ Fr n0 L ∧ h = h0
set_option maxRecDepth 65536 in
set_option maxHeartbeats 40000000 in
theorem rm10_s2 (l : Launch) (Z : State) (a0 : Array Value) (hw : ∀ d ∈ tables_1, d.before a0 Z = true) (ws : List Jvm.Cond) (o0 : Addr) (cb0 : Int32) (cb1 : Int32) (f_o0_value : Addr) (kv : ClassId) (h0 : Heap) (n0 : Nat) (Z0 : n0 ≤ h0.size) (F_o0_value : Fld Z h0 o0 "java/lang/AbstractStringBuilder" "value" "[B" (.ref f_o0_value)) (V_f_o0_value : Arv Z h0 f_o0_value kv .byte (16 : Int32) [(.int cb0), (.int cb1), (.int (0 : Int32)), (.int (0 : Int32)), (.int (0 : Int32)), (.int (0 : Int32)), (.int (0 : Int32)), (.int (0 : Int32)), (.int (0 : Int32)), (.int (0 : Int32)), (.int (0 : Int32)), (.int (0 : Int32)), (.int (0 : Int32)), (.int (0 : Int32)), (.int (0 : Int32)), (.int (0 : Int32))] (.int (0 : Int32))) (F_o0_coder : Fld Z h0 o0 "java/lang/AbstractStringBuilder" "coder" "B" (.int (0 : Int32))) :
    MetFree l (⟨"java/lang/AbstractStringBuilder", "ensureCapacityInternal", "(I)V"⟩ : MethodName) (head1 (Jvm.Cond.code (⟨"java/lang/AbstractStringBuilder", "ensureCapacityInternal", "(I)V"⟩ : MethodName) jdk_68_method_9_code 3 none :: ws) ({ frames := 0, cells := 0, slots := 0, locals := 0 } : Room)) (fun a U => a = #[(.ref o0), (.int (3 : Int32))] ∧ Z.Warmed39 U.vm ∧ U.heap = h0) (fun _ _ _ _ _ => True) (fun _ U o U' => ∃ v L, o = .returned v ∧ Q10_s2 Z o0 cb0 cb1 f_o0_value kv h0 n0 v U'.heap L ∧ FrameEnd U o U' L ({ frames := 0, cells := 0, slots := 0, locals := 0 } : Room).cells ({ frames := 0, cells := 0, slots := 0, locals := 0 } : Room).slots) := by
  refine MetFree.of_bodySF (plainFor_of_name pn_java_lang_AbstractStringBuilder) hisR ?_
  intro p e s m args below meth c s₁ Bd hml0 hP hK
  obtain ⟨rfl, hZ, hh⟩ := hP
  have hx := Bd.exec
  have hby := Bd.bytes
  have hml : c.maxLocals = 3 := hml0
  have hown : s.vm.findClass "java/lang/AbstractStringBuilder" = some m.cls := findClass_of_methodNamed Bd.named
  have hnm := (name_of_methodNamed Bd.named Bd.method).1
  have X0 : Stand p l e ({ frames := 0, cells := 0, slots := 0, locals := 0 } : Room) s m #[(.ref o0), (.int (3 : Int32))] below meth c s₁ [] 0 0 := Stand.of_body Bd
  have e0 : s₁.heap = h0 := by rw [← hh, Bd.state]; rfl
  have N0 := Fr.nil n0
  show Go p e below (fun o U' => ∃ v L, o = .returned v ∧ Q10_s2 Z o0 cb0 cb1 f_o0_value kv h0 n0 v U'.heap L ∧ FrameEnd s o U' L ({ frames := 0, cells := 0, slots := 0, locals := 0 } : Room).cells ({ frames := 0, cells := 0, slots := 0, locals := 0 } : Room).slots) (s₁.setTop (entryFrame m #[(.ref o0), (.int (3 : Int32))] 3))
  refine Go.of (fun _ k => castTop (ef_10l1_3 m o0) k) ?_
  show Go p e below _ (s₁.setTop (mkF m 0 #[.val (.ref o0), .val (.int (3 : Int32)), .unset] []))
  refine Go.of (fun _ k => XS.aloadN X0.here hx rfl (hb hby d10_0) rfl rfl k) ?_
  show Go p e below _ (s₁.setTop (mkF m 1 #[.val (.ref o0), .val (.int (3 : Int32)), .unset] [(.ref o0)]))
  obtain ⟨T1, X1, e1, st1⟩ := getF X0 hx hZ hown (host := "") (Or.inl (hw _ (List.mem_of_getElem? (i := 40) rfl))) Via.refl e0 F_o0_value (g := (mkF m 1 #[.val (.ref o0), .val (.int (3 : Int32)), .unset] [(.ref o0)])) rfl rfl (hb hby d10_1)
  refine Go.of st1 ?_
  show Go p e below _ (T1.setTop (mkF m 4 #[.val (.ref o0), .val (.int (3 : Int32)), .unset] [(.ref f_o0_value)]))
  obtain ⟨clt2, Art2, qt2, st2, nt2, Ht2, Gt2⟩ := id V_f_o0_value
  refine Go.of (fun _ k => X1.arraylength hx (by rw [e1]; exact Art2.1) (State.isArrayOf_alike hZ.alike Art2.2.1) (g := (mkF m 4 #[.val (.ref o0), .val (.int (3 : Int32)), .unset] [(.ref f_o0_value)])) rfl rfl (hb hby d10_4) _ k) ?_
  rw [len_of st2 nt2]
  show Go p e below _ (T1.setTop (mkF m 5 #[.val (.ref o0), .val (.int (3 : Int32)), .unset] [(.int (16 : Int32))]))
  refine Go.of (fun _ k => XS.aloadN X1.here hx rfl (hb hby d10_5) rfl rfl k) ?_
  show Go p e below _ (T1.setTop (mkF m 6 #[.val (.ref o0), .val (.int (3 : Int32)), .unset] [(.ref o0), (.int (16 : Int32))]))
  obtain ⟨T3, X3, e3, st3⟩ := getF X1 hx hZ hown (host := "") (Or.inl (hw _ (List.mem_of_getElem? (i := 42) rfl))) Via.refl e1 F_o0_coder (g := (mkF m 6 #[.val (.ref o0), .val (.int (3 : Int32)), .unset] [(.ref o0), (.int (16 : Int32))])) rfl rfl (hb hby d10_6)
  refine Go.of st3 ?_
  show Go p e below _ (T3.setTop (mkF m 9 #[.val (.ref o0), .val (.int (3 : Int32)), .unset] [(.int (0 : Int32)), (.int (16 : Int32))]))
  refine Go.of (fun _ k => XS.ishr X3.here hx rfl (hb hby d10_9) rfl k) ?_
  show Go p e below _ (T3.setTop (mkF m 10 #[.val (.ref o0), .val (.int (3 : Int32)), .unset] [(.int (16 : Int32))]))
  refine Go.of (fun _ k => XS.istoreN X3.here hx rfl (hb hby d10_10) rfl (l' := #[.val (.ref o0), .val (.int (3 : Int32)), .val (.int (16 : Int32))]) rfl k) ?_
  show Go p e below _ (T3.setTop (mkF m 11 #[.val (.ref o0), .val (.int (3 : Int32)), .val (.int (16 : Int32))] []))
  refine Go.of (fun _ k => XS.iloadN X3.here hx rfl (hb hby d10_11) rfl  k) ?_
  show Go p e below _ (T3.setTop (mkF m 12 #[.val (.ref o0), .val (.int (3 : Int32)), .val (.int (16 : Int32))] [(.int (3 : Int32))]))
  refine Go.of (fun _ k => XS.iloadN X3.here hx rfl (hb hby d10_12) rfl  k) ?_
  show Go p e below _ (T3.setTop (mkF m 13 #[.val (.ref o0), .val (.int (3 : Int32)), .val (.int (16 : Int32))] [(.int (16 : Int32)), (.int (3 : Int32))]))
  refine Go.of (fun _ k => XS.isub X3.here hx rfl (hb hby d10_13) rfl k) ?_
  show Go p e below _ (T3.setTop (mkF m 14 #[.val (.ref o0), .val (.int (3 : Int32)), .val (.int (16 : Int32))] [(.int (-13 : Int32))]))
  refine Go.of (fun _ k => XS.ifYes X3.here hx rfl (pc0 := 14) (pc' := 38) rfl (hb hby d10_14) rfl ((if0 _ _).trans (flt (by decide : ¬ ((0 : Int32) < (-13 : Int32)))).2.2.2) (by decide) (by decide) k) ?_
  show Go p e below _ (T3.setTop (mkF m 38 #[.val (.ref o0), .val (.int (3 : Int32)), .val (.int (16 : Int32))] []))
  obtain ⟨fs, hr, hrun, hended, hW, hsame⟩ := X3.leave (v := none) (fun _ => rfl)
  refine Go.mk _ _ ?_ hrun hended ⟨_, _, rfl, ?_, ⟨_, rfl⟩, hW, hsame.mono (by decide) (by decide)⟩
  · exact X3.returnOut hx Bd.returns (hb hby d10_38) hr
  · show Q10_s2 Z o0 cb0 cb1 f_o0_value kv h0 n0 _ T3.heap _
    rw [e3]
    exact ⟨rfl, N0, rfl⟩
def Q14_2 (Z : State) (o0 : Addr) (o1 : Addr) (cb0 : Int32) (cb1 : Int32) (cc0 : Int32) (f_o1_value : Addr) (ks : ClassId) (w_COMPACT_STRINGS : Int32) (f_o0_value : Addr) (kv : ClassId) (h0 : Heap) (n0 : Nat) (v : Option Value) (h : Heap) (L : List Loc) : Prop := v = some (.ref o0) ∧ Fr n0 L ∧ Keep h0 h [f_o0_value, o0] ∧ Arv Z h f_o0_value kv .byte (16 : Int32) [(.int cb0), (.int cb1), (.int cc0), (.int (0 : Int32)), (.int (0 : Int32)), (.int (0 : Int32)), (.int (0 : Int32)), (.int (0 : Int32)), (.int (0 : Int32)), (.int (0 : Int32)), (.int (0 : Int32)), (.int (0 : Int32)), (.int (0 : Int32)), (.int (0 : Int32)), (.int (0 : Int32)), (.int (0 : Int32))] (.int (0 : Int32)) ∧ Exa Z h o0 "java/lang/StringBuilder" ∧ Fld Z h o0 "java/lang/AbstractStringBuilder" "coder" "B" (.int (0 : Int32)) ∧ Fld Z h o0 "java/lang/AbstractStringBuilder" "count" "I" (.int (3 : Int32)) ∧ Fld Z h o0 "java/lang/AbstractStringBuilder" "value" "[B" (.ref f_o0_value)
set_option maxRecDepth 65536 in
set_option maxHeartbeats 40000000 in
theorem rm14_2 (l : Launch) (Z : State) (a0 : Array Value) (hw : ∀ d ∈ tables_1, d.before a0 Z = true) (ws : List Jvm.Cond) (o0 : Addr) (o1 : Addr) (cb0 : Int32) (cb1 : Int32) (cc0 : Int32) (f_o1_value : Addr) (ks : ClassId) (w_COMPACT_STRINGS : Int32) (f_o0_value : Addr) (kv : ClassId) (h0 : Heap) (n0 : Nat) (Z0 : n0 ≤ h0.size) (F_o1_value : Fld Z h0 o1 "java/lang/String" "value" "[B" (.ref f_o1_value)) (V_f_o1_value : Arv Z h0 f_o1_value ks .byte (1 : Int32) [(.int cc0)] (.int (0 : Int32))) (S_COMPACT_STRINGS : Sta Z h0 "java/lang/String" "COMPACT_STRINGS" "Z" (.int w_COMPACT_STRINGS)) (hc3_3_1 : ¬ (w_COMPACT_STRINGS = (0 : Int32))) (F_o1_coder : Fld Z h0 o1 "java/lang/String" "coder" "B" (.int (0 : Int32))) (E_o1 : Exa Z h0 o1 "java/lang/String") (F_o0_count : Fld Z h0 o0 "java/lang/AbstractStringBuilder" "count" "I" (.int (2 : Int32))) (F_o0_value : Fld Z h0 o0 "java/lang/AbstractStringBuilder" "value" "[B" (.ref f_o0_value)) (V_f_o0_value : Arv Z h0 f_o0_value kv .byte (16 : Int32) [(.int cb0), (.int cb1), (.int (0 : Int32)), (.int (0 : Int32)), (.int (0 : Int32)), (.int (0 : Int32)), (.int (0 : Int32)), (.int (0 : Int32)), (.int (0 : Int32)), (.int (0 : Int32)), (.int (0 : Int32)), (.int (0 : Int32)), (.int (0 : Int32)), (.int (0 : Int32)), (.int (0 : Int32)), (.int (0 : Int32))] (.int (0 : Int32))) (F_o0_coder : Fld Z h0 o0 "java/lang/AbstractStringBuilder" "coder" "B" (.int (0 : Int32))) (E_o0 : Exa Z h0 o0 "java/lang/StringBuilder") (g_f_o0_value : n0 ≤ f_o0_value) (ne_f_o0_value_o0 : f_o0_value ≠ o0) (g_o0 : n0 ≤ o0) :
    MetFree l (⟨"java/lang/AbstractStringBuilder", "append", "(Ljava/lang/String;)Ljava/lang/AbstractStringBuilder;"⟩ : MethodName) (head1 (Jvm.Cond.code (⟨"java/lang/AbstractStringBuilder", "append", "(Ljava/lang/String;)Ljava/lang/AbstractStringBuilder;"⟩ : MethodName) jdk_68_method_22_code 3 (some (.object "java/lang/AbstractStringBuilder")) :: ws) ({ frames := 3, cells := 0, slots := 0, locals := 61 } : Room)) (fun a U => a = #[(.ref o0), (.ref o1)] ∧ Z.Warmed39 U.vm ∧ U.heap = h0) (fun _ _ _ _ _ => True) (fun _ U o U' => ∃ v L, o = .returned v ∧ Q14_2 Z o0 o1 cb0 cb1 cc0 f_o1_value ks w_COMPACT_STRINGS f_o0_value kv h0 n0 v U'.heap L ∧ FrameEnd U o U' L ({ frames := 3, cells := 0, slots := 0, locals := 61 } : Room).cells ({ frames := 3, cells := 0, slots := 0, locals := 61 } : Room).slots) := by
  refine MetFree.of_bodySF (plainFor_of_name pn_java_lang_AbstractStringBuilder) hisR ?_
  intro p e s m args below meth c s₁ Bd hml0 hP hK
  obtain ⟨rfl, hZ, hh⟩ := hP
  have hx := Bd.exec
  have hby := Bd.bytes
  have hml : c.maxLocals = 3 := hml0
  have hown : s.vm.findClass "java/lang/AbstractStringBuilder" = some m.cls := findClass_of_methodNamed Bd.named
  have hnm := (name_of_methodNamed Bd.named Bd.method).1
  have X0 : Stand p l e ({ frames := 3, cells := 0, slots := 0, locals := 61 } : Room) s m #[(.ref o0), (.ref o1)] below meth c s₁ [] 0 0 := Stand.of_body Bd
  have e0 : s₁.heap = h0 := by rw [← hh, Bd.state]; rfl
  have N0 := Fr.nil n0
  show Go p e below (fun o U' => ∃ v L, o = .returned v ∧ Q14_2 Z o0 o1 cb0 cb1 cc0 f_o1_value ks w_COMPACT_STRINGS f_o0_value kv h0 n0 v U'.heap L ∧ FrameEnd s o U' L ({ frames := 3, cells := 0, slots := 0, locals := 61 } : Room).cells ({ frames := 3, cells := 0, slots := 0, locals := 61 } : Room).slots) (s₁.setTop (entryFrame m #[(.ref o0), (.ref o1)] 3))
  refine Go.of (fun _ k => castTop (ef_14 m o0 o1) k) ?_
  show Go p e below _ (s₁.setTop (mkF m 0 #[.val (.ref o0), .val (.ref o1), .unset] []))
  refine Go.of (fun _ k => XS.aloadN X0.here hx rfl (hb hby d14_0) rfl rfl k) ?_
  show Go p e below _ (s₁.setTop (mkF m 1 #[.val (.ref o0), .val (.ref o1), .unset] [(.ref o1)]))
  refine Go.of (fun _ k => XS.ifnonnullYes X0.here hx rfl (pc0 := 1) (pc' := 9) rfl (hb hby d14_1) rfl (by decide) (by decide) k) ?_
  show Go p e below _ (s₁.setTop (mkF m 9 #[.val (.ref o0), .val (.ref o1), .unset] []))
  refine Go.of (fun _ k => XS.aloadN X0.here hx rfl (hb hby d14_9) rfl rfl k) ?_
  show Go p e below _ (s₁.setTop (mkF m 10 #[.val (.ref o0), .val (.ref o1), .unset] [(.ref o1)]))
  obtain ⟨cq1, kq1, q1a, q1b, q1c⟩ := isOf hZ e0 E_o1
  obtain ⟨_, _, ⟨T1, L1, k1, n1⟩, -, X1, ⟨Lc1, hQ1, l1, y1, z1⟩, st1⟩ := X0.virtualBack hx (y := (⟨"java/lang/String", "length", "()I"⟩ : MethodName)) (z := (⟨"java/lang/String", "length", "()I"⟩ : MethodName)) hown (mvT hZ (hw _ (List.mem_of_getElem? (i := 89) rfl))) (mvT hZ (hw _ (List.mem_of_getElem? (i := 90) rfl))) (notFace_of_selects (args := #[]) (mvT hZ (hw _ (List.mem_of_getElem? (i := 92) rfl)))) (mvT hZ (hw _ (List.mem_of_getElem? (i := 92) rfl))) (mvT hZ (hw _ (List.mem_of_getElem? (i := 91) rfl))) (by decide) (backOf (W := 0) (rm15_1 l Z a0 hw [] o1 cc0 f_o1_value ks w_COMPACT_STRINGS h0 n0 Z0 F_o1_value V_f_o1_value S_COMPACT_STRINGS hc3_3_1 F_o1_coder E_o1) hZ (hw _ (List.mem_of_getElem? (i := 93) rfl)) (hw _ (List.mem_of_getElem? (i := 38) rfl)) (by decide) (by decide)) q1a q1c (g := (mkF m 10 #[.val (.ref o0), .val (.ref o1), .unset] [(.ref o1)])) rfl (by rw [hml]; rfl) (Steps.refl _) (argsL := []) (rest := []) (lenOf pd_8 rfl) rfl (by show 2 * 0 + _ ≤ _; exact Nat.le_of_eq rfl) (hb hby d14_10) (fun _ _ => ⟨rfl, e0, (by decide : 0 + 0 ≤ _), (by decide : 0 + 0 ≤ _)⟩)
  dsimp only [Pt.U, Pt.locs, Pt.cells, Pt.slots] at X1 l1 y1 z1 st1 hQ1
  subst l1 y1 z1
  obtain ⟨rfl, Nq1, q1_0⟩ := hQ1
  have N1 := Fr.app N0 Nq1
  refine Go.tr st1 ?_
  show Go p e below _ (T1.setTop (mkF m 13 #[.val (.ref o0), .val (.ref o1), .unset] [(.int (1 : Int32))]))
  refine Go.of (fun _ k => XS.istoreN X1.here hx rfl (hb hby d14_13) rfl (l' := #[.val (.ref o0), .val (.ref o1), .val (.int (1 : Int32))]) rfl k) ?_
  show Go p e below _ (T1.setTop (mkF m 14 #[.val (.ref o0), .val (.ref o1), .val (.int (1 : Int32))] []))
  refine Go.of (fun _ k => XS.aloadN X1.here hx rfl (hb hby d14_14) rfl rfl k) ?_
  show Go p e below _ (T1.setTop (mkF m 15 #[.val (.ref o0), .val (.ref o1), .val (.int (1 : Int32))] [(.ref o0)]))
  refine Go.of (fun _ k => XS.aloadN X1.here hx rfl (hb hby d14_15) rfl rfl k) ?_
  show Go p e below _ (T1.setTop (mkF m 16 #[.val (.ref o0), .val (.ref o1), .val (.int (1 : Int32))] [(.ref o0), (.ref o0)]))
  obtain ⟨T2, X2, e2, st2⟩ := getF X1 hx hZ hown (host := "") (Or.inl (hw _ (List.mem_of_getElem? (i := 54) rfl))) Via.refl q1_0 F_o0_count (g := (mkF m 16 #[.val (.ref o0), .val (.ref o1), .val (.int (1 : Int32))] [(.ref o0), (.ref o0)])) rfl rfl (hb hby d14_16)
  refine Go.of st2 ?_
  show Go p e below _ (T2.setTop (mkF m 19 #[.val (.ref o0), .val (.ref o1), .val (.int (1 : Int32))] [(.int (2 : Int32)), (.ref o0)]))
  refine Go.of (fun _ k => XS.iloadN X2.here hx rfl (hb hby d14_19) rfl  k) ?_
  show Go p e below _ (T2.setTop (mkF m 20 #[.val (.ref o0), .val (.ref o1), .val (.int (1 : Int32))] [(.int (1 : Int32)), (.int (2 : Int32)), (.ref o0)]))
  refine Go.of (fun _ k => XS.iadd X2.here hx rfl (hb hby d14_20) rfl k) ?_
  show Go p e below _ (T2.setTop (mkF m 21 #[.val (.ref o0), .val (.ref o1), .val (.int (1 : Int32))] [(.int (3 : Int32)), (.ref o0)]))
  obtain ⟨cq3, q3, q3'⟩ := E_o0.cell
  obtain ⟨_, _, ⟨T3, L3, k3, n3⟩, -, X3, ⟨Lc3, hQ3, l3, y3, z3⟩, st3⟩ := X2.privateBack hx (y := (⟨"java/lang/AbstractStringBuilder", "ensureCapacityInternal", "(I)V"⟩ : MethodName)) hown (mvT hZ (hw _ (List.mem_of_getElem? (i := 60) rfl))) (mvT hZ (hw _ (List.mem_of_getElem? (i := 61) rfl))) (own_selpriv (mvT hZ (hw _ (List.mem_of_getElem? (i := 63) rfl))) (Cond.privateMethod_at (mvP hZ (hw _ (List.mem_of_getElem? (i := 62) rfl)) (args := #[]))) (mvT hZ (hw _ (List.mem_of_getElem? (i := 61) rfl))) (by decide)) (Cond.privateMethod_at (mvP hZ (hw _ (List.mem_of_getElem? (i := 62) rfl)) (args := #[]))) (mvT hZ (hw _ (List.mem_of_getElem? (i := 64) rfl))) (by decide) (backOf (W := 0) (rm10_s2 l Z a0 hw [] o0 cb0 cb1 f_o0_value kv h0 n0 Z0 F_o0_value V_f_o0_value F_o0_coder) hZ (hw _ (List.mem_of_getElem? (i := 64) rfl)) (hw _ (List.mem_of_getElem? (i := 34) rfl)) (by decide) (by decide)) (g := (mkF m 21 #[.val (.ref o0), .val (.ref o1), .val (.int (1 : Int32))] [(.int (3 : Int32)), (.ref o0)])) rfl (by rw [hml]; rfl) (Steps.refl _) (a := o0) (by rw [e2]; exact q3) q3' (argsL := [(.int (3 : Int32))]) (rest := []) (lenOf pd_0 rfl) rfl (by show 2 * 0 + _ ≤ _; exact Nat.le_of_eq rfl) (hb hby d14_21) (fun _ _ => ⟨rfl, e2, (by decide : 0 + 0 ≤ _), (by decide : 0 + 0 ≤ _)⟩)
  dsimp only [Pt.U, Pt.locs, Pt.cells, Pt.slots] at X3 l3 y3 z3 st3 hQ3
  subst l3 y3 z3
  obtain ⟨rfl, Nq3, q3_0⟩ := hQ3
  have N3 := Fr.app N1 Nq3
  refine Go.tr st3 ?_
  show Go p e below _ (T3.setTop (mkF m 24 #[.val (.ref o0), .val (.ref o1), .val (.int (1 : Int32))] []))
  refine Go.of (fun _ k => XS.aloadN X3.here hx rfl (hb hby d14_24) rfl rfl k) ?_
  show Go p e below _ (T3.setTop (mkF m 25 #[.val (.ref o0), .val (.ref o1), .val (.int (1 : Int32))] [(.ref o0)]))
  refine Go.of (fun _ k => XS.aloadN X3.here hx rfl (hb hby d14_25) rfl rfl k) ?_
  show Go p e below _ (T3.setTop (mkF m 26 #[.val (.ref o0), .val (.ref o1), .val (.int (1 : Int32))] [(.ref o0), (.ref o0)]))
  obtain ⟨T4, X4, e4, st4⟩ := getF X3 hx hZ hown (host := "") (Or.inl (hw _ (List.mem_of_getElem? (i := 54) rfl))) Via.refl q3_0 F_o0_count (g := (mkF m 26 #[.val (.ref o0), .val (.ref o1), .val (.int (1 : Int32))] [(.ref o0), (.ref o0)])) rfl rfl (hb hby d14_26)
  refine Go.of st4 ?_
  show Go p e below _ (T4.setTop (mkF m 29 #[.val (.ref o0), .val (.ref o1), .val (.int (1 : Int32))] [(.int (2 : Int32)), (.ref o0)]))
  refine Go.of (fun _ k => XS.aloadN X4.here hx rfl (hb hby d14_29) rfl rfl k) ?_
  show Go p e below _ (T4.setTop (mkF m 30 #[.val (.ref o0), .val (.ref o1), .val (.int (1 : Int32))] [(.ref o1), (.int (2 : Int32)), (.ref o0)]))
  obtain ⟨cq5, q5, q5'⟩ := E_o0.cell
  obtain ⟨_, _, ⟨T5, L5, k5, n5⟩, -, X5, ⟨Lc5, hQ5, l5, y5, z5⟩, st5⟩ := X4.privateBack hx (y := (⟨"java/lang/AbstractStringBuilder", "putStringAt", "(ILjava/lang/String;)V"⟩ : MethodName)) hown (mvT hZ (hw _ (List.mem_of_getElem? (i := 102) rfl))) (mvT hZ (hw _ (List.mem_of_getElem? (i := 103) rfl))) (own_selpriv (mvT hZ (hw _ (List.mem_of_getElem? (i := 105) rfl))) (Cond.privateMethod_at (mvP hZ (hw _ (List.mem_of_getElem? (i := 104) rfl)) (args := #[]))) (mvT hZ (hw _ (List.mem_of_getElem? (i := 103) rfl))) (by decide)) (Cond.privateMethod_at (mvP hZ (hw _ (List.mem_of_getElem? (i := 104) rfl)) (args := #[]))) (mvT hZ (hw _ (List.mem_of_getElem? (i := 106) rfl))) (by decide) (backOf (W := 0) (rm17_2 l Z a0 hw [] o0 o1 cb0 cb1 cc0 w_COMPACT_STRINGS f_o0_value f_o1_value ks kv h0 n0 Z0 S_COMPACT_STRINGS hc3_3_1 F_o0_coder F_o1_coder E_o1 E_o0 F_o0_value F_o1_value V_f_o1_value V_f_o0_value g_f_o0_value) hZ (hw _ (List.mem_of_getElem? (i := 106) rfl)) (hw _ (List.mem_of_getElem? (i := 34) rfl)) (by decide) (by decide)) (g := (mkF m 30 #[.val (.ref o0), .val (.ref o1), .val (.int (1 : Int32))] [(.ref o1), (.int (2 : Int32)), (.ref o0)])) rfl (by rw [hml]; rfl) (Steps.refl _) (a := o0) (by rw [e4]; exact q5) q5' (argsL := [(.int (2 : Int32)), (.ref o1)]) (rest := []) (lenOf pd_9 rfl) rfl (by show 2 * 0 + _ ≤ _; exact Nat.le_of_eq rfl) (hb hby d14_30) (fun _ _ => ⟨rfl, e4, (by decide : 0 + 0 ≤ _), (by decide : 0 + 0 ≤ _)⟩)
  dsimp only [Pt.U, Pt.locs, Pt.cells, Pt.slots] at X5 l5 y5 z5 st5 hQ5
  subst l5 y5 z5
  obtain ⟨rfl, Nq5, q5_0, q5_1⟩ := hQ5
  have N5 := Fr.app N3 Nq5
  refine Go.tr st5 ?_
  have K5 : Keep h0 T5.heap [f_o0_value, o0] := ((Keep.refl h0 [f_o0_value, o0])).trans q5_0 (allS (Or.inl (List.mem_of_getElem? (i := 0) rfl)) all0)
  have Z5 : n0 ≤ T5.heap.size := Nat.le_trans Z0 q5_0.1
  show Go p e below _ (T5.setTop (mkF m 33 #[.val (.ref o0), .val (.ref o1), .val (.int (1 : Int32))] []))
  refine Go.of (fun _ k => XS.aloadN X5.here hx rfl (hb hby d14_33) rfl rfl k) ?_
  show Go p e below _ (T5.setTop (mkF m 34 #[.val (.ref o0), .val (.ref o1), .val (.int (1 : Int32))] [(.ref o0)]))
  refine Go.of (fun _ k => XS.dup X5.here hx rfl (hb hby d14_34) rfl rfl k) ?_
  show Go p e below _ (T5.setTop (mkF m 35 #[.val (.ref o0), .val (.ref o1), .val (.int (1 : Int32))] [(.ref o0), (.ref o0)]))
  have c6 : Fld Z T5.heap o0 "java/lang/AbstractStringBuilder" "count" "I" (.int (2 : Int32)) := (F_o0_count.keep q5_0 (ninS (Ne.symm ne_f_o0_value_o0) nin0))
  obtain ⟨T7, X7, e7, st7⟩ := getF X5 hx hZ hown (host := "") (Or.inl (hw _ (List.mem_of_getElem? (i := 54) rfl))) Via.refl rfl c6 (g := (mkF m 35 #[.val (.ref o0), .val (.ref o1), .val (.int (1 : Int32))] [(.ref o0), (.ref o0)])) rfl rfl (hb hby d14_35)
  refine Go.of st7 ?_
  show Go p e below _ (T7.setTop (mkF m 38 #[.val (.ref o0), .val (.ref o1), .val (.int (1 : Int32))] [(.int (2 : Int32)), (.ref o0)]))
  refine Go.of (fun _ k => XS.iloadN X7.here hx rfl (hb hby d14_38) rfl  k) ?_
  show Go p e below _ (T7.setTop (mkF m 39 #[.val (.ref o0), .val (.ref o1), .val (.int (1 : Int32))] [(.int (1 : Int32)), (.int (2 : Int32)), (.ref o0)]))
  refine Go.of (fun _ k => XS.iadd X7.here hx rfl (hb hby d14_39) rfl k) ?_
  show Go p e below _ (T7.setTop (mkF m 40 #[.val (.ref o0), .val (.ref o1), .val (.int (1 : Int32))] [(.int (3 : Int32)), (.ref o0)]))
  have c8 : Exa Z T5.heap o0 "java/lang/StringBuilder" := (E_o0.keep q5_0)
  obtain ⟨T9, h9, X9, e9, W9, st9⟩ := putF X7 hx hZ hown (host := "") (Or.inl (hw _ (List.mem_of_getElem? (i := 54) rfl))) Via.refl e7 c6 c8 (Or.inl (hw _ (List.mem_of_getElem? (i := 55) rfl))) (hw _ (List.mem_of_getElem? (i := 25) rfl)) (ty := .int) (by decide) rfl rfl (g := (mkF m 40 #[.val (.ref o0), .val (.ref o1), .val (.int (1 : Int32))] [(.int (3 : Int32)), (.ref o0)])) rfl rfl (hb hby d14_40)
  refine Go.of st9 ?_
  have N9 := Fr.snoc X9 N5 g_o0
  have K9 : Keep h0 h9 [f_o0_value, o0] := (K5).wr W9 (Or.inl (List.mem_of_getElem? (i := 1) rfl))
  have Z9 : n0 ≤ h9.size := Nat.le_trans Z5 (Keep.of_wr W9).1
  have f10 : Fld Z h9 o0 "java/lang/AbstractStringBuilder" "count" "I" (.int (3 : Int32)) := Fld.same W9 c6
  show Go p e below _ (T9.setTop (mkF m 43 #[.val (.ref o0), .val (.ref o1), .val (.int (1 : Int32))] []))
  refine Go.of (fun _ k => XS.aloadN X9.here hx rfl (hb hby d14_43) rfl rfl k) ?_
  show Go p e below _ (T9.setTop (mkF m 44 #[.val (.ref o0), .val (.ref o1), .val (.int (1 : Int32))] [(.ref o0)]))
  have c12 : Arv Z h9 f_o0_value kv .byte (16 : Int32) [(.int cb0), (.int cb1), (.int cc0), (.int (0 : Int32)), (.int (0 : Int32)), (.int (0 : Int32)), (.int (0 : Int32)), (.int (0 : Int32)), (.int (0 : Int32)), (.int (0 : Int32)), (.int (0 : Int32)), (.int (0 : Int32)), (.int (0 : Int32)), (.int (0 : Int32)), (.int (0 : Int32)), (.int (0 : Int32))] (.int (0 : Int32)) := (q5_1.other W9 ne_f_o0_value_o0)
  have c13 : Exa Z h9 o0 "java/lang/StringBuilder" := (Exa.wr W9 c8)
  have c14 : Fld Z T5.heap o0 "java/lang/AbstractStringBuilder" "coder" "B" (.int (0 : Int32)) := (F_o0_coder.keep q5_0 (ninS (Ne.symm ne_f_o0_value_o0) nin0))
  have c15 : Fld Z h9 o0 "java/lang/AbstractStringBuilder" "coder" "B" (.int (0 : Int32)) := (Fld.other W9 c14 (Or.inr (slot_ne (Or.inl (hw _ (List.mem_of_getElem? (i := 43) rfl))) (Or.inl (hw _ (List.mem_of_getElem? (i := 55) rfl))) (by decide) (t := .byte) (t' := .int) (by decide) (by decide))))
  have c16 : Fld Z T5.heap o0 "java/lang/AbstractStringBuilder" "value" "[B" (.ref f_o0_value) := (F_o0_value.keep q5_0 (ninS (Ne.symm ne_f_o0_value_o0) nin0))
  have c17 : Fld Z h9 o0 "java/lang/AbstractStringBuilder" "value" "[B" (.ref f_o0_value) := (Fld.other W9 c16 (Or.inr (slot_ne (Or.inl (hw _ (List.mem_of_getElem? (i := 41) rfl))) (Or.inl (hw _ (List.mem_of_getElem? (i := 55) rfl))) (by decide) (t := (.array .byte)) (t' := .int) (by decide) (by decide))))
  obtain ⟨fs, hr, hrun, hended, hW, hsame⟩ := X9.leave (v := some (.ref o0)) (fun h => by rw [Bd.returns] at h; cases h)
  refine Go.mk _ _ ?_ hrun hended ⟨_, _, rfl, ?_, ⟨_, rfl⟩, hW, hsame.mono (by decide) (by decide)⟩
  · exact retOut X9 hx Bd.returns rfl (Or.inr (Or.inr (Or.inr (Or.inr ⟨rfl, rfl, rfl⟩)))) (hb hby d14_44) hr
  · show Q14_2 Z o0 o1 cb0 cb1 cc0 f_o1_value ks w_COMPACT_STRINGS f_o0_value kv h0 n0 _ T9.heap _
    rw [e9]
    exact ⟨rfl, N9, K9, c12, c13, c15, f10, c17⟩
def Q13_2 (Z : State) (o0 : Addr) (o1 : Addr) (cb0 : Int32) (cb1 : Int32) (cc0 : Int32) (f_o1_value : Addr) (ks : ClassId) (w_COMPACT_STRINGS : Int32) (f_o0_value : Addr) (kv : ClassId) (h0 : Heap) (n0 : Nat) (v : Option Value) (h : Heap) (L : List Loc) : Prop := v = some (.ref o0) ∧ Fr n0 L ∧ Keep h0 h [f_o0_value, o0] ∧ Arv Z h f_o0_value kv .byte (16 : Int32) [(.int cb0), (.int cb1), (.int cc0), (.int (0 : Int32)), (.int (0 : Int32)), (.int (0 : Int32)), (.int (0 : Int32)), (.int (0 : Int32)), (.int (0 : Int32)), (.int (0 : Int32)), (.int (0 : Int32)), (.int (0 : Int32)), (.int (0 : Int32)), (.int (0 : Int32)), (.int (0 : Int32)), (.int (0 : Int32))] (.int (0 : Int32)) ∧ Exa Z h o0 "java/lang/StringBuilder" ∧ Fld Z h o0 "java/lang/AbstractStringBuilder" "coder" "B" (.int (0 : Int32)) ∧ Fld Z h o0 "java/lang/AbstractStringBuilder" "count" "I" (.int (3 : Int32)) ∧ Fld Z h o0 "java/lang/AbstractStringBuilder" "value" "[B" (.ref f_o0_value)
set_option maxRecDepth 65536 in
set_option maxHeartbeats 40000000 in
theorem rm13_2 (l : Launch) (Z : State) (a0 : Array Value) (hw : ∀ d ∈ tables_1, d.before a0 Z = true) (ws : List Jvm.Cond) (o0 : Addr) (o1 : Addr) (cb0 : Int32) (cb1 : Int32) (cc0 : Int32) (f_o1_value : Addr) (ks : ClassId) (w_COMPACT_STRINGS : Int32) (f_o0_value : Addr) (kv : ClassId) (h0 : Heap) (n0 : Nat) (Z0 : n0 ≤ h0.size) (F_o1_value : Fld Z h0 o1 "java/lang/String" "value" "[B" (.ref f_o1_value)) (V_f_o1_value : Arv Z h0 f_o1_value ks .byte (1 : Int32) [(.int cc0)] (.int (0 : Int32))) (S_COMPACT_STRINGS : Sta Z h0 "java/lang/String" "COMPACT_STRINGS" "Z" (.int w_COMPACT_STRINGS)) (hc3_3_1_1 : ¬ (w_COMPACT_STRINGS = (0 : Int32))) (F_o1_coder : Fld Z h0 o1 "java/lang/String" "coder" "B" (.int (0 : Int32))) (E_o1 : Exa Z h0 o1 "java/lang/String") (F_o0_count : Fld Z h0 o0 "java/lang/AbstractStringBuilder" "count" "I" (.int (2 : Int32))) (F_o0_value : Fld Z h0 o0 "java/lang/AbstractStringBuilder" "value" "[B" (.ref f_o0_value)) (V_f_o0_value : Arv Z h0 f_o0_value kv .byte (16 : Int32) [(.int cb0), (.int cb1), (.int (0 : Int32)), (.int (0 : Int32)), (.int (0 : Int32)), (.int (0 : Int32)), (.int (0 : Int32)), (.int (0 : Int32)), (.int (0 : Int32)), (.int (0 : Int32)), (.int (0 : Int32)), (.int (0 : Int32)), (.int (0 : Int32)), (.int (0 : Int32)), (.int (0 : Int32)), (.int (0 : Int32))] (.int (0 : Int32))) (F_o0_coder : Fld Z h0 o0 "java/lang/AbstractStringBuilder" "coder" "B" (.int (0 : Int32))) (E_o0 : Exa Z h0 o0 "java/lang/StringBuilder") (g_f_o0_value : n0 ≤ f_o0_value) (ne_f_o0_value_o0 : f_o0_value ≠ o0) (g_o0 : n0 ≤ o0) :
    MetFree l (⟨"java/lang/StringBuilder", "append", "(Ljava/lang/String;)Ljava/lang/StringBuilder;"⟩ : MethodName) (head1 (Jvm.Cond.code (⟨"java/lang/StringBuilder", "append", "(Ljava/lang/String;)Ljava/lang/StringBuilder;"⟩ : MethodName) jdk_67_method_7_code 2 (some (.object "java/lang/StringBuilder")) :: ws) ({ frames := 4, cells := 0, slots := 0, locals := 75 } : Room)) (fun a U => a = #[(.ref o0), (.ref o1)] ∧ Z.Warmed39 U.vm ∧ U.heap = h0) (fun _ _ _ _ _ => True) (fun _ U o U' => ∃ v L, o = .returned v ∧ Q13_2 Z o0 o1 cb0 cb1 cc0 f_o1_value ks w_COMPACT_STRINGS f_o0_value kv h0 n0 v U'.heap L ∧ FrameEnd U o U' L ({ frames := 4, cells := 0, slots := 0, locals := 75 } : Room).cells ({ frames := 4, cells := 0, slots := 0, locals := 75 } : Room).slots) := by
  refine MetFree.of_bodySF (plainFor_of_name pn_java_lang_StringBuilder) hisR ?_
  intro p e s m args below meth c s₁ Bd hml0 hP hK
  obtain ⟨rfl, hZ, hh⟩ := hP
  have hx := Bd.exec
  have hby := Bd.bytes
  have hml : c.maxLocals = 2 := hml0
  have hown : s.vm.findClass "java/lang/StringBuilder" = some m.cls := findClass_of_methodNamed Bd.named
  have hnm := (name_of_methodNamed Bd.named Bd.method).1
  have X0 : Stand p l e ({ frames := 4, cells := 0, slots := 0, locals := 75 } : Room) s m #[(.ref o0), (.ref o1)] below meth c s₁ [] 0 0 := Stand.of_body Bd
  have e0 : s₁.heap = h0 := by rw [← hh, Bd.state]; rfl
  have N0 := Fr.nil n0
  show Go p e below (fun o U' => ∃ v L, o = .returned v ∧ Q13_2 Z o0 o1 cb0 cb1 cc0 f_o1_value ks w_COMPACT_STRINGS f_o0_value kv h0 n0 v U'.heap L ∧ FrameEnd s o U' L ({ frames := 4, cells := 0, slots := 0, locals := 75 } : Room).cells ({ frames := 4, cells := 0, slots := 0, locals := 75 } : Room).slots) (s₁.setTop (entryFrame m #[(.ref o0), (.ref o1)] 2))
  refine Go.of (fun _ k => castTop (ef_13 m o0 o1) k) ?_
  show Go p e below _ (s₁.setTop (mkF m 0 #[.val (.ref o0), .val (.ref o1)] []))
  refine Go.of (fun _ k => XS.aloadN X0.here hx rfl (hb hby d13_0) rfl rfl k) ?_
  show Go p e below _ (s₁.setTop (mkF m 1 #[.val (.ref o0), .val (.ref o1)] [(.ref o0)]))
  refine Go.of (fun _ k => XS.aloadN X0.here hx rfl (hb hby d13_1) rfl rfl k) ?_
  show Go p e below _ (s₁.setTop (mkF m 2 #[.val (.ref o0), .val (.ref o1)] [(.ref o1), (.ref o0)]))
  obtain ⟨_, _, ⟨T1, L1, k1, n1⟩, -, X1, ⟨Lc1, hQ1, l1, y1, z1⟩, st1⟩ := superBack X0 hx hZ (y := (⟨"java/lang/AbstractStringBuilder", "append", "(Ljava/lang/String;)Ljava/lang/AbstractStringBuilder;"⟩ : MethodName)) hown (hw _ (List.mem_of_getElem? (i := 85) rfl)) (own_same (y := (⟨"java/lang/AbstractStringBuilder", "append", "(Ljava/lang/String;)Ljava/lang/AbstractStringBuilder;"⟩ : MethodName)) (hw _ (List.mem_of_getElem? (i := 63) rfl)) rfl (hw _ (List.mem_of_getElem? (i := 86) rfl)) (by decide)) (hw _ (List.mem_of_getElem? (i := 86) rfl)) (hw _ (List.mem_of_getElem? (i := 51) rfl)) (by decide) (backOf (W := 0) (rm14_2 l Z a0 hw [] o0 o1 cb0 cb1 cc0 f_o1_value ks w_COMPACT_STRINGS f_o0_value kv h0 n0 Z0 F_o1_value V_f_o1_value S_COMPACT_STRINGS hc3_3_1_1 F_o1_coder E_o1 F_o0_count F_o0_value V_f_o0_value F_o0_coder E_o0 g_f_o0_value ne_f_o0_value_o0 g_o0) hZ (hw _ (List.mem_of_getElem? (i := 88) rfl)) (hw _ (List.mem_of_getElem? (i := 34) rfl)) (by decide) (by decide)) e0 (Ins.self E_o0) (g := (mkF m 2 #[.val (.ref o0), .val (.ref o1)] [(.ref o1), (.ref o0)])) rfl (by rw [hml]; rfl) (hw _ (List.mem_of_getElem? (i := 88) rfl)) (argsL := [(.ref o1)]) (rest := []) (lenOf pd_10 rfl) rfl (by show 2 * 0 + _ ≤ _; exact Nat.le_of_eq rfl) (hb hby d13_2) (fun _ _ => ⟨rfl, e0, (by decide : 0 + 0 ≤ _), (by decide : 0 + 0 ≤ _)⟩)
  dsimp only [Pt.U, Pt.locs, Pt.cells, Pt.slots] at X1 l1 y1 z1 st1 hQ1
  subst l1 y1 z1
  obtain ⟨rfl, Nq1, q1_0, q1_1, q1_2, q1_3, q1_4, q1_5⟩ := hQ1
  have N1 := Fr.app N0 Nq1
  refine Go.tr st1 ?_
  have K1 : Keep h0 T1.heap [f_o0_value, o0] := ((Keep.refl h0 [f_o0_value, o0])).trans q1_0 (allS (Or.inl (List.mem_of_getElem? (i := 0) rfl)) (allS (Or.inl (List.mem_of_getElem? (i := 1) rfl)) all0))
  have Z1 : n0 ≤ T1.heap.size := Nat.le_trans Z0 q1_0.1
  show Go p e below _ (T1.setTop (mkF m 5 #[.val (.ref o0), .val (.ref o1)] [(.ref o0)]))
  refine Go.of (fun _ k => XS.pop X1.here hx rfl (hb hby d13_5) rfl rfl k) ?_
  show Go p e below _ (T1.setTop (mkF m 6 #[.val (.ref o0), .val (.ref o1)] []))
  refine Go.of (fun _ k => XS.aloadN X1.here hx rfl (hb hby d13_6) rfl rfl k) ?_
  show Go p e below _ (T1.setTop (mkF m 7 #[.val (.ref o0), .val (.ref o1)] [(.ref o0)]))
  obtain ⟨fs, hr, hrun, hended, hW, hsame⟩ := X1.leave (v := some (.ref o0)) (fun h => by rw [Bd.returns] at h; cases h)
  refine Go.mk _ _ ?_ hrun hended ⟨_, _, rfl, ?_, ⟨_, rfl⟩, hW, hsame.mono (by decide) (by decide)⟩
  · exact retOut X1 hx Bd.returns rfl (Or.inr (Or.inr (Or.inr (Or.inr ⟨rfl, rfl, rfl⟩)))) (hb hby d13_7) hr
  · show Q13_2 Z o0 o1 cb0 cb1 cc0 f_o1_value ks w_COMPACT_STRINGS f_o0_value kv h0 n0 _ T1.heap _
    exact ⟨rfl, N1, K1, q1_1, q1_2, q1_3, q1_4, q1_5⟩
theorem d23_0 : decode jdk_68_method_64_code 0 = .ok (.aload_n 0, 1) := by decide +kernel
theorem d23_1 : decode jdk_68_method_64_code 1 = .ok (.getfield 15, 3) := by decide +kernel
theorem d23_4 : decode jdk_68_method_64_code 4 = .ok (.areturn, 1) := by decide +kernel
theorem ef_23 (m : MethodId) (x0 : Addr) : entryFrame m #[(.ref x0)] 1 = mkF m 0 #[.val (.ref x0)] [] := by first | (simp [entryFrame, mkF, argsToLocals, Value.category]; done) | rfl
def Q23 (Z : State) (o0 : Addr) (f_o0_value : Addr) (h0 : Heap) (n0 : Nat) (v : Option Value) (h : Heap) (L : List Loc) : Prop := v = some (.ref f_o0_value) ∧ Fr n0 L ∧ h = h0
set_option maxRecDepth 65536 in
set_option maxHeartbeats 40000000 in
theorem rm23 (l : Launch) (Z : State) (a0 : Array Value) (hw : ∀ d ∈ tables_1, d.before a0 Z = true) (ws : List Jvm.Cond) (o0 : Addr) (f_o0_value : Addr) (h0 : Heap) (n0 : Nat) (Z0 : n0 ≤ h0.size) (F_o0_value : Fld Z h0 o0 "java/lang/AbstractStringBuilder" "value" "[B" (.ref f_o0_value)) :
    MetFree l (⟨"java/lang/AbstractStringBuilder", "getValue", "()[B"⟩ : MethodName) (head1 (Jvm.Cond.code (⟨"java/lang/AbstractStringBuilder", "getValue", "()[B"⟩ : MethodName) jdk_68_method_64_code 1 (some (.array .byte)) :: ws) ({ frames := 0, cells := 0, slots := 0, locals := 0 } : Room)) (fun a U => a = #[(.ref o0)] ∧ Z.Warmed39 U.vm ∧ U.heap = h0) (fun _ _ _ _ _ => True) (fun _ U o U' => ∃ v L, o = .returned v ∧ Q23 Z o0 f_o0_value h0 n0 v U'.heap L ∧ FrameEnd U o U' L ({ frames := 0, cells := 0, slots := 0, locals := 0 } : Room).cells ({ frames := 0, cells := 0, slots := 0, locals := 0 } : Room).slots) := by
  refine MetFree.of_bodySF (plainFor_of_name pn_java_lang_AbstractStringBuilder) hisR ?_
  intro p e s m args below meth c s₁ Bd hml0 hP hK
  obtain ⟨rfl, hZ, hh⟩ := hP
  have hx := Bd.exec
  have hby := Bd.bytes
  have hml : c.maxLocals = 1 := hml0
  have hown : s.vm.findClass "java/lang/AbstractStringBuilder" = some m.cls := findClass_of_methodNamed Bd.named
  have hnm := (name_of_methodNamed Bd.named Bd.method).1
  have X0 : Stand p l e ({ frames := 0, cells := 0, slots := 0, locals := 0 } : Room) s m #[(.ref o0)] below meth c s₁ [] 0 0 := Stand.of_body Bd
  have e0 : s₁.heap = h0 := by rw [← hh, Bd.state]; rfl
  have N0 := Fr.nil n0
  show Go p e below (fun o U' => ∃ v L, o = .returned v ∧ Q23 Z o0 f_o0_value h0 n0 v U'.heap L ∧ FrameEnd s o U' L ({ frames := 0, cells := 0, slots := 0, locals := 0 } : Room).cells ({ frames := 0, cells := 0, slots := 0, locals := 0 } : Room).slots) (s₁.setTop (entryFrame m #[(.ref o0)] 1))
  refine Go.of (fun _ k => castTop (ef_23 m o0) k) ?_
  show Go p e below _ (s₁.setTop (mkF m 0 #[.val (.ref o0)] []))
  refine Go.of (fun _ k => XS.aloadN X0.here hx rfl (hb hby d23_0) rfl rfl k) ?_
  show Go p e below _ (s₁.setTop (mkF m 1 #[.val (.ref o0)] [(.ref o0)]))
  obtain ⟨T1, X1, e1, st1⟩ := getF X0 hx hZ hown (host := "") (Or.inl (hw _ (List.mem_of_getElem? (i := 40) rfl))) Via.refl e0 F_o0_value (g := (mkF m 1 #[.val (.ref o0)] [(.ref o0)])) rfl rfl (hb hby d23_1)
  refine Go.of st1 ?_
  show Go p e below _ (T1.setTop (mkF m 4 #[.val (.ref o0)] [(.ref f_o0_value)]))
  obtain ⟨fs, hr, hrun, hended, hW, hsame⟩ := X1.leave (v := some (.ref f_o0_value)) (fun h => by rw [Bd.returns] at h; cases h)
  refine Go.mk _ _ ?_ hrun hended ⟨_, _, rfl, ?_, ⟨_, rfl⟩, hW, hsame.mono (by decide) (by decide)⟩
  · exact retOut X1 hx Bd.returns rfl (Or.inr (Or.inr (Or.inr (Or.inr ⟨rfl, rfl, rfl⟩)))) (hb hby d23_4) hr
  · show Q23 Z o0 f_o0_value h0 n0 _ T1.heap _
    rw [e1]
    exact ⟨rfl, N0, rfl⟩
theorem d25_0 : decode jdk_68_method_6_code 0 = .ok (.aload_n 0, 1) := by decide +kernel
theorem d25_1 : decode jdk_68_method_6_code 1 = .ok (.getfield 79, 3) := by decide +kernel
theorem d25_4 : decode jdk_68_method_6_code 4 = .ok (.ireturn, 1) := by decide +kernel
theorem ef_25 (m : MethodId) (x0 : Addr) : entryFrame m #[(.ref x0)] 1 = mkF m 0 #[.val (.ref x0)] [] := by first | (simp [entryFrame, mkF, argsToLocals, Value.category]; done) | rfl
def Q25 (Z : State) (o0 : Addr) (f_o0_count : Int32) (h0 : Heap) (n0 : Nat) (v : Option Value) (h : Heap) (L : List Loc) : Prop := v = some (.int f_o0_count) ∧ Fr n0 L ∧ h = h0
set_option maxRecDepth 65536 in
set_option maxHeartbeats 40000000 in
theorem rm25 (l : Launch) (Z : State) (a0 : Array Value) (hw : ∀ d ∈ tables_1, d.before a0 Z = true) (ws : List Jvm.Cond) (o0 : Addr) (f_o0_count : Int32) (h0 : Heap) (n0 : Nat) (Z0 : n0 ≤ h0.size) (F_o0_count : Fld Z h0 o0 "java/lang/AbstractStringBuilder" "count" "I" (.int f_o0_count)) :
    MetFree l (⟨"java/lang/AbstractStringBuilder", "length", "()I"⟩ : MethodName) (head1 (Jvm.Cond.code (⟨"java/lang/AbstractStringBuilder", "length", "()I"⟩ : MethodName) jdk_68_method_6_code 1 (some .int) :: ws) ({ frames := 0, cells := 0, slots := 0, locals := 0 } : Room)) (fun a U => a = #[(.ref o0)] ∧ Z.Warmed39 U.vm ∧ U.heap = h0) (fun _ _ _ _ _ => True) (fun _ U o U' => ∃ v L, o = .returned v ∧ Q25 Z o0 f_o0_count h0 n0 v U'.heap L ∧ FrameEnd U o U' L ({ frames := 0, cells := 0, slots := 0, locals := 0 } : Room).cells ({ frames := 0, cells := 0, slots := 0, locals := 0 } : Room).slots) := by
  refine MetFree.of_bodySF (plainFor_of_name pn_java_lang_AbstractStringBuilder) hisR ?_
  intro p e s m args below meth c s₁ Bd hml0 hP hK
  obtain ⟨rfl, hZ, hh⟩ := hP
  have hx := Bd.exec
  have hby := Bd.bytes
  have hml : c.maxLocals = 1 := hml0
  have hown : s.vm.findClass "java/lang/AbstractStringBuilder" = some m.cls := findClass_of_methodNamed Bd.named
  have hnm := (name_of_methodNamed Bd.named Bd.method).1
  have X0 : Stand p l e ({ frames := 0, cells := 0, slots := 0, locals := 0 } : Room) s m #[(.ref o0)] below meth c s₁ [] 0 0 := Stand.of_body Bd
  have e0 : s₁.heap = h0 := by rw [← hh, Bd.state]; rfl
  have N0 := Fr.nil n0
  show Go p e below (fun o U' => ∃ v L, o = .returned v ∧ Q25 Z o0 f_o0_count h0 n0 v U'.heap L ∧ FrameEnd s o U' L ({ frames := 0, cells := 0, slots := 0, locals := 0 } : Room).cells ({ frames := 0, cells := 0, slots := 0, locals := 0 } : Room).slots) (s₁.setTop (entryFrame m #[(.ref o0)] 1))
  refine Go.of (fun _ k => castTop (ef_25 m o0) k) ?_
  show Go p e below _ (s₁.setTop (mkF m 0 #[.val (.ref o0)] []))
  refine Go.of (fun _ k => XS.aloadN X0.here hx rfl (hb hby d25_0) rfl rfl k) ?_
  show Go p e below _ (s₁.setTop (mkF m 1 #[.val (.ref o0)] [(.ref o0)]))
  obtain ⟨T1, X1, e1, st1⟩ := getF X0 hx hZ hown (host := "") (Or.inl (hw _ (List.mem_of_getElem? (i := 54) rfl))) Via.refl e0 F_o0_count (g := (mkF m 1 #[.val (.ref o0)] [(.ref o0)])) rfl rfl (hb hby d25_1)
  refine Go.of st1 ?_
  show Go p e below _ (T1.setTop (mkF m 4 #[.val (.ref o0)] [(.int f_o0_count)]))
  obtain ⟨fs, hr, hrun, hended, hW, hsame⟩ := X1.leave (v := some (.int f_o0_count)) (fun h => by rw [Bd.returns] at h; cases h)
  refine Go.mk _ _ ?_ hrun hended ⟨_, _, rfl, ?_, ⟨_, rfl⟩, hW, hsame.mono (by decide) (by decide)⟩
  · exact retI X1 hx Bd.returns (hb hby d25_4) hr
  · show Q25 Z o0 f_o0_count h0 n0 _ T1.heap _
    rw [e1]
    exact ⟨rfl, N0, rfl⟩
theorem d24_0 : decode jdk_67_method_93_code 0 = .ok (.aload_n 0, 1) := by decide +kernel
theorem d24_1 : decode jdk_67_method_93_code 1 = .ok (.invokespecial 343, 3) := by decide +kernel
theorem d24_4 : decode jdk_67_method_93_code 4 = .ok (.ireturn, 1) := by decide +kernel
theorem ef_24 (m : MethodId) (x0 : Addr) : entryFrame m #[(.ref x0)] 1 = mkF m 0 #[.val (.ref x0)] [] := by first | (simp [entryFrame, mkF, argsToLocals, Value.category]; done) | rfl
def Q24 (Z : State) (o0 : Addr) (f_o0_count : Int32) (h0 : Heap) (n0 : Nat) (v : Option Value) (h : Heap) (L : List Loc) : Prop := v = some (.int f_o0_count) ∧ Fr n0 L ∧ h = h0
set_option maxRecDepth 65536 in
set_option maxHeartbeats 40000000 in
theorem rm24 (l : Launch) (Z : State) (a0 : Array Value) (hw : ∀ d ∈ tables_1, d.before a0 Z = true) (ws : List Jvm.Cond) (o0 : Addr) (f_o0_count : Int32) (h0 : Heap) (n0 : Nat) (Z0 : n0 ≤ h0.size) (F_o0_count : Fld Z h0 o0 "java/lang/AbstractStringBuilder" "count" "I" (.int f_o0_count)) (E_o0 : Exa Z h0 o0 "java/lang/StringBuilder") :
    MetFree l (⟨"java/lang/StringBuilder", "length", "()I"⟩ : MethodName) (head1 (Jvm.Cond.code (⟨"java/lang/StringBuilder", "length", "()I"⟩ : MethodName) jdk_67_method_93_code 1 (some .int) :: ws) ({ frames := 1, cells := 0, slots := 0, locals := 12 } : Room)) (fun a U => a = #[(.ref o0)] ∧ Z.Warmed39 U.vm ∧ U.heap = h0) (fun _ _ _ _ _ => True) (fun _ U o U' => ∃ v L, o = .returned v ∧ Q24 Z o0 f_o0_count h0 n0 v U'.heap L ∧ FrameEnd U o U' L ({ frames := 1, cells := 0, slots := 0, locals := 12 } : Room).cells ({ frames := 1, cells := 0, slots := 0, locals := 12 } : Room).slots) := by
  refine MetFree.of_bodySF (plainFor_of_name pn_java_lang_StringBuilder) hisR ?_
  intro p e s m args below meth c s₁ Bd hml0 hP hK
  obtain ⟨rfl, hZ, hh⟩ := hP
  have hx := Bd.exec
  have hby := Bd.bytes
  have hml : c.maxLocals = 1 := hml0
  have hown : s.vm.findClass "java/lang/StringBuilder" = some m.cls := findClass_of_methodNamed Bd.named
  have hnm := (name_of_methodNamed Bd.named Bd.method).1
  have X0 : Stand p l e ({ frames := 1, cells := 0, slots := 0, locals := 12 } : Room) s m #[(.ref o0)] below meth c s₁ [] 0 0 := Stand.of_body Bd
  have e0 : s₁.heap = h0 := by rw [← hh, Bd.state]; rfl
  have N0 := Fr.nil n0
  show Go p e below (fun o U' => ∃ v L, o = .returned v ∧ Q24 Z o0 f_o0_count h0 n0 v U'.heap L ∧ FrameEnd s o U' L ({ frames := 1, cells := 0, slots := 0, locals := 12 } : Room).cells ({ frames := 1, cells := 0, slots := 0, locals := 12 } : Room).slots) (s₁.setTop (entryFrame m #[(.ref o0)] 1))
  refine Go.of (fun _ k => castTop (ef_24 m o0) k) ?_
  show Go p e below _ (s₁.setTop (mkF m 0 #[.val (.ref o0)] []))
  refine Go.of (fun _ k => XS.aloadN X0.here hx rfl (hb hby d24_0) rfl rfl k) ?_
  show Go p e below _ (s₁.setTop (mkF m 1 #[.val (.ref o0)] [(.ref o0)]))
  obtain ⟨_, _, ⟨T1, L1, k1, n1⟩, -, X1, ⟨Lc1, hQ1, l1, y1, z1⟩, st1⟩ := superBack X0 hx hZ (y := (⟨"java/lang/AbstractStringBuilder", "length", "()I"⟩ : MethodName)) hown (hw _ (List.mem_of_getElem? (i := 147) rfl)) (own_same (y := (⟨"java/lang/AbstractStringBuilder", "length", "()I"⟩ : MethodName)) (hw _ (List.mem_of_getElem? (i := 63) rfl)) rfl (hw _ (List.mem_of_getElem? (i := 143) rfl)) (by decide)) (hw _ (List.mem_of_getElem? (i := 143) rfl)) (hw _ (List.mem_of_getElem? (i := 51) rfl)) (by decide) (backOf (W := 0) (rm25 l Z a0 hw [] o0 f_o0_count h0 n0 Z0 F_o0_count) hZ (hw _ (List.mem_of_getElem? (i := 148) rfl)) (hw _ (List.mem_of_getElem? (i := 34) rfl)) (by decide) (by decide)) e0 (Ins.self E_o0) (g := (mkF m 1 #[.val (.ref o0)] [(.ref o0)])) rfl (by rw [hml]; rfl) (hw _ (List.mem_of_getElem? (i := 148) rfl)) (argsL := []) (rest := []) (lenOf pd_8 rfl) rfl (by show 2 * 0 + _ ≤ _; exact Nat.le_of_eq rfl) (hb hby d24_1) (fun _ _ => ⟨rfl, e0, (by decide : 0 + 0 ≤ _), (by decide : 0 + 0 ≤ _)⟩)
  dsimp only [Pt.U, Pt.locs, Pt.cells, Pt.slots] at X1 l1 y1 z1 st1 hQ1
  subst l1 y1 z1
  obtain ⟨rfl, Nq1, q1_0⟩ := hQ1
  have N1 := Fr.app N0 Nq1
  refine Go.tr st1 ?_
  show Go p e below _ (T1.setTop (mkF m 4 #[.val (.ref o0)] [(.int f_o0_count)]))
  obtain ⟨fs, hr, hrun, hended, hW, hsame⟩ := X1.leave (v := some (.int f_o0_count)) (fun h => by rw [Bd.returns] at h; cases h)
  refine Go.mk _ _ ?_ hrun hended ⟨_, _, rfl, ?_, ⟨_, rfl⟩, hW, hsame.mono (by decide) (by decide)⟩
  · exact retI X1 hx Bd.returns (hb hby d24_4) hr
  · show Q24 Z o0 f_o0_count h0 n0 _ T1.heap _
    rw [q1_0]
    exact ⟨rfl, N1, rfl⟩
theorem d29_0 : decode jdk_29_method_69_code 0 = .ok (.iload_n 0, 1) := by decide +kernel
theorem d29_1 : decode jdk_29_method_69_code 1 = .ok (.iload_n 1, 1) := by decide +kernel
theorem d29_2 : decode jdk_29_method_69_code 2 = .ok (.if_icmp .gt 7, 3) := by decide +kernel
theorem d29_9 : decode jdk_29_method_69_code 9 = .ok (.iload_n 1, 1) := by decide +kernel
theorem d29_10 : decode jdk_29_method_69_code 10 = .ok (.ireturn, 1) := by decide +kernel
theorem ef_29 (m : MethodId) (x0 : Int32) (x1 : Int32) : entryFrame m #[(.int x0), (.int x1)] 2 = mkF m 0 #[.val (.int x0), .val (.int x1)] [] := by first | (simp [entryFrame, mkF, argsToLocals, Value.category]; done) | rfl
def Q29 (Z : State) (p0 : Int32) (p1 : Int32) (h0 : Heap) (n0 : Nat) (v : Option Value) (h : Heap) (L : List Loc) : Prop := v = some (.int p1) ∧ Fr n0 L ∧ h = h0
set_option maxRecDepth 65536 in
set_option maxHeartbeats 40000000 in
theorem rm29 (l : Launch) (Z : State) (a0 : Array Value) (hw : ∀ d ∈ tables_1, d.before a0 Z = true) (ws : List Jvm.Cond) (p0 : Int32) (p1 : Int32) (h0 : Heap) (n0 : Nat) (Z0 : n0 ≤ h0.size) (hc2 : p1 < p0) :
    MetFree l (⟨"java/lang/Math", "min", "(II)I"⟩ : MethodName) (head1 (Jvm.Cond.code (⟨"java/lang/Math", "min", "(II)I"⟩ : MethodName) jdk_29_method_69_code 2 (some .int) :: ws) ({ frames := 0, cells := 0, slots := 0, locals := 0 } : Room)) (fun a U => a = #[(.int p0), (.int p1)] ∧ Z.Warmed39 U.vm ∧ U.heap = h0) (fun _ _ _ _ _ => True) (fun _ U o U' => ∃ v L, o = .returned v ∧ Q29 Z p0 p1 h0 n0 v U'.heap L ∧ FrameEnd U o U' L ({ frames := 0, cells := 0, slots := 0, locals := 0 } : Room).cells ({ frames := 0, cells := 0, slots := 0, locals := 0 } : Room).slots) := by
  refine MetFree.of_bodySF (Jvm.Free.JP.mathPlain rfl (by decide +kernel)) hisR ?_
  intro p e s m args below meth c s₁ Bd hml0 hP hK
  obtain ⟨rfl, hZ, hh⟩ := hP
  have hx := Bd.exec
  have hby := Bd.bytes
  have hml : c.maxLocals = 2 := hml0
  have hown : s.vm.findClass "java/lang/Math" = some m.cls := findClass_of_methodNamed Bd.named
  have hnm := (name_of_methodNamed Bd.named Bd.method).1
  have X0 : Stand p l e ({ frames := 0, cells := 0, slots := 0, locals := 0 } : Room) s m #[(.int p0), (.int p1)] below meth c s₁ [] 0 0 := Stand.of_body Bd
  have e0 : s₁.heap = h0 := by rw [← hh, Bd.state]; rfl
  have N0 := Fr.nil n0
  show Go p e below (fun o U' => ∃ v L, o = .returned v ∧ Q29 Z p0 p1 h0 n0 v U'.heap L ∧ FrameEnd s o U' L ({ frames := 0, cells := 0, slots := 0, locals := 0 } : Room).cells ({ frames := 0, cells := 0, slots := 0, locals := 0 } : Room).slots) (s₁.setTop (entryFrame m #[(.int p0), (.int p1)] 2))
  refine Go.of (fun _ k => castTop (ef_29 m p0 p1) k) ?_
  show Go p e below _ (s₁.setTop (mkF m 0 #[.val (.int p0), .val (.int p1)] []))
  refine Go.of (fun _ k => XS.iloadN X0.here hx rfl (hb hby d29_0) rfl  k) ?_
  show Go p e below _ (s₁.setTop (mkF m 1 #[.val (.int p0), .val (.int p1)] [(.int p0)]))
  refine Go.of (fun _ k => XS.iloadN X0.here hx rfl (hb hby d29_1) rfl  k) ?_
  show Go p e below _ (s₁.setTop (mkF m 2 #[.val (.int p0), .val (.int p1)] [(.int p1), (.int p0)]))
  refine Go.of (fun _ k => XS.icmpYes X0.here hx rfl (pc0 := 2) (pc' := 9) rfl (hb hby d29_2) rfl (tlt hc2).2.2.1 (by decide) (by decide) k) ?_
  show Go p e below _ (s₁.setTop (mkF m 9 #[.val (.int p0), .val (.int p1)] []))
  refine Go.of (fun _ k => XS.iloadN X0.here hx rfl (hb hby d29_9) rfl  k) ?_
  show Go p e below _ (s₁.setTop (mkF m 10 #[.val (.int p0), .val (.int p1)] [(.int p1)]))
  obtain ⟨fs, hr, hrun, hended, hW, hsame⟩ := X0.leave (v := some (.int p1)) (fun h => by rw [Bd.returns] at h; cases h)
  refine Go.mk _ _ ?_ hrun hended ⟨_, _, rfl, ?_, ⟨_, rfl⟩, hW, hsame.mono (by decide) (by decide)⟩
  · exact retI X0 hx Bd.returns (hb hby d29_10) hr
  · show Q29 Z p0 p1 h0 n0 _ s₁.heap _
    rw [e0]
    exact ⟨rfl, N0, rfl⟩
theorem d28_0 : decode jdk_65_method_131_code 0 = .ok (.iload_n 1, 1) := by decide +kernel
theorem d28_1 : decode jdk_65_method_131_code 1 = .ok (.iload_n 0, 1) := by decide +kernel
theorem d28_2 : decode jdk_65_method_131_code 2 = .ok (.if_icmp .ge 35, 3) := by decide +kernel
theorem d28_37 : decode jdk_65_method_131_code 37 = .ok (.return_, 1) := by decide +kernel
theorem pn_java_util_Arrays : plainName "java/util/Arrays" = true := by first | (simp [plainName, overriddenIn]; done) | decide +kernel
theorem ef_28l1_0l2_2 (m : MethodId)  : entryFrame m #[(.int (0 : Int32)), (.int (2 : Int32))] 2 = mkF m 0 #[.val (.int (0 : Int32)), .val (.int (2 : Int32))] [] := by first | (simp [entryFrame, mkF, argsToLocals, Value.category]; done) | rfl
def Q28_2 (Z : State)  (h0 : Heap) (n0 : Nat) (v : Option Value) (h : Heap) (L : List Loc) : Prop := v = none ∧ Fr n0 L ∧ h = h0
set_option maxRecDepth 65536 in
set_option maxHeartbeats 40000000 in
theorem rm28_2 (l : Launch) (Z : State) (a0 : Array Value) (hw : ∀ d ∈ tables_1, d.before a0 Z = true) (ws : List Jvm.Cond)  (h0 : Heap) (n0 : Nat) (Z0 : n0 ≤ h0.size) :
    MetFree l (⟨"java/util/Arrays", "checkLength", "(II)V"⟩ : MethodName) (head1 (Jvm.Cond.code (⟨"java/util/Arrays", "checkLength", "(II)V"⟩ : MethodName) jdk_65_method_131_code 2 none :: ws) ({ frames := 0, cells := 0, slots := 0, locals := 0 } : Room)) (fun a U => a = #[(.int (0 : Int32)), (.int (2 : Int32))] ∧ Z.Warmed39 U.vm ∧ U.heap = h0) (fun _ _ _ _ _ => True) (fun _ U o U' => ∃ v L, o = .returned v ∧ Q28_2 Z  h0 n0 v U'.heap L ∧ FrameEnd U o U' L ({ frames := 0, cells := 0, slots := 0, locals := 0 } : Room).cells ({ frames := 0, cells := 0, slots := 0, locals := 0 } : Room).slots) := by
  refine MetFree.of_bodySF (plainFor_of_name pn_java_util_Arrays) hisR ?_
  intro p e s m args below meth c s₁ Bd hml0 hP hK
  obtain ⟨rfl, hZ, hh⟩ := hP
  have hx := Bd.exec
  have hby := Bd.bytes
  have hml : c.maxLocals = 2 := hml0
  have hown : s.vm.findClass "java/util/Arrays" = some m.cls := findClass_of_methodNamed Bd.named
  have hnm := (name_of_methodNamed Bd.named Bd.method).1
  have X0 : Stand p l e ({ frames := 0, cells := 0, slots := 0, locals := 0 } : Room) s m #[(.int (0 : Int32)), (.int (2 : Int32))] below meth c s₁ [] 0 0 := Stand.of_body Bd
  have e0 : s₁.heap = h0 := by rw [← hh, Bd.state]; rfl
  have N0 := Fr.nil n0
  show Go p e below (fun o U' => ∃ v L, o = .returned v ∧ Q28_2 Z  h0 n0 v U'.heap L ∧ FrameEnd s o U' L ({ frames := 0, cells := 0, slots := 0, locals := 0 } : Room).cells ({ frames := 0, cells := 0, slots := 0, locals := 0 } : Room).slots) (s₁.setTop (entryFrame m #[(.int (0 : Int32)), (.int (2 : Int32))] 2))
  refine Go.of (fun _ k => castTop (ef_28l1_0l2_2 m ) k) ?_
  show Go p e below _ (s₁.setTop (mkF m 0 #[.val (.int (0 : Int32)), .val (.int (2 : Int32))] []))
  refine Go.of (fun _ k => XS.iloadN X0.here hx rfl (hb hby d28_0) rfl  k) ?_
  show Go p e below _ (s₁.setTop (mkF m 1 #[.val (.int (0 : Int32)), .val (.int (2 : Int32))] [(.int (2 : Int32))]))
  refine Go.of (fun _ k => XS.iloadN X0.here hx rfl (hb hby d28_1) rfl  k) ?_
  show Go p e below _ (s₁.setTop (mkF m 2 #[.val (.int (0 : Int32)), .val (.int (2 : Int32))] [(.int (0 : Int32)), (.int (2 : Int32))]))
  refine Go.of (fun _ k => XS.icmpYes X0.here hx rfl (pc0 := 2) (pc' := 37) rfl (hb hby d28_2) rfl (flt (by decide : ¬ ((2 : Int32) < (0 : Int32)))).2.1 (by decide) (by decide) k) ?_
  show Go p e below _ (s₁.setTop (mkF m 37 #[.val (.int (0 : Int32)), .val (.int (2 : Int32))] []))
  obtain ⟨fs, hr, hrun, hended, hW, hsame⟩ := X0.leave (v := none) (fun _ => rfl)
  refine Go.mk _ _ ?_ hrun hended ⟨_, _, rfl, ?_, ⟨_, rfl⟩, hW, hsame.mono (by decide) (by decide)⟩
  · exact X0.returnOut hx Bd.returns (hb hby d28_37) hr
  · show Q28_2 Z  h0 n0 _ s₁.heap _
    rw [e0]
    exact ⟨rfl, N0, rfl⟩
theorem d27_0 : decode jdk_65_method_133_code 0 = .ok (.iload_n 1, 1) := by decide +kernel
theorem d27_1 : decode jdk_65_method_133_code 1 = .ok (.iload_n 2, 1) := by decide +kernel
theorem d27_2 : decode jdk_65_method_133_code 2 = .ok (.invokestatic 343, 3) := by decide +kernel
theorem pd_11 : parseMethodDescriptor "(II)V" = some ⟨[.int, .int], none⟩ := by decide +kernel
theorem d27_5 : decode jdk_65_method_133_code 5 = .ok (.iload_n 2, 1) := by decide +kernel
theorem d27_6 : decode jdk_65_method_133_code 6 = .ok (.iload_n 1, 1) := by decide +kernel
theorem d27_7 : decode jdk_65_method_133_code 7 = .ok (.isub, 1) := by decide +kernel
theorem d27_8 : decode jdk_65_method_133_code 8 = .ok (.istore_n 3, 1) := by decide +kernel
theorem d27_9 : decode jdk_65_method_133_code 9 = .ok (.iload_n 3, 1) := by decide +kernel
theorem d27_10 : decode jdk_65_method_133_code 10 = .ok (.newarray .byte, 2) := by decide +kernel
theorem d27_12 : decode jdk_65_method_133_code 12 = .ok (.astore 4, 2) := by decide +kernel
theorem d27_14 : decode jdk_65_method_133_code 14 = .ok (.aload_n 0, 1) := by decide +kernel
theorem d27_15 : decode jdk_65_method_133_code 15 = .ok (.iload_n 1, 1) := by decide +kernel
theorem d27_16 : decode jdk_65_method_133_code 16 = .ok (.aload 4, 2) := by decide +kernel
theorem d27_18 : decode jdk_65_method_133_code 18 = .ok (.iconst 0, 1) := by decide +kernel
theorem d27_19 : decode jdk_65_method_133_code 19 = .ok (.aload_n 0, 1) := by decide +kernel
theorem d27_20 : decode jdk_65_method_133_code 20 = .ok (.arraylength, 1) := by decide +kernel
theorem d27_21 : decode jdk_65_method_133_code 21 = .ok (.iload_n 1, 1) := by decide +kernel
theorem d27_22 : decode jdk_65_method_133_code 22 = .ok (.isub, 1) := by decide +kernel
theorem d27_23 : decode jdk_65_method_133_code 23 = .ok (.iload_n 3, 1) := by decide +kernel
theorem d27_24 : decode jdk_65_method_133_code 24 = .ok (.invokestatic 304, 3) := by decide +kernel
theorem pd_12 : parseMethodDescriptor "(II)I" = some ⟨[.int, .int], some .int⟩ := by decide +kernel
theorem d27_27 : decode jdk_65_method_133_code 27 = .ok (.invokestatic 150, 3) := by decide +kernel
theorem d27_30 : decode jdk_65_method_133_code 30 = .ok (.aload 4, 2) := by decide +kernel
theorem d27_32 : decode jdk_65_method_133_code 32 = .ok (.areturn, 1) := by decide +kernel
theorem ef_27l2_0l3_2 (m : MethodId) (x0 : Addr) : entryFrame m #[(.ref x0), (.int (0 : Int32)), (.int (2 : Int32))] 5 = mkF m 0 #[.val (.ref x0), .val (.int (0 : Int32)), .val (.int (2 : Int32)), .unset, .unset] [] := by first | (simp [entryFrame, mkF, argsToLocals, Value.category]; done) | rfl
def Q27_2 (Z : State) (o0 : Addr) (cb0 : Int32) (cb1 : Int32) (kv : ClassId) (h0 : Heap) (n0 : Nat) (v : Option Value) (h : Heap) (L : List Loc) : Prop := ∃ r : Addr, ∃ rk1 : ClassId, v = some (.ref r) ∧ Fr n0 L ∧ Keep h0 h [] ∧ (h0.size ≤ r ∧ n0 ≤ r) ∧ Arv Z h r rk1 .byte (2 : Int32) [(.int cb0), (.int cb1)] (.int (0 : Int32))
set_option maxRecDepth 65536 in
set_option maxHeartbeats 40000000 in
theorem rm27_2 (l : Launch) (Z : State) (a0 : Array Value) (hw : ∀ d ∈ tables_1, d.before a0 Z = true) (ws : List Jvm.Cond) (o0 : Addr) (cb0 : Int32) (cb1 : Int32) (kv : ClassId) (h0 : Heap) (n0 : Nat) (Z0 : n0 ≤ h0.size) (V_o0 : Arv Z h0 o0 kv .byte (16 : Int32) [(.int cb0), (.int cb1), (.int (0 : Int32)), (.int (0 : Int32)), (.int (0 : Int32)), (.int (0 : Int32)), (.int (0 : Int32)), (.int (0 : Int32)), (.int (0 : Int32)), (.int (0 : Int32)), (.int (0 : Int32)), (.int (0 : Int32)), (.int (0 : Int32)), (.int (0 : Int32)), (.int (0 : Int32)), (.int (0 : Int32))] (.int (0 : Int32))) :
    MetFree l (⟨"java/util/Arrays", "copyOfRangeByte", "([BII)[B"⟩ : MethodName) (head1 (Jvm.Cond.code (⟨"java/util/Arrays", "copyOfRangeByte", "([BII)[B"⟩ : MethodName) jdk_65_method_133_code 5 (some (.array .byte)) :: ws) ({ frames := 1, cells := 1, slots := 2, locals := 32 } : Room)) (fun a U => a = #[(.ref o0), (.int (0 : Int32)), (.int (2 : Int32))] ∧ Z.Warmed39 U.vm ∧ U.heap = h0) (fun _ _ _ _ _ => True) (fun _ U o U' => ∃ v L, o = .returned v ∧ Q27_2 Z o0 cb0 cb1 kv h0 n0 v U'.heap L ∧ FrameEnd U o U' L ({ frames := 1, cells := 1, slots := 2, locals := 32 } : Room).cells ({ frames := 1, cells := 1, slots := 2, locals := 32 } : Room).slots) := by
  refine MetFree.of_bodySF (plainFor_of_name pn_java_util_Arrays) hisR ?_
  intro p e s m args below meth c s₁ Bd hml0 hP hK
  obtain ⟨rfl, hZ, hh⟩ := hP
  have hx := Bd.exec
  have hby := Bd.bytes
  have hml : c.maxLocals = 5 := hml0
  have hown : s.vm.findClass "java/util/Arrays" = some m.cls := findClass_of_methodNamed Bd.named
  have hnm := (name_of_methodNamed Bd.named Bd.method).1
  have X0 : Stand p l e ({ frames := 1, cells := 1, slots := 2, locals := 32 } : Room) s m #[(.ref o0), (.int (0 : Int32)), (.int (2 : Int32))] below meth c s₁ [] 0 0 := Stand.of_body Bd
  have e0 : s₁.heap = h0 := by rw [← hh, Bd.state]; rfl
  have N0 := Fr.nil n0
  show Go p e below (fun o U' => ∃ v L, o = .returned v ∧ Q27_2 Z o0 cb0 cb1 kv h0 n0 v U'.heap L ∧ FrameEnd s o U' L ({ frames := 1, cells := 1, slots := 2, locals := 32 } : Room).cells ({ frames := 1, cells := 1, slots := 2, locals := 32 } : Room).slots) (s₁.setTop (entryFrame m #[(.ref o0), (.int (0 : Int32)), (.int (2 : Int32))] 5))
  refine Go.of (fun _ k => castTop (ef_27l2_0l3_2 m o0) k) ?_
  show Go p e below _ (s₁.setTop (mkF m 0 #[.val (.ref o0), .val (.int (0 : Int32)), .val (.int (2 : Int32)), .unset, .unset] []))
  refine Go.of (fun _ k => XS.iloadN X0.here hx rfl (hb hby d27_0) rfl  k) ?_
  show Go p e below _ (s₁.setTop (mkF m 1 #[.val (.ref o0), .val (.int (0 : Int32)), .val (.int (2 : Int32)), .unset, .unset] [(.int (0 : Int32))]))
  refine Go.of (fun _ k => XS.iloadN X0.here hx rfl (hb hby d27_1) rfl  k) ?_
  show Go p e below _ (s₁.setTop (mkF m 2 #[.val (.ref o0), .val (.int (0 : Int32)), .val (.int (2 : Int32)), .unset, .unset] [(.int (2 : Int32)), (.int (0 : Int32))]))
  obtain ⟨_, _, ⟨T1, L1, k1, n1⟩, -, X1, ⟨Lc1, hQ1, l1, y1, z1⟩, st1⟩ := Jvm.LawKit.callS X0 hx (y := (⟨"java/util/Arrays", "checkLength", "(II)V"⟩ : MethodName)) hown (mvT hZ (hw _ (List.mem_of_getElem? (i := 157) rfl))) (mvT hZ (hw _ (List.mem_of_getElem? (i := 158) rfl))) (mvT hZ (hw _ (List.mem_of_getElem? (i := 152) rfl))) (mvT hZ (hw _ (List.mem_of_getElem? (i := 159) rfl))) (by decide) (backOf (W := 0) (rm28_2 l Z a0 hw []  h0 n0 Z0 ) hZ (hw _ (List.mem_of_getElem? (i := 159) rfl)) (hw _ (List.mem_of_getElem? (i := 152) rfl)) (by decide) (by decide)) (g := (mkF m 2 #[.val (.ref o0), .val (.int (0 : Int32)), .val (.int (2 : Int32)), .unset, .unset] [(.int (2 : Int32)), (.int (0 : Int32))])) rfl (by rw [hml]; rfl) (argsL := [(.int (0 : Int32)), (.int (2 : Int32))]) (rest := []) (lenOf pd_11 rfl) rfl (by show 2 * 0 + _ ≤ _; exact Nat.le_of_eq rfl) (hb hby d27_2) (fun _ _ => ⟨rfl, e0, (by decide : 0 + 0 ≤ _), (by decide : 0 + 0 ≤ _)⟩)
  dsimp only [Pt.U, Pt.locs, Pt.cells, Pt.slots] at X1 l1 y1 z1 st1 hQ1
  subst l1 y1 z1
  obtain ⟨rfl, Nq1, q1_0⟩ := hQ1
  have N1 := Fr.app N0 Nq1
  refine Go.of st1 ?_
  show Go p e below _ (T1.setTop (mkF m 5 #[.val (.ref o0), .val (.int (0 : Int32)), .val (.int (2 : Int32)), .unset, .unset] []))
  refine Go.of (fun _ k => XS.iloadN X1.here hx rfl (hb hby d27_5) rfl  k) ?_
  show Go p e below _ (T1.setTop (mkF m 6 #[.val (.ref o0), .val (.int (0 : Int32)), .val (.int (2 : Int32)), .unset, .unset] [(.int (2 : Int32))]))
  refine Go.of (fun _ k => XS.iloadN X1.here hx rfl (hb hby d27_6) rfl  k) ?_
  show Go p e below _ (T1.setTop (mkF m 7 #[.val (.ref o0), .val (.int (0 : Int32)), .val (.int (2 : Int32)), .unset, .unset] [(.int (0 : Int32)), (.int (2 : Int32))]))
  refine Go.of (fun _ k => XS.isub X1.here hx rfl (hb hby d27_7) rfl k) ?_
  show Go p e below _ (T1.setTop (mkF m 8 #[.val (.ref o0), .val (.int (0 : Int32)), .val (.int (2 : Int32)), .unset, .unset] [(.int (2 : Int32))]))
  refine Go.of (fun _ k => XS.istoreN X1.here hx rfl (hb hby d27_8) rfl (l' := #[.val (.ref o0), .val (.int (0 : Int32)), .val (.int (2 : Int32)), .val (.int (2 : Int32)), .unset]) rfl k) ?_
  show Go p e below _ (T1.setTop (mkF m 9 #[.val (.ref o0), .val (.int (0 : Int32)), .val (.int (2 : Int32)), .val (.int (2 : Int32)), .unset] []))
  refine Go.of (fun _ k => XS.iloadN X1.here hx rfl (hb hby d27_9) rfl  k) ?_
  show Go p e below _ (T1.setTop (mkF m 10 #[.val (.ref o0), .val (.int (0 : Int32)), .val (.int (2 : Int32)), .val (.int (2 : Int32)), .unset] [(.int (2 : Int32))]))
  obtain ⟨T2, h2, k2, X2, e2, E2, A2, st2⟩ := newP X1 hx hZ (hw _ (List.mem_of_getElem? (i := 39) rfl)) q1_0 (g := (mkF m 10 #[.val (.ref o0), .val (.int (0 : Int32)), .val (.int (2 : Int32)), .val (.int (2 : Int32)), .unset] [(.int (2 : Int32))])) rfl (hb hby d27_10) rfl (by decide) (cap := 2) (by decide) (by decide) (by decide) (by decide)
  obtain ⟨ob2, g2⟩ : ∃ z, z = h0.size := ⟨_, rfl⟩
  rw [← g2] at A2 st2
  refine Go.of st2 ?_
  have g_ob2 : n0 ≤ ob2 := Nat.le_trans Z0 (Nat.le_of_eq g2.symm)
  have sz_ob2 : h0.size ≤ ob2 := Nat.le_trans ((Keep.refl h0 [])).1 (Nat.le_of_eq g2.symm)
  have K2 : Keep h0 h2 [] := ((Keep.refl h0 [])).ext E2
  have Z2 : n0 ≤ h2.size := Nat.le_trans Z0 E2.1
  have V2 : Arv Z h2 ob2 k2 .byte (2 : Int32) [(.int (0 : Int32)), (.int (0 : Int32))] (.int (0 : Int32)) := (Arv.new A2 (by decide)).pad (pad_rep [] (.int (0 : Int32)) 2)
  show Go p e below _ (T2.setTop (mkF m 12 #[.val (.ref o0), .val (.int (0 : Int32)), .val (.int (2 : Int32)), .val (.int (2 : Int32)), .unset] [(.ref ob2)]))
  refine Go.of (fun _ k => XS.astore X2.here hx rfl (hb hby d27_12) rfl rfl (l' := #[.val (.ref o0), .val (.int (0 : Int32)), .val (.int (2 : Int32)), .val (.int (2 : Int32)), .val (.ref ob2)]) rfl k) ?_
  show Go p e below _ (T2.setTop (mkF m 14 #[.val (.ref o0), .val (.int (0 : Int32)), .val (.int (2 : Int32)), .val (.int (2 : Int32)), .val (.ref ob2)] []))
  refine Go.of (fun _ k => XS.aloadN X2.here hx rfl (hb hby d27_14) rfl rfl k) ?_
  show Go p e below _ (T2.setTop (mkF m 15 #[.val (.ref o0), .val (.int (0 : Int32)), .val (.int (2 : Int32)), .val (.int (2 : Int32)), .val (.ref ob2)] [(.ref o0)]))
  refine Go.of (fun _ k => XS.iloadN X2.here hx rfl (hb hby d27_15) rfl  k) ?_
  show Go p e below _ (T2.setTop (mkF m 16 #[.val (.ref o0), .val (.int (0 : Int32)), .val (.int (2 : Int32)), .val (.int (2 : Int32)), .val (.ref ob2)] [(.int (0 : Int32)), (.ref o0)]))
  refine Go.of (fun _ k => XS.aload X2.here hx rfl (hb hby d27_16) rfl rfl k) ?_
  show Go p e below _ (T2.setTop (mkF m 18 #[.val (.ref o0), .val (.int (0 : Int32)), .val (.int (2 : Int32)), .val (.int (2 : Int32)), .val (.ref ob2)] [(.ref ob2), (.int (0 : Int32)), (.ref o0)]))
  refine Go.of (fun _ k => XS.iconst X2.here hx rfl (hb hby d27_18) k) ?_
  show Go p e below _ (T2.setTop (mkF m 19 #[.val (.ref o0), .val (.int (0 : Int32)), .val (.int (2 : Int32)), .val (.int (2 : Int32)), .val (.ref ob2)] [(.int (0 : Int32)), (.ref ob2), (.int (0 : Int32)), (.ref o0)]))
  refine Go.of (fun _ k => XS.aloadN X2.here hx rfl (hb hby d27_19) rfl rfl k) ?_
  show Go p e below _ (T2.setTop (mkF m 20 #[.val (.ref o0), .val (.int (0 : Int32)), .val (.int (2 : Int32)), .val (.int (2 : Int32)), .val (.ref ob2)] [(.ref o0), (.int (0 : Int32)), (.ref ob2), (.int (0 : Int32)), (.ref o0)]))
  have c3 : Arv Z h2 o0 kv .byte (16 : Int32) [(.int cb0), (.int cb1), (.int (0 : Int32)), (.int (0 : Int32)), (.int (0 : Int32)), (.int (0 : Int32)), (.int (0 : Int32)), (.int (0 : Int32)), (.int (0 : Int32)), (.int (0 : Int32)), (.int (0 : Int32)), (.int (0 : Int32)), (.int (0 : Int32)), (.int (0 : Int32)), (.int (0 : Int32)), (.int (0 : Int32))] (.int (0 : Int32)) := (V_o0.ext E2)
  obtain ⟨clt4, Art4, qt4, st4, nt4, Ht4, Gt4⟩ := id c3
  refine Go.of (fun _ k => X2.arraylength hx (by rw [e2]; exact Art4.1) (State.isArrayOf_alike hZ.alike Art4.2.1) (g := (mkF m 20 #[.val (.ref o0), .val (.int (0 : Int32)), .val (.int (2 : Int32)), .val (.int (2 : Int32)), .val (.ref ob2)] [(.ref o0), (.int (0 : Int32)), (.ref ob2), (.int (0 : Int32)), (.ref o0)])) rfl rfl (hb hby d27_20) _ k) ?_
  rw [len_of st4 nt4]
  show Go p e below _ (T2.setTop (mkF m 21 #[.val (.ref o0), .val (.int (0 : Int32)), .val (.int (2 : Int32)), .val (.int (2 : Int32)), .val (.ref ob2)] [(.int (16 : Int32)), (.int (0 : Int32)), (.ref ob2), (.int (0 : Int32)), (.ref o0)]))
  refine Go.of (fun _ k => XS.iloadN X2.here hx rfl (hb hby d27_21) rfl  k) ?_
  show Go p e below _ (T2.setTop (mkF m 22 #[.val (.ref o0), .val (.int (0 : Int32)), .val (.int (2 : Int32)), .val (.int (2 : Int32)), .val (.ref ob2)] [(.int (0 : Int32)), (.int (16 : Int32)), (.int (0 : Int32)), (.ref ob2), (.int (0 : Int32)), (.ref o0)]))
  refine Go.of (fun _ k => XS.isub X2.here hx rfl (hb hby d27_22) rfl k) ?_
  show Go p e below _ (T2.setTop (mkF m 23 #[.val (.ref o0), .val (.int (0 : Int32)), .val (.int (2 : Int32)), .val (.int (2 : Int32)), .val (.ref ob2)] [(.int (16 : Int32)), (.int (0 : Int32)), (.ref ob2), (.int (0 : Int32)), (.ref o0)]))
  refine Go.of (fun _ k => XS.iloadN X2.here hx rfl (hb hby d27_23) rfl  k) ?_
  show Go p e below _ (T2.setTop (mkF m 24 #[.val (.ref o0), .val (.int (0 : Int32)), .val (.int (2 : Int32)), .val (.int (2 : Int32)), .val (.ref ob2)] [(.int (2 : Int32)), (.int (16 : Int32)), (.int (0 : Int32)), (.ref ob2), (.int (0 : Int32)), (.ref o0)]))
  obtain ⟨_, _, ⟨T5, L5, k5, n5⟩, -, X5, ⟨Lc5, hQ5, l5, y5, z5⟩, st5⟩ := Jvm.LawKit.callS X2 hx (y := (⟨"java/lang/Math", "min", "(II)I"⟩ : MethodName)) hown (mvT hZ (hw _ (List.mem_of_getElem? (i := 160) rfl))) (mvT hZ (hw _ (List.mem_of_getElem? (i := 161) rfl))) (mvT hZ (hw _ (List.mem_of_getElem? (i := 162) rfl))) (mvT hZ (hw _ (List.mem_of_getElem? (i := 163) rfl))) (by decide) (backOf (W := 4) (rm29 l Z a0 hw [] (16 : Int32) (2 : Int32) h2 n0 Z2 (by decide : (2 : Int32) < (16 : Int32))) hZ (hw _ (List.mem_of_getElem? (i := 163) rfl)) (hw _ (List.mem_of_getElem? (i := 162) rfl)) (by decide) (by decide)) (g := (mkF m 24 #[.val (.ref o0), .val (.int (0 : Int32)), .val (.int (2 : Int32)), .val (.int (2 : Int32)), .val (.ref ob2)] [(.int (2 : Int32)), (.int (16 : Int32)), (.int (0 : Int32)), (.ref ob2), (.int (0 : Int32)), (.ref o0)])) rfl (by rw [hml]; rfl) (argsL := [(.int (16 : Int32)), (.int (2 : Int32))]) (rest := [(.int (0 : Int32)), (.ref ob2), (.int (0 : Int32)), (.ref o0)]) (lenOf pd_12 rfl) rfl (by show 2 * 0 + _ ≤ _; exact Nat.le_of_eq rfl) (hb hby d27_24) (fun _ _ => ⟨rfl, e2, (by decide : 1 + 0 ≤ _), (by decide : 2 + 0 ≤ _)⟩)
  dsimp only [Pt.U, Pt.locs, Pt.cells, Pt.slots] at X5 l5 y5 z5 st5 hQ5
  subst l5 y5 z5
  obtain ⟨rfl, Nq5, q5_0⟩ := hQ5
  have N5 := Fr.app N1 Nq5
  refine Go.of st5 ?_
  show Go p e below _ (T5.setTop (mkF m 27 #[.val (.ref o0), .val (.int (0 : Int32)), .val (.int (2 : Int32)), .val (.int (2 : Int32)), .val (.ref ob2)] [(.int (2 : Int32)), (.int (0 : Int32)), (.ref ob2), (.int (0 : Int32)), (.ref o0)]))
  obtain ⟨T6, h6, L6, X6, e6, N6, q6_0, V6, st6⟩ := cpA X5 hx hZ hown (hw _ (List.mem_of_getElem? (i := 164) rfl)) (hw _ (List.mem_of_getElem? (i := 121) rfl)) (hw _ (List.mem_of_getElem? (i := 119) rfl)) (hw _ (List.mem_of_getElem? (i := 120) rfl)) q5_0 c3 V2 (us := [(.int cb0), (.int cb1)]) (Or.inl ⟨rfl, rfl⟩) (by decide) (by decide) (by decide) (by decide) (by decide) rfl (Nat.le_of_ble_eq_true rfl) N5 g_ob2 (g := (mkF m 27 #[.val (.ref o0), .val (.int (0 : Int32)), .val (.int (2 : Int32)), .val (.int (2 : Int32)), .val (.ref ob2)] [(.int (2 : Int32)), (.int (0 : Int32)), (.ref ob2), (.int (0 : Int32)), (.ref o0)])) rfl (by rw [hml]; rfl) (rest := []) rfl (hb hby d27_27) (by decide) (W := 0) (by show 2 * 0 + _ ≤ _; exact Nat.le_of_eq rfl) (by decide)
  refine Go.of st6 ?_
  have K6 : Keep h0 h6 [] := (K2).trans q6_0 (allS (Or.inr sz_ob2) all0)
  have Z6 : n0 ≤ h6.size := Nat.le_trans Z2 q6_0.1
  have Vc6 : Arv Z h6 ob2 k2 .byte (2 : Int32) [(.int cb0), (.int cb1)] (.int (0 : Int32)) := V6
  show Go p e below _ (T6.setTop (mkF m 30 #[.val (.ref o0), .val (.int (0 : Int32)), .val (.int (2 : Int32)), .val (.int (2 : Int32)), .val (.ref ob2)] []))
  refine Go.of (fun _ k => XS.aload X6.here hx rfl (hb hby d27_30) rfl rfl k) ?_
  show Go p e below _ (T6.setTop (mkF m 32 #[.val (.ref o0), .val (.int (0 : Int32)), .val (.int (2 : Int32)), .val (.int (2 : Int32)), .val (.ref ob2)] [(.ref ob2)]))
  obtain ⟨fs, hr, hrun, hended, hW, hsame⟩ := X6.leave (v := some (.ref ob2)) (fun h => by rw [Bd.returns] at h; cases h)
  refine Go.mk _ _ ?_ hrun hended ⟨_, _, rfl, ?_, ⟨_, rfl⟩, hW, hsame.mono (by decide) (by decide)⟩
  · exact retOut X6 hx Bd.returns rfl (Or.inr (Or.inr (Or.inr (Or.inr ⟨rfl, rfl, rfl⟩)))) (hb hby d27_32) hr
  · show Q27_2 Z o0 cb0 cb1 kv h0 n0 _ T6.heap _
    rw [e6]
    exact ⟨ob2, k2, rfl, N6, K6, ⟨sz_ob2, g_ob2⟩, Vc6⟩
theorem d26_0 : decode jdk_65_method_132_code 0 = .ok (.iload_n 1, 1) := by decide +kernel
theorem d26_1 : decode jdk_65_method_132_code 1 = .ok (.ifCond .ne 9, 3) := by decide +kernel
theorem d26_4 : decode jdk_65_method_132_code 4 = .ok (.iload_n 2, 1) := by decide +kernel
theorem d26_5 : decode jdk_65_method_132_code 5 = .ok (.aload_n 0, 1) := by decide +kernel
theorem d26_6 : decode jdk_65_method_132_code 6 = .ok (.arraylength, 1) := by decide +kernel
theorem d26_7 : decode jdk_65_method_132_code 7 = .ok (.if_icmp .eq 10, 3) := by decide +kernel
theorem d26_10 : decode jdk_65_method_132_code 10 = .ok (.aload_n 0, 1) := by decide +kernel
theorem d26_11 : decode jdk_65_method_132_code 11 = .ok (.iload_n 1, 1) := by decide +kernel
theorem d26_12 : decode jdk_65_method_132_code 12 = .ok (.iload_n 2, 1) := by decide +kernel
theorem d26_13 : decode jdk_65_method_132_code 13 = .ok (.invokestatic 339, 3) := by decide +kernel
theorem pd_13 : parseMethodDescriptor "([BII)[B" = some ⟨[(.array .byte), .int, .int], some (.array .byte)⟩ := by decide +kernel
theorem d26_16 : decode jdk_65_method_132_code 16 = .ok (.areturn, 1) := by decide +kernel
theorem ef_26l2_0l3_2 (m : MethodId) (x0 : Addr) : entryFrame m #[(.ref x0), (.int (0 : Int32)), (.int (2 : Int32))] 3 = mkF m 0 #[.val (.ref x0), .val (.int (0 : Int32)), .val (.int (2 : Int32))] [] := by first | (simp [entryFrame, mkF, argsToLocals, Value.category]; done) | rfl
def Q26_2 (Z : State) (o0 : Addr) (cb0 : Int32) (cb1 : Int32) (kv : ClassId) (h0 : Heap) (n0 : Nat) (v : Option Value) (h : Heap) (L : List Loc) : Prop := ∃ r : Addr, ∃ rk1 : ClassId, v = some (.ref r) ∧ Fr n0 L ∧ Keep h0 h [] ∧ (h0.size ≤ r ∧ n0 ≤ r) ∧ Arv Z h r rk1 .byte (2 : Int32) [(.int cb0), (.int cb1)] (.int (0 : Int32))
set_option maxRecDepth 65536 in
set_option maxHeartbeats 40000000 in
theorem rm26_2 (l : Launch) (Z : State) (a0 : Array Value) (hw : ∀ d ∈ tables_1, d.before a0 Z = true) (ws : List Jvm.Cond) (o0 : Addr) (cb0 : Int32) (cb1 : Int32) (kv : ClassId) (h0 : Heap) (n0 : Nat) (Z0 : n0 ≤ h0.size) (V_o0 : Arv Z h0 o0 kv .byte (16 : Int32) [(.int cb0), (.int cb1), (.int (0 : Int32)), (.int (0 : Int32)), (.int (0 : Int32)), (.int (0 : Int32)), (.int (0 : Int32)), (.int (0 : Int32)), (.int (0 : Int32)), (.int (0 : Int32)), (.int (0 : Int32)), (.int (0 : Int32)), (.int (0 : Int32)), (.int (0 : Int32)), (.int (0 : Int32)), (.int (0 : Int32))] (.int (0 : Int32))) :
    MetFree l (⟨"java/util/Arrays", "copyOfRange", "([BII)[B"⟩ : MethodName) (head1 (Jvm.Cond.code (⟨"java/util/Arrays", "copyOfRange", "([BII)[B"⟩ : MethodName) jdk_65_method_132_code 3 (some (.array .byte)) :: ws) ({ frames := 2, cells := 1, slots := 2, locals := 48 } : Room)) (fun a U => a = #[(.ref o0), (.int (0 : Int32)), (.int (2 : Int32))] ∧ Z.Warmed39 U.vm ∧ U.heap = h0) (fun _ _ _ _ _ => True) (fun _ U o U' => ∃ v L, o = .returned v ∧ Q26_2 Z o0 cb0 cb1 kv h0 n0 v U'.heap L ∧ FrameEnd U o U' L ({ frames := 2, cells := 1, slots := 2, locals := 48 } : Room).cells ({ frames := 2, cells := 1, slots := 2, locals := 48 } : Room).slots) := by
  refine MetFree.of_bodySF (plainFor_of_name pn_java_util_Arrays) hisR ?_
  intro p e s m args below meth c s₁ Bd hml0 hP hK
  obtain ⟨rfl, hZ, hh⟩ := hP
  have hx := Bd.exec
  have hby := Bd.bytes
  have hml : c.maxLocals = 3 := hml0
  have hown : s.vm.findClass "java/util/Arrays" = some m.cls := findClass_of_methodNamed Bd.named
  have hnm := (name_of_methodNamed Bd.named Bd.method).1
  have X0 : Stand p l e ({ frames := 2, cells := 1, slots := 2, locals := 48 } : Room) s m #[(.ref o0), (.int (0 : Int32)), (.int (2 : Int32))] below meth c s₁ [] 0 0 := Stand.of_body Bd
  have e0 : s₁.heap = h0 := by rw [← hh, Bd.state]; rfl
  have N0 := Fr.nil n0
  show Go p e below (fun o U' => ∃ v L, o = .returned v ∧ Q26_2 Z o0 cb0 cb1 kv h0 n0 v U'.heap L ∧ FrameEnd s o U' L ({ frames := 2, cells := 1, slots := 2, locals := 48 } : Room).cells ({ frames := 2, cells := 1, slots := 2, locals := 48 } : Room).slots) (s₁.setTop (entryFrame m #[(.ref o0), (.int (0 : Int32)), (.int (2 : Int32))] 3))
  refine Go.of (fun _ k => castTop (ef_26l2_0l3_2 m o0) k) ?_
  show Go p e below _ (s₁.setTop (mkF m 0 #[.val (.ref o0), .val (.int (0 : Int32)), .val (.int (2 : Int32))] []))
  refine Go.of (fun _ k => XS.iloadN X0.here hx rfl (hb hby d26_0) rfl  k) ?_
  show Go p e below _ (s₁.setTop (mkF m 1 #[.val (.ref o0), .val (.int (0 : Int32)), .val (.int (2 : Int32))] [(.int (0 : Int32))]))
  refine Go.of (fun _ k => XS.ifNo X0.here hx rfl (hb hby d26_1) rfl ((if0 _ _).trans (teq (by decide : (0 : Int32) = (0 : Int32))).2) k) ?_
  show Go p e below _ (s₁.setTop (mkF m 4 #[.val (.ref o0), .val (.int (0 : Int32)), .val (.int (2 : Int32))] []))
  refine Go.of (fun _ k => XS.iloadN X0.here hx rfl (hb hby d26_4) rfl  k) ?_
  show Go p e below _ (s₁.setTop (mkF m 5 #[.val (.ref o0), .val (.int (0 : Int32)), .val (.int (2 : Int32))] [(.int (2 : Int32))]))
  refine Go.of (fun _ k => XS.aloadN X0.here hx rfl (hb hby d26_5) rfl rfl k) ?_
  show Go p e below _ (s₁.setTop (mkF m 6 #[.val (.ref o0), .val (.int (0 : Int32)), .val (.int (2 : Int32))] [(.ref o0), (.int (2 : Int32))]))
  obtain ⟨clt1, Art1, qt1, st1, nt1, Ht1, Gt1⟩ := id V_o0
  refine Go.of (fun _ k => X0.arraylength hx (by rw [e0]; exact Art1.1) (State.isArrayOf_alike hZ.alike Art1.2.1) (g := (mkF m 6 #[.val (.ref o0), .val (.int (0 : Int32)), .val (.int (2 : Int32))] [(.ref o0), (.int (2 : Int32))])) rfl rfl (hb hby d26_6) _ k) ?_
  rw [len_of st1 nt1]
  show Go p e below _ (s₁.setTop (mkF m 7 #[.val (.ref o0), .val (.int (0 : Int32)), .val (.int (2 : Int32))] [(.int (16 : Int32)), (.int (2 : Int32))]))
  refine Go.of (fun _ k => XS.icmpNo X0.here hx rfl (hb hby d26_7) rfl (feq (by decide : ¬ ((2 : Int32) = (16 : Int32)))).1 k) ?_
  show Go p e below _ (s₁.setTop (mkF m 10 #[.val (.ref o0), .val (.int (0 : Int32)), .val (.int (2 : Int32))] []))
  refine Go.of (fun _ k => XS.aloadN X0.here hx rfl (hb hby d26_10) rfl rfl k) ?_
  show Go p e below _ (s₁.setTop (mkF m 11 #[.val (.ref o0), .val (.int (0 : Int32)), .val (.int (2 : Int32))] [(.ref o0)]))
  refine Go.of (fun _ k => XS.iloadN X0.here hx rfl (hb hby d26_11) rfl  k) ?_
  show Go p e below _ (s₁.setTop (mkF m 12 #[.val (.ref o0), .val (.int (0 : Int32)), .val (.int (2 : Int32))] [(.int (0 : Int32)), (.ref o0)]))
  refine Go.of (fun _ k => XS.iloadN X0.here hx rfl (hb hby d26_12) rfl  k) ?_
  show Go p e below _ (s₁.setTop (mkF m 13 #[.val (.ref o0), .val (.int (0 : Int32)), .val (.int (2 : Int32))] [(.int (2 : Int32)), (.int (0 : Int32)), (.ref o0)]))
  obtain ⟨_, _, ⟨T2, L2, k2, n2⟩, -, X2, ⟨Lc2, hQ2, l2, y2, z2⟩, st2⟩ := Jvm.LawKit.callS X0 hx (y := (⟨"java/util/Arrays", "copyOfRangeByte", "([BII)[B"⟩ : MethodName)) hown (mvT hZ (hw _ (List.mem_of_getElem? (i := 154) rfl))) (mvT hZ (hw _ (List.mem_of_getElem? (i := 155) rfl))) (mvT hZ (hw _ (List.mem_of_getElem? (i := 152) rfl))) (mvT hZ (hw _ (List.mem_of_getElem? (i := 156) rfl))) (by decide) (backOf (W := 0) (rm27_2 l Z a0 hw [] o0 cb0 cb1 kv h0 n0 Z0 V_o0) hZ (hw _ (List.mem_of_getElem? (i := 156) rfl)) (hw _ (List.mem_of_getElem? (i := 152) rfl)) (by decide) (by decide)) (g := (mkF m 13 #[.val (.ref o0), .val (.int (0 : Int32)), .val (.int (2 : Int32))] [(.int (2 : Int32)), (.int (0 : Int32)), (.ref o0)])) rfl (by rw [hml]; rfl) (argsL := [(.ref o0), (.int (0 : Int32)), (.int (2 : Int32))]) (rest := []) (lenOf pd_13 rfl) rfl (by show 2 * 0 + _ ≤ _; exact Nat.le_of_eq rfl) (hb hby d26_13) (fun _ _ => ⟨rfl, e0, (by decide : 0 + 1 ≤ _), (by decide : 0 + 2 ≤ _)⟩)
  dsimp only [Pt.U, Pt.locs, Pt.cells, Pt.slots] at X2 l2 y2 z2 st2 hQ2
  subst l2 y2 z2
  obtain ⟨r_2, rk1_2, rfl, Nq2, q2_0, q2_1, q2_2⟩ := hQ2
  have N2 := Fr.app N0 Nq2
  refine Go.of st2 ?_
  have K2 : Keep h0 T2.heap [] := ((Keep.refl h0 [])).trans q2_0 all0
  have Z2 : n0 ≤ T2.heap.size := Nat.le_trans Z0 q2_0.1
  have g_r_2 : n0 ≤ r_2 := q2_1.2
  have sz_r_2 : h0.size ≤ r_2 := Nat.le_trans ((Keep.refl h0 [])).1 q2_1.1
  show Go p e below _ (T2.setTop (mkF m 16 #[.val (.ref o0), .val (.int (0 : Int32)), .val (.int (2 : Int32))] [(.ref r_2)]))
  obtain ⟨fs, hr, hrun, hended, hW, hsame⟩ := X2.leave (v := some (.ref r_2)) (fun h => by rw [Bd.returns] at h; cases h)
  refine Go.mk _ _ ?_ hrun hended ⟨_, _, rfl, ?_, ⟨_, rfl⟩, hW, hsame.mono (by decide) (by decide)⟩
  · exact retOut X2 hx Bd.returns rfl (Or.inr (Or.inr (Or.inr (Or.inr ⟨rfl, rfl, rfl⟩)))) (hb hby d26_16) hr
  · show Q26_2 Z o0 cb0 cb1 kv h0 n0 _ T2.heap _
    exact ⟨r_2, rk1_2, rfl, N2, K2, ⟨sz_r_2, g_r_2⟩, q2_2⟩
theorem d22_0 : decode jdk_42_method_150_code 0 = .ok (.aload_n 0, 1) := by decide +kernel
theorem d22_1 : decode jdk_42_method_150_code 1 = .ok (.invokespecial 1, 3) := by decide +kernel
theorem d22_4 : decode jdk_42_method_150_code 4 = .ok (.aload_n 1, 1) := by decide +kernel
theorem d22_5 : decode jdk_42_method_150_code 5 = .ok (.invokevirtual 552, 3) := by decide +kernel
theorem pd_14 : parseMethodDescriptor "()[B" = some ⟨[], some (.array .byte)⟩ := by decide +kernel
theorem d22_8 : decode jdk_42_method_150_code 8 = .ok (.astore_n 3, 1) := by decide +kernel
theorem d22_9 : decode jdk_42_method_150_code 9 = .ok (.aload_n 1, 1) := by decide +kernel
theorem d22_10 : decode jdk_42_method_150_code 10 = .ok (.invokevirtual 549, 3) := by decide +kernel
theorem d22_13 : decode jdk_42_method_150_code 13 = .ok (.istore 4, 2) := by decide +kernel
theorem d22_15 : decode jdk_42_method_150_code 15 = .ok (.aload_n 1, 1) := by decide +kernel
theorem d22_16 : decode jdk_42_method_150_code 16 = .ok (.invokevirtual 1047, 3) := by decide +kernel
theorem d22_19 : decode jdk_42_method_150_code 19 = .ok (.ifCond .eq 22, 3) := by decide +kernel
theorem d22_22 : decode jdk_42_method_150_code 22 = .ok (.aload_n 0, 1) := by decide +kernel
theorem d22_23 : decode jdk_42_method_150_code 23 = .ok (.iconst 0, 1) := by decide +kernel
theorem d22_24 : decode jdk_42_method_150_code 24 = .ok (.putfield 15, 3) := by decide +kernel
theorem d22_27 : decode jdk_42_method_150_code 27 = .ok (.aload_n 0, 1) := by decide +kernel
theorem d22_28 : decode jdk_42_method_150_code 28 = .ok (.aload_n 3, 1) := by decide +kernel
theorem d22_29 : decode jdk_42_method_150_code 29 = .ok (.iconst 0, 1) := by decide +kernel
theorem d22_30 : decode jdk_42_method_150_code 30 = .ok (.iload 4, 2) := by decide +kernel
theorem d22_32 : decode jdk_42_method_150_code 32 = .ok (.invokestatic 54, 3) := by decide +kernel
theorem d22_35 : decode jdk_42_method_150_code 35 = .ok (.putfield 9, 3) := by decide +kernel
theorem d22_38 : decode jdk_42_method_150_code 38 = .ok (.goto 59, 3) := by decide +kernel
theorem d22_97 : decode jdk_42_method_150_code 97 = .ok (.return_, 1) := by decide +kernel
theorem ef_22n2 (m : MethodId) (x0 : Addr) (x1 : Addr) : entryFrame m #[(.ref x0), (.ref x1), .null] 5 = mkF m 0 #[.val (.ref x0), .val (.ref x1), .val .null, .unset, .unset] [] := by first | (simp [entryFrame, mkF, argsToLocals, Value.category]; done) | rfl
def Q22_2 (Z : State) (o0 : Addr) (o1 : Addr) (cb0 : Int32) (cb1 : Int32) (f_o1_value : Addr) (w_COMPACT_STRINGS : Int32) (u_o0_coder : Value) (kv : ClassId) (u_o0_value : Value) (h0 : Heap) (n0 : Nat) (v : Option Value) (h : Heap) (L : List Loc) : Prop := ∃ r0 : Addr, ∃ rk1 : ClassId, v = none ∧ Fr n0 L ∧ Keep h0 h [o0] ∧ Exa Z h o0 "java/lang/String" ∧ Fld Z h o0 "java/lang/String" "coder" "B" (.int (0 : Int32)) ∧ Fld Z h o0 "java/lang/String" "value" "[B" (.ref r0) ∧ (h0.size ≤ r0 ∧ n0 ≤ r0) ∧ Arv Z h r0 rk1 .byte (2 : Int32) [(.int cb0), (.int cb1)] (.int (0 : Int32))
set_option maxRecDepth 65536 in
set_option maxHeartbeats 40000000 in
theorem rm22_2 (l : Launch) (Z : State) (a0 : Array Value) (hw : ∀ d ∈ tables_1, d.before a0 Z = true) (ws : List Jvm.Cond) (o0 : Addr) (o1 : Addr) (cb0 : Int32) (cb1 : Int32) (f_o1_value : Addr) (w_COMPACT_STRINGS : Int32) (u_o0_coder : Value) (kv : ClassId) (u_o0_value : Value) (h0 : Heap) (n0 : Nat) (Z0 : n0 ≤ h0.size) (F_o1_value : Fld Z h0 o1 "java/lang/AbstractStringBuilder" "value" "[B" (.ref f_o1_value)) (E_o1 : Exa Z h0 o1 "java/lang/StringBuilder") (F_o1_count : Fld Z h0 o1 "java/lang/AbstractStringBuilder" "count" "I" (.int (2 : Int32))) (S_COMPACT_STRINGS : Sta Z h0 "java/lang/String" "COMPACT_STRINGS" "Z" (.int w_COMPACT_STRINGS)) (hc3_4 : ¬ (w_COMPACT_STRINGS = (0 : Int32))) (F_o1_coder : Fld Z h0 o1 "java/lang/AbstractStringBuilder" "coder" "B" (.int (0 : Int32))) (E_o0 : Exa Z h0 o0 "java/lang/String") (F_o0_coder : Fld Z h0 o0 "java/lang/String" "coder" "B" u_o0_coder) (g_o0 : n0 ≤ o0) (V_f_o1_value : Arv Z h0 f_o1_value kv .byte (16 : Int32) [(.int cb0), (.int cb1), (.int (0 : Int32)), (.int (0 : Int32)), (.int (0 : Int32)), (.int (0 : Int32)), (.int (0 : Int32)), (.int (0 : Int32)), (.int (0 : Int32)), (.int (0 : Int32)), (.int (0 : Int32)), (.int (0 : Int32)), (.int (0 : Int32)), (.int (0 : Int32)), (.int (0 : Int32)), (.int (0 : Int32))] (.int (0 : Int32))) (ne_f_o1_value_o0 : f_o1_value ≠ o0) (F_o0_value : Fld Z h0 o0 "java/lang/String" "value" "[B" u_o0_value) :
    MetFree l (⟨"java/lang/String", "<init>", "(Ljava/lang/AbstractStringBuilder;Ljava/lang/Void;)V"⟩ : MethodName) (head1 (Jvm.Cond.code (⟨"java/lang/String", "<init>", "(Ljava/lang/AbstractStringBuilder;Ljava/lang/Void;)V"⟩ : MethodName) jdk_42_method_150_code 5 none :: ws) ({ frames := 3, cells := 1, slots := 2, locals := 63 } : Room)) (fun a U => a = #[(.ref o0), (.ref o1), .null] ∧ Z.Warmed39 U.vm ∧ U.heap = h0) (fun _ _ _ _ _ => True) (fun _ U o U' => ∃ v L, o = .returned v ∧ Q22_2 Z o0 o1 cb0 cb1 f_o1_value w_COMPACT_STRINGS u_o0_coder kv u_o0_value h0 n0 v U'.heap L ∧ FrameEnd U o U' L ({ frames := 3, cells := 1, slots := 2, locals := 63 } : Room).cells ({ frames := 3, cells := 1, slots := 2, locals := 63 } : Room).slots) := by
  refine MetFree.of_bodySF (plainFor_of_name pn_java_lang_String) hisR ?_
  intro p e s m args below meth c s₁ Bd hml0 hP hK
  obtain ⟨rfl, hZ, hh⟩ := hP
  have hx := Bd.exec
  have hby := Bd.bytes
  have hml : c.maxLocals = 5 := hml0
  have hown : s.vm.findClass "java/lang/String" = some m.cls := findClass_of_methodNamed Bd.named
  have hnm := (name_of_methodNamed Bd.named Bd.method).1
  have X0 : Stand p l e ({ frames := 3, cells := 1, slots := 2, locals := 63 } : Room) s m #[(.ref o0), (.ref o1), .null] below meth c s₁ [] 0 0 := Stand.of_body Bd
  have e0 : s₁.heap = h0 := by rw [← hh, Bd.state]; rfl
  have N0 := Fr.nil n0
  show Go p e below (fun o U' => ∃ v L, o = .returned v ∧ Q22_2 Z o0 o1 cb0 cb1 f_o1_value w_COMPACT_STRINGS u_o0_coder kv u_o0_value h0 n0 v U'.heap L ∧ FrameEnd s o U' L ({ frames := 3, cells := 1, slots := 2, locals := 63 } : Room).cells ({ frames := 3, cells := 1, slots := 2, locals := 63 } : Room).slots) (s₁.setTop (entryFrame m #[(.ref o0), (.ref o1), .null] 5))
  refine Go.of (fun _ k => castTop (ef_22n2 m o0 o1) k) ?_
  show Go p e below _ (s₁.setTop (mkF m 0 #[.val (.ref o0), .val (.ref o1), .val .null, .unset, .unset] []))
  refine Go.of (fun _ k => XS.aloadN X0.here hx rfl (hb hby d22_0) rfl rfl k) ?_
  show Go p e below _ (s₁.setTop (mkF m 1 #[.val (.ref o0), .val (.ref o1), .val .null, .unset, .unset] [(.ref o0)]))
  obtain ⟨T1, X1, e1, st1⟩ := initO X0 hx hZ hown (hw _ (List.mem_of_getElem? (i := 135) rfl)) (hw _ (List.mem_of_getElem? (i := 13) rfl)) (hw _ (List.mem_of_getElem? (i := 14) rfl)) e0 (g := (mkF m 1 #[.val (.ref o0), .val (.ref o1), .val .null, .unset, .unset] [(.ref o0)])) rfl (by rw [hml]; rfl) rfl (hb hby d22_1) (by decide) (W := 0) (by show 2 * 0 + _ ≤ _; exact Nat.le_of_eq rfl) (by decide)
  refine Go.of st1 ?_
  show Go p e below _ (T1.setTop (mkF m 4 #[.val (.ref o0), .val (.ref o1), .val .null, .unset, .unset] []))
  refine Go.of (fun _ k => XS.aloadN X1.here hx rfl (hb hby d22_4) rfl rfl k) ?_
  show Go p e below _ (T1.setTop (mkF m 5 #[.val (.ref o0), .val (.ref o1), .val .null, .unset, .unset] [(.ref o1)]))
  obtain ⟨cq2, kq2, q2a, q2b, q2c⟩ := isOf hZ e1 E_o1
  obtain ⟨_, _, ⟨T2, L2, k2, n2⟩, -, X2, ⟨Lc2, hQ2, l2, y2, z2⟩, st2⟩ := X1.virtualBack hx (y := (⟨"java/lang/AbstractStringBuilder", "getValue", "()[B"⟩ : MethodName)) (z := (⟨"java/lang/AbstractStringBuilder", "getValue", "()[B"⟩ : MethodName)) hown (mvT hZ (hw _ (List.mem_of_getElem? (i := 136) rfl))) (mvT hZ (hw _ (List.mem_of_getElem? (i := 137) rfl))) (notFace_of_selects (args := #[]) (mvT hZ (hw _ (List.mem_of_getElem? (i := 139) rfl)))) (mvT hZ (hw _ (List.mem_of_getElem? (i := 139) rfl))) (mvT hZ (hw _ (List.mem_of_getElem? (i := 138) rfl))) (by decide) (backOf (W := 0) (rm23 l Z a0 hw [] o1 f_o1_value h0 n0 Z0 F_o1_value) hZ (hw _ (List.mem_of_getElem? (i := 140) rfl)) (hw _ (List.mem_of_getElem? (i := 34) rfl)) (by decide) (by decide)) q2a q2c (g := (mkF m 5 #[.val (.ref o0), .val (.ref o1), .val .null, .unset, .unset] [(.ref o1)])) rfl (by rw [hml]; rfl) (Steps.refl _) (argsL := []) (rest := []) (lenOf pd_14 rfl) rfl (by show 2 * 0 + _ ≤ _; exact Nat.le_of_eq rfl) (hb hby d22_5) (fun _ _ => ⟨rfl, e1, (by decide : 0 + 0 ≤ _), (by decide : 0 + 0 ≤ _)⟩)
  dsimp only [Pt.U, Pt.locs, Pt.cells, Pt.slots] at X2 l2 y2 z2 st2 hQ2
  subst l2 y2 z2
  obtain ⟨rfl, Nq2, q2_0⟩ := hQ2
  have N2 := Fr.app N0 Nq2
  refine Go.tr st2 ?_
  show Go p e below _ (T2.setTop (mkF m 8 #[.val (.ref o0), .val (.ref o1), .val .null, .unset, .unset] [(.ref f_o1_value)]))
  refine Go.of (fun _ k => XS.astoreN X2.here hx rfl (hb hby d22_8) rfl rfl (l' := #[.val (.ref o0), .val (.ref o1), .val .null, .val (.ref f_o1_value), .unset]) rfl k) ?_
  show Go p e below _ (T2.setTop (mkF m 9 #[.val (.ref o0), .val (.ref o1), .val .null, .val (.ref f_o1_value), .unset] []))
  refine Go.of (fun _ k => XS.aloadN X2.here hx rfl (hb hby d22_9) rfl rfl k) ?_
  show Go p e below _ (T2.setTop (mkF m 10 #[.val (.ref o0), .val (.ref o1), .val .null, .val (.ref f_o1_value), .unset] [(.ref o1)]))
  obtain ⟨cq3, kq3, q3a, q3b, q3c⟩ := isOf hZ q2_0 E_o1
  obtain ⟨_, _, ⟨T3, L3, k3, n3⟩, -, X3, ⟨Lc3, hQ3, l3, y3, z3⟩, st3⟩ := X2.virtualBack hx (y := (⟨"java/lang/AbstractStringBuilder", "length", "()I"⟩ : MethodName)) (z := (⟨"java/lang/StringBuilder", "length", "()I"⟩ : MethodName)) hown (mvT hZ (hw _ (List.mem_of_getElem? (i := 141) rfl))) (mvT hZ (hw _ (List.mem_of_getElem? (i := 142) rfl))) (own_nf (args := #[]) (mvT hZ (hw _ (List.mem_of_getElem? (i := 63) rfl))) rfl) (mvT hZ (hw _ (List.mem_of_getElem? (i := 144) rfl))) (mvT hZ (hw _ (List.mem_of_getElem? (i := 145) rfl))) (by decide) (backOf (W := 0) (rm24 l Z a0 hw [] o1 (2 : Int32) h0 n0 Z0 F_o1_count E_o1) hZ (hw _ (List.mem_of_getElem? (i := 146) rfl)) (hw _ (List.mem_of_getElem? (i := 26) rfl)) (by decide) (by decide)) q3a q3c (g := (mkF m 10 #[.val (.ref o0), .val (.ref o1), .val .null, .val (.ref f_o1_value), .unset] [(.ref o1)])) rfl (by rw [hml]; rfl) (Steps.refl _) (argsL := []) (rest := []) (lenOf pd_8 rfl) rfl (by show 2 * 0 + _ ≤ _; exact Nat.le_of_eq rfl) (hb hby d22_10) (fun _ _ => ⟨rfl, q2_0, (by decide : 0 + 0 ≤ _), (by decide : 0 + 0 ≤ _)⟩)
  dsimp only [Pt.U, Pt.locs, Pt.cells, Pt.slots] at X3 l3 y3 z3 st3 hQ3
  subst l3 y3 z3
  obtain ⟨rfl, Nq3, q3_0⟩ := hQ3
  have N3 := Fr.app N2 Nq3
  refine Go.tr st3 ?_
  show Go p e below _ (T3.setTop (mkF m 13 #[.val (.ref o0), .val (.ref o1), .val .null, .val (.ref f_o1_value), .unset] [(.int (2 : Int32))]))
  refine Go.of (fun _ k => XS.istore X3.here hx rfl (hb hby d22_13) rfl (l' := #[.val (.ref o0), .val (.ref o1), .val .null, .val (.ref f_o1_value), .val (.int (2 : Int32))]) rfl k) ?_
  show Go p e below _ (T3.setTop (mkF m 15 #[.val (.ref o0), .val (.ref o1), .val .null, .val (.ref f_o1_value), .val (.int (2 : Int32))] []))
  refine Go.of (fun _ k => XS.aloadN X3.here hx rfl (hb hby d22_15) rfl rfl k) ?_
  show Go p e below _ (T3.setTop (mkF m 16 #[.val (.ref o0), .val (.ref o1), .val .null, .val (.ref f_o1_value), .val (.int (2 : Int32))] [(.ref o1)]))
  obtain ⟨cq4, kq4, q4a, q4b, q4c⟩ := isOf hZ q3_0 E_o1
  obtain ⟨_, _, ⟨T4, L4, k4, n4⟩, -, X4, ⟨Lc4, hQ4, l4, y4, z4⟩, st4⟩ := X3.virtualBack hx (y := (⟨"java/lang/AbstractStringBuilder", "isLatin1", "()Z"⟩ : MethodName)) (z := (⟨"java/lang/AbstractStringBuilder", "isLatin1", "()Z"⟩ : MethodName)) hown (mvT hZ (hw _ (List.mem_of_getElem? (i := 149) rfl))) (mvT hZ (hw _ (List.mem_of_getElem? (i := 66) rfl))) (notFace_of_selects (args := #[]) (mvT hZ (hw _ (List.mem_of_getElem? (i := 68) rfl)))) (mvT hZ (hw _ (List.mem_of_getElem? (i := 68) rfl))) (mvT hZ (hw _ (List.mem_of_getElem? (i := 67) rfl))) (by decide) (backOf (W := 0) (rm11 l Z a0 hw [] o1 w_COMPACT_STRINGS h0 n0 Z0 S_COMPACT_STRINGS hc3_4 F_o1_coder) hZ (hw _ (List.mem_of_getElem? (i := 69) rfl)) (hw _ (List.mem_of_getElem? (i := 34) rfl)) (by decide) (by decide)) q4a q4c (g := (mkF m 16 #[.val (.ref o0), .val (.ref o1), .val .null, .val (.ref f_o1_value), .val (.int (2 : Int32))] [(.ref o1)])) rfl (by rw [hml]; rfl) (Steps.refl _) (argsL := []) (rest := []) (lenOf pd_2 rfl) rfl (by show 2 * 0 + _ ≤ _; exact Nat.le_of_eq rfl) (hb hby d22_16) (fun _ _ => ⟨rfl, q3_0, (by decide : 0 + 0 ≤ _), (by decide : 0 + 0 ≤ _)⟩)
  dsimp only [Pt.U, Pt.locs, Pt.cells, Pt.slots] at X4 l4 y4 z4 st4 hQ4
  subst l4 y4 z4
  obtain ⟨rfl, Nq4, q4_0⟩ := hQ4
  have N4 := Fr.app N3 Nq4
  refine Go.tr st4 ?_
  show Go p e below _ (T4.setTop (mkF m 19 #[.val (.ref o0), .val (.ref o1), .val .null, .val (.ref f_o1_value), .val (.int (2 : Int32))] [(.int (1 : Int32))]))
  refine Go.of (fun _ k => XS.ifNo X4.here hx rfl (hb hby d22_19) rfl ((if0 _ _).trans (feq (by decide : ¬ ((1 : Int32) = (0 : Int32)))).1) k) ?_
  show Go p e below _ (T4.setTop (mkF m 22 #[.val (.ref o0), .val (.ref o1), .val .null, .val (.ref f_o1_value), .val (.int (2 : Int32))] []))
  refine Go.of (fun _ k => XS.aloadN X4.here hx rfl (hb hby d22_22) rfl rfl k) ?_
  show Go p e below _ (T4.setTop (mkF m 23 #[.val (.ref o0), .val (.ref o1), .val .null, .val (.ref f_o1_value), .val (.int (2 : Int32))] [(.ref o0)]))
  refine Go.of (fun _ k => XS.iconst X4.here hx rfl (hb hby d22_23) k) ?_
  show Go p e below _ (T4.setTop (mkF m 24 #[.val (.ref o0), .val (.ref o1), .val .null, .val (.ref f_o1_value), .val (.int (2 : Int32))] [(.int (0 : Int32)), (.ref o0)]))
  obtain ⟨T5, h5, X5, e5, W5, st5⟩ := putFN X4 hx hZ hown (hw _ (List.mem_of_getElem? (i := 101) rfl)) Via.refl q4_0 F_o0_coder E_o0 (Or.inr ⟨(hw _ (List.mem_of_getElem? (i := 77) rfl)), rfl, hnm⟩) (hw _ (List.mem_of_getElem? (i := 75) rfl)) (ty := .byte) (v' := .int (0 : Int32)) (by decide) rfl rfl (g := (mkF m 24 #[.val (.ref o0), .val (.ref o1), .val .null, .val (.ref f_o1_value), .val (.int (2 : Int32))] [(.int (0 : Int32)), (.ref o0)])) rfl rfl (hb hby d22_24)
  refine Go.of st5 ?_
  have N5 := Fr.snoc X5 N4 g_o0
  have K5 : Keep h0 h5 [o0] := ((Keep.refl h0 [o0])).wr W5 (Or.inl (List.mem_of_getElem? (i := 0) rfl))
  have Z5 : n0 ≤ h5.size := Nat.le_trans Z0 (Keep.of_wr W5).1
  have f6 : Fld Z h5 o0 "java/lang/String" "coder" "B" (.int (0 : Int32)) := Fld.same W5 F_o0_coder
  show Go p e below _ (T5.setTop (mkF m 27 #[.val (.ref o0), .val (.ref o1), .val .null, .val (.ref f_o1_value), .val (.int (2 : Int32))] []))
  refine Go.of (fun _ k => XS.aloadN X5.here hx rfl (hb hby d22_27) rfl rfl k) ?_
  show Go p e below _ (T5.setTop (mkF m 28 #[.val (.ref o0), .val (.ref o1), .val .null, .val (.ref f_o1_value), .val (.int (2 : Int32))] [(.ref o0)]))
  refine Go.of (fun _ k => XS.aloadN X5.here hx rfl (hb hby d22_28) rfl rfl k) ?_
  show Go p e below _ (T5.setTop (mkF m 29 #[.val (.ref o0), .val (.ref o1), .val .null, .val (.ref f_o1_value), .val (.int (2 : Int32))] [(.ref f_o1_value), (.ref o0)]))
  refine Go.of (fun _ k => XS.iconst X5.here hx rfl (hb hby d22_29) k) ?_
  show Go p e below _ (T5.setTop (mkF m 30 #[.val (.ref o0), .val (.ref o1), .val .null, .val (.ref f_o1_value), .val (.int (2 : Int32))] [(.int (0 : Int32)), (.ref f_o1_value), (.ref o0)]))
  refine Go.of (fun _ k => XS.iload X5.here hx rfl (hb hby d22_30) rfl  k) ?_
  show Go p e below _ (T5.setTop (mkF m 32 #[.val (.ref o0), .val (.ref o1), .val .null, .val (.ref f_o1_value), .val (.int (2 : Int32))] [(.int (2 : Int32)), (.int (0 : Int32)), (.ref f_o1_value), (.ref o0)]))
  have c8 : Arv Z h5 f_o1_value kv .byte (16 : Int32) [(.int cb0), (.int cb1), (.int (0 : Int32)), (.int (0 : Int32)), (.int (0 : Int32)), (.int (0 : Int32)), (.int (0 : Int32)), (.int (0 : Int32)), (.int (0 : Int32)), (.int (0 : Int32)), (.int (0 : Int32)), (.int (0 : Int32)), (.int (0 : Int32)), (.int (0 : Int32)), (.int (0 : Int32)), (.int (0 : Int32))] (.int (0 : Int32)) := (V_f_o1_value.other W5 ne_f_o1_value_o0)
  obtain ⟨_, _, ⟨T7, L7, k7, n7⟩, -, X7, ⟨Lc7, hQ7, l7, y7, z7⟩, st7⟩ := Jvm.LawKit.callS X5 hx (y := (⟨"java/util/Arrays", "copyOfRange", "([BII)[B"⟩ : MethodName)) hown (mvT hZ (hw _ (List.mem_of_getElem? (i := 150) rfl))) (mvT hZ (hw _ (List.mem_of_getElem? (i := 151) rfl))) (mvT hZ (hw _ (List.mem_of_getElem? (i := 152) rfl))) (mvT hZ (hw _ (List.mem_of_getElem? (i := 153) rfl))) (by decide) (backOf (W := 1) (rm26_2 l Z a0 hw [] f_o1_value cb0 cb1 kv h5 n0 Z5 c8) hZ (hw _ (List.mem_of_getElem? (i := 153) rfl)) (hw _ (List.mem_of_getElem? (i := 152) rfl)) (by decide) (by decide)) (g := (mkF m 32 #[.val (.ref o0), .val (.ref o1), .val .null, .val (.ref f_o1_value), .val (.int (2 : Int32))] [(.int (2 : Int32)), (.int (0 : Int32)), (.ref f_o1_value), (.ref o0)])) rfl (by rw [hml]; rfl) (argsL := [(.ref f_o1_value), (.int (0 : Int32)), (.int (2 : Int32))]) (rest := [(.ref o0)]) (lenOf pd_13 rfl) rfl (by show 2 * 0 + _ ≤ _; exact Nat.le_of_eq rfl) (hb hby d22_32) (fun _ _ => ⟨rfl, e5, (by decide : 0 + 1 ≤ _), (by decide : 0 + 2 ≤ _)⟩)
  dsimp only [Pt.U, Pt.locs, Pt.cells, Pt.slots] at X7 l7 y7 z7 st7 hQ7
  subst l7 y7 z7
  obtain ⟨r_7, rk1_7, rfl, Nq7, q7_0, q7_1, q7_2⟩ := hQ7
  have N7 := Fr.app N5 Nq7
  refine Go.of st7 ?_
  have K7 : Keep h0 T7.heap [o0] := (K5).trans q7_0 all0
  have Z7 : n0 ≤ T7.heap.size := Nat.le_trans Z5 q7_0.1
  have g_r_7 : n0 ≤ r_7 := q7_1.2
  have sz_r_7 : h0.size ≤ r_7 := Nat.le_trans (K5).1 q7_1.1
  show Go p e below _ (T7.setTop (mkF m 35 #[.val (.ref o0), .val (.ref o1), .val .null, .val (.ref f_o1_value), .val (.int (2 : Int32))] [(.ref r_7), (.ref o0)]))
  have c9 : Fld Z h5 o0 "java/lang/String" "value" "[B" u_o0_value := (Fld.other W5 F_o0_value (Or.inr (slot_ne (Or.inr (hw _ (List.mem_of_getElem? (i := 76) rfl))) (Or.inr (hw _ (List.mem_of_getElem? (i := 77) rfl))) (by decide) (t := (.array .byte)) (t' := .byte) (by decide) (by decide))))
  have c10 : Fld Z T7.heap o0 "java/lang/String" "value" "[B" u_o0_value := (c9.keep q7_0 nin0)
  have c11 : Exa Z h5 o0 "java/lang/String" := (Exa.wr W5 E_o0)
  have c12 : Exa Z T7.heap o0 "java/lang/String" := (c11.keep q7_0)
  obtain ⟨T13, h13, X13, e13, W13, st13⟩ := putF X7 hx hZ hown (host := "") (Or.inl (hw _ (List.mem_of_getElem? (i := 94) rfl))) Via.refl rfl c10 c12 (Or.inr ⟨(hw _ (List.mem_of_getElem? (i := 76) rfl)), rfl, hnm⟩) (hw _ (List.mem_of_getElem? (i := 75) rfl)) (ty := (.array .byte)) (by decide) rfl rfl (g := (mkF m 35 #[.val (.ref o0), .val (.ref o1), .val .null, .val (.ref f_o1_value), .val (.int (2 : Int32))] [(.ref r_7), (.ref o0)])) rfl rfl (hb hby d22_35)
  refine Go.of st13 ?_
  have N13 := Fr.snoc X13 N7 g_o0
  have K13 : Keep h0 h13 [o0] := (K7).wr W13 (Or.inl (List.mem_of_getElem? (i := 0) rfl))
  have Z13 : n0 ≤ h13.size := Nat.le_trans Z7 (Keep.of_wr W13).1
  have f14 : Fld Z h13 o0 "java/lang/String" "value" "[B" (.ref r_7) := Fld.same W13 c10
  show Go p e below _ (T13.setTop (mkF m 38 #[.val (.ref o0), .val (.ref o1), .val .null, .val (.ref f_o1_value), .val (.int (2 : Int32))] []))
  refine Go.of (fun _ k => XS.goto X13.here hx rfl (pc0 := 38) (pc' := 97) rfl (hb hby d22_38) (by decide) (by decide) k) ?_
  show Go p e below _ (T13.setTop (mkF m 97 #[.val (.ref o0), .val (.ref o1), .val .null, .val (.ref f_o1_value), .val (.int (2 : Int32))] []))
  have c16 : Exa Z h13 o0 "java/lang/String" := (Exa.wr W13 c12)
  have c17 : Fld Z T7.heap o0 "java/lang/String" "coder" "B" (.int (0 : Int32)) := (f6.keep q7_0 nin0)
  have c18 : Fld Z h13 o0 "java/lang/String" "coder" "B" (.int (0 : Int32)) := (Fld.other W13 c17 (Or.inr (slot_ne (Or.inr (hw _ (List.mem_of_getElem? (i := 77) rfl))) (Or.inr (hw _ (List.mem_of_getElem? (i := 76) rfl))) (by decide) (t := .byte) (t' := (.array .byte)) (by decide) (by decide))))
  have c19 : Arv Z h13 r_7 rk1_7 .byte (2 : Int32) [(.int cb0), (.int cb1)] (.int (0 : Int32)) := (q7_2.other W13 (Ne.symm (Nat.ne_of_lt (Nat.lt_of_lt_of_le c11.lt q7_1.1))))
  obtain ⟨fs, hr, hrun, hended, hW, hsame⟩ := X13.leave (v := none) (fun _ => rfl)
  refine Go.mk _ _ ?_ hrun hended ⟨_, _, rfl, ?_, ⟨_, rfl⟩, hW, hsame.mono (by decide) (by decide)⟩
  · exact X13.returnOut hx Bd.returns (hb hby d22_97) hr
  · show Q22_2 Z o0 o1 cb0 cb1 f_o1_value w_COMPACT_STRINGS u_o0_coder kv u_o0_value h0 n0 _ T13.heap _
    rw [e13]
    exact ⟨r_7, rk1_7, rfl, N13, K13, c16, c18, f14, ⟨sz_r_7, g_r_7⟩, c19⟩
theorem d21_0 : decode jdk_42_method_53_code 0 = .ok (.aload_n 0, 1) := by decide +kernel
theorem d21_1 : decode jdk_42_method_53_code 1 = .ok (.aload_n 1, 1) := by decide +kernel
theorem d21_2 : decode jdk_42_method_53_code 2 = .ok (.aconst_null, 1) := by decide +kernel
theorem d21_3 : decode jdk_42_method_53_code 3 = .ok (.invokespecial 489, 3) := by decide +kernel
theorem pd_15 : parseMethodDescriptor "(Ljava/lang/AbstractStringBuilder;Ljava/lang/Void;)V" = some ⟨[(.object "java/lang/AbstractStringBuilder"), (.object "java/lang/Void")], none⟩ := by decide +kernel
theorem d21_6 : decode jdk_42_method_53_code 6 = .ok (.return_, 1) := by decide +kernel
theorem ef_21 (m : MethodId) (x0 : Addr) (x1 : Addr) : entryFrame m #[(.ref x0), (.ref x1)] 2 = mkF m 0 #[.val (.ref x0), .val (.ref x1)] [] := by first | (simp [entryFrame, mkF, argsToLocals, Value.category]; done) | rfl
def Q21_2 (Z : State) (o0 : Addr) (o1 : Addr) (cb0 : Int32) (cb1 : Int32) (f_o1_value : Addr) (w_COMPACT_STRINGS : Int32) (u_o0_coder : Value) (kv : ClassId) (u_o0_value : Value) (h0 : Heap) (n0 : Nat) (v : Option Value) (h : Heap) (L : List Loc) : Prop := ∃ r0 : Addr, ∃ rk1 : ClassId, v = none ∧ Fr n0 L ∧ Keep h0 h [o0] ∧ Exa Z h o0 "java/lang/String" ∧ Fld Z h o0 "java/lang/String" "coder" "B" (.int (0 : Int32)) ∧ Fld Z h o0 "java/lang/String" "value" "[B" (.ref r0) ∧ (h0.size ≤ r0 ∧ n0 ≤ r0) ∧ Arv Z h r0 rk1 .byte (2 : Int32) [(.int cb0), (.int cb1)] (.int (0 : Int32))
set_option maxRecDepth 65536 in
set_option maxHeartbeats 40000000 in
theorem rm21_2 (l : Launch) (Z : State) (a0 : Array Value) (hw : ∀ d ∈ tables_1, d.before a0 Z = true) (ws : List Jvm.Cond) (o0 : Addr) (o1 : Addr) (cb0 : Int32) (cb1 : Int32) (f_o1_value : Addr) (w_COMPACT_STRINGS : Int32) (u_o0_coder : Value) (kv : ClassId) (u_o0_value : Value) (h0 : Heap) (n0 : Nat) (Z0 : n0 ≤ h0.size) (F_o1_value : Fld Z h0 o1 "java/lang/AbstractStringBuilder" "value" "[B" (.ref f_o1_value)) (E_o1 : Exa Z h0 o1 "java/lang/StringBuilder") (F_o1_count : Fld Z h0 o1 "java/lang/AbstractStringBuilder" "count" "I" (.int (2 : Int32))) (S_COMPACT_STRINGS : Sta Z h0 "java/lang/String" "COMPACT_STRINGS" "Z" (.int w_COMPACT_STRINGS)) (hc3_4_1 : ¬ (w_COMPACT_STRINGS = (0 : Int32))) (F_o1_coder : Fld Z h0 o1 "java/lang/AbstractStringBuilder" "coder" "B" (.int (0 : Int32))) (E_o0 : Exa Z h0 o0 "java/lang/String") (F_o0_coder : Fld Z h0 o0 "java/lang/String" "coder" "B" u_o0_coder) (g_o0 : n0 ≤ o0) (V_f_o1_value : Arv Z h0 f_o1_value kv .byte (16 : Int32) [(.int cb0), (.int cb1), (.int (0 : Int32)), (.int (0 : Int32)), (.int (0 : Int32)), (.int (0 : Int32)), (.int (0 : Int32)), (.int (0 : Int32)), (.int (0 : Int32)), (.int (0 : Int32)), (.int (0 : Int32)), (.int (0 : Int32)), (.int (0 : Int32)), (.int (0 : Int32)), (.int (0 : Int32)), (.int (0 : Int32))] (.int (0 : Int32))) (ne_f_o1_value_o0 : f_o1_value ≠ o0) (F_o0_value : Fld Z h0 o0 "java/lang/String" "value" "[B" u_o0_value) :
    MetFree l (⟨"java/lang/String", "<init>", "(Ljava/lang/StringBuilder;)V"⟩ : MethodName) (head1 (Jvm.Cond.code (⟨"java/lang/String", "<init>", "(Ljava/lang/StringBuilder;)V"⟩ : MethodName) jdk_42_method_53_code 2 none :: ws) ({ frames := 4, cells := 1, slots := 2, locals := 79 } : Room)) (fun a U => a = #[(.ref o0), (.ref o1)] ∧ Z.Warmed39 U.vm ∧ U.heap = h0) (fun _ _ _ _ _ => True) (fun _ U o U' => ∃ v L, o = .returned v ∧ Q21_2 Z o0 o1 cb0 cb1 f_o1_value w_COMPACT_STRINGS u_o0_coder kv u_o0_value h0 n0 v U'.heap L ∧ FrameEnd U o U' L ({ frames := 4, cells := 1, slots := 2, locals := 79 } : Room).cells ({ frames := 4, cells := 1, slots := 2, locals := 79 } : Room).slots) := by
  refine MetFree.of_bodySF (plainFor_of_name pn_java_lang_String) hisR ?_
  intro p e s m args below meth c s₁ Bd hml0 hP hK
  obtain ⟨rfl, hZ, hh⟩ := hP
  have hx := Bd.exec
  have hby := Bd.bytes
  have hml : c.maxLocals = 2 := hml0
  have hown : s.vm.findClass "java/lang/String" = some m.cls := findClass_of_methodNamed Bd.named
  have hnm := (name_of_methodNamed Bd.named Bd.method).1
  have X0 : Stand p l e ({ frames := 4, cells := 1, slots := 2, locals := 79 } : Room) s m #[(.ref o0), (.ref o1)] below meth c s₁ [] 0 0 := Stand.of_body Bd
  have e0 : s₁.heap = h0 := by rw [← hh, Bd.state]; rfl
  have N0 := Fr.nil n0
  show Go p e below (fun o U' => ∃ v L, o = .returned v ∧ Q21_2 Z o0 o1 cb0 cb1 f_o1_value w_COMPACT_STRINGS u_o0_coder kv u_o0_value h0 n0 v U'.heap L ∧ FrameEnd s o U' L ({ frames := 4, cells := 1, slots := 2, locals := 79 } : Room).cells ({ frames := 4, cells := 1, slots := 2, locals := 79 } : Room).slots) (s₁.setTop (entryFrame m #[(.ref o0), (.ref o1)] 2))
  refine Go.of (fun _ k => castTop (ef_21 m o0 o1) k) ?_
  show Go p e below _ (s₁.setTop (mkF m 0 #[.val (.ref o0), .val (.ref o1)] []))
  refine Go.of (fun _ k => XS.aloadN X0.here hx rfl (hb hby d21_0) rfl rfl k) ?_
  show Go p e below _ (s₁.setTop (mkF m 1 #[.val (.ref o0), .val (.ref o1)] [(.ref o0)]))
  refine Go.of (fun _ k => XS.aloadN X0.here hx rfl (hb hby d21_1) rfl rfl k) ?_
  show Go p e below _ (s₁.setTop (mkF m 2 #[.val (.ref o0), .val (.ref o1)] [(.ref o1), (.ref o0)]))
  refine Go.of (fun _ k => XS.aconstNull X0.here hx rfl (hb hby d21_2) k) ?_
  show Go p e below _ (s₁.setTop (mkF m 3 #[.val (.ref o0), .val (.ref o1)] [.null, (.ref o1), (.ref o0)]))
  obtain ⟨_, _, ⟨T1, L1, k1, n1⟩, -, X1, ⟨Lc1, hQ1, l1, y1, z1⟩, st1⟩ := X0.specialBack hx (y := (⟨"java/lang/String", "<init>", "(Ljava/lang/AbstractStringBuilder;Ljava/lang/Void;)V"⟩ : MethodName)) rfl hown (mvT hZ (hw _ (List.mem_of_getElem? (i := 132) rfl))) (mvT hZ (hw _ (List.mem_of_getElem? (i := 133) rfl))) (mvT hZ (hw _ (List.mem_of_getElem? (i := 134) rfl))) (by decide) (backOf (W := 0) (rm22_2 l Z a0 hw [] o0 o1 cb0 cb1 f_o1_value w_COMPACT_STRINGS u_o0_coder kv u_o0_value h0 n0 Z0 F_o1_value E_o1 F_o1_count S_COMPACT_STRINGS hc3_4_1 F_o1_coder E_o0 F_o0_coder g_o0 V_f_o1_value ne_f_o1_value_o0 F_o0_value) hZ (hw _ (List.mem_of_getElem? (i := 134) rfl)) (hw _ (List.mem_of_getElem? (i := 38) rfl)) (by decide) (by decide)) (g := (mkF m 3 #[.val (.ref o0), .val (.ref o1)] [.null, (.ref o1), (.ref o0)])) rfl (by rw [hml]; rfl) (Steps.refl _) (a := o0) (argsL := [(.ref o1), .null]) (rest := []) (lenOf pd_15 rfl) rfl (by show 2 * 0 + _ ≤ _; exact Nat.le_of_eq rfl) (hb hby d21_3) (fun _ _ => ⟨rfl, e0, (by decide : 0 + 1 ≤ _), (by decide : 0 + 2 ≤ _)⟩)
  dsimp only [Pt.U, Pt.locs, Pt.cells, Pt.slots] at X1 l1 y1 z1 st1 hQ1
  subst l1 y1 z1
  obtain ⟨r0_1, rk1_1, rfl, Nq1, q1_0, q1_1, q1_2, q1_3, q1_4, q1_5⟩ := hQ1
  have N1 := Fr.app N0 Nq1
  refine Go.tr st1 ?_
  have K1 : Keep h0 T1.heap [o0] := ((Keep.refl h0 [o0])).trans q1_0 (allS (Or.inl (List.mem_of_getElem? (i := 0) rfl)) all0)
  have Z1 : n0 ≤ T1.heap.size := Nat.le_trans Z0 q1_0.1
  have g_r0_1 : n0 ≤ r0_1 := q1_4.2
  have sz_r0_1 : h0.size ≤ r0_1 := Nat.le_trans ((Keep.refl h0 [o0])).1 q1_4.1
  show Go p e below _ (T1.setTop (mkF m 6 #[.val (.ref o0), .val (.ref o1)] []))
  obtain ⟨fs, hr, hrun, hended, hW, hsame⟩ := X1.leave (v := none) (fun _ => rfl)
  refine Go.mk _ _ ?_ hrun hended ⟨_, _, rfl, ?_, ⟨_, rfl⟩, hW, hsame.mono (by decide) (by decide)⟩
  · exact X1.returnOut hx Bd.returns (hb hby d21_6) hr
  · show Q21_2 Z o0 o1 cb0 cb1 f_o1_value w_COMPACT_STRINGS u_o0_coder kv u_o0_value h0 n0 _ T1.heap _
    exact ⟨r0_1, rk1_1, rfl, N1, K1, q1_1, q1_2, q1_3, ⟨sz_r0_1, g_r0_1⟩, q1_5⟩
theorem d20_0 : decode jdk_67_method_42_code 0 = .ok (.new 18, 3) := by decide +kernel
theorem d20_3 : decode jdk_67_method_42_code 3 = .ok (.dup, 1) := by decide +kernel
theorem d20_4 : decode jdk_67_method_42_code 4 = .ok (.aload_n 0, 1) := by decide +kernel
theorem d20_5 : decode jdk_67_method_42_code 5 = .ok (.invokespecial 137, 3) := by decide +kernel
theorem pd_16 : parseMethodDescriptor "(Ljava/lang/StringBuilder;)V" = some ⟨[(.object "java/lang/StringBuilder")], none⟩ := by decide +kernel
theorem d20_8 : decode jdk_67_method_42_code 8 = .ok (.areturn, 1) := by decide +kernel
theorem ef_20 (m : MethodId) (x0 : Addr) : entryFrame m #[(.ref x0)] 1 = mkF m 0 #[.val (.ref x0)] [] := by first | (simp [entryFrame, mkF, argsToLocals, Value.category]; done) | rfl
def Q20_2 (Z : State) (o0 : Addr) (cb0 : Int32) (cb1 : Int32) (f_o0_value : Addr) (w_COMPACT_STRINGS : Int32) (kv : ClassId) (h0 : Heap) (n0 : Nat) (v : Option Value) (h : Heap) (L : List Loc) : Prop := ∃ r : Addr, ∃ r1 : Addr, ∃ rk2 : ClassId, v = some (.ref r) ∧ Fr n0 L ∧ Keep h0 h [] ∧ (h0.size ≤ r ∧ n0 ≤ r) ∧ Exa Z h r "java/lang/String" ∧ Fld Z h r "java/lang/String" "coder" "B" (.int (0 : Int32)) ∧ Fld Z h r "java/lang/String" "value" "[B" (.ref r1) ∧ (h0.size ≤ r1 ∧ n0 ≤ r1) ∧ Arv Z h r1 rk2 .byte (2 : Int32) [(.int cb0), (.int cb1)] (.int (0 : Int32))
set_option maxRecDepth 65536 in
set_option maxHeartbeats 40000000 in
theorem rm20_2 (l : Launch) (Z : State) (a0 : Array Value) (hw : ∀ d ∈ tables_1, d.before a0 Z = true) (ws : List Jvm.Cond) (o0 : Addr) (cb0 : Int32) (cb1 : Int32) (f_o0_value : Addr) (w_COMPACT_STRINGS : Int32) (kv : ClassId) (h0 : Heap) (n0 : Nat) (Z0 : n0 ≤ h0.size) (F_o0_value : Fld Z h0 o0 "java/lang/AbstractStringBuilder" "value" "[B" (.ref f_o0_value)) (E_o0 : Exa Z h0 o0 "java/lang/StringBuilder") (F_o0_count : Fld Z h0 o0 "java/lang/AbstractStringBuilder" "count" "I" (.int (2 : Int32))) (S_COMPACT_STRINGS : Sta Z h0 "java/lang/String" "COMPACT_STRINGS" "Z" (.int w_COMPACT_STRINGS)) (hc3_4_1_4 : ¬ (w_COMPACT_STRINGS = (0 : Int32))) (F_o0_coder : Fld Z h0 o0 "java/lang/AbstractStringBuilder" "coder" "B" (.int (0 : Int32))) (V_f_o0_value : Arv Z h0 f_o0_value kv .byte (16 : Int32) [(.int cb0), (.int cb1), (.int (0 : Int32)), (.int (0 : Int32)), (.int (0 : Int32)), (.int (0 : Int32)), (.int (0 : Int32)), (.int (0 : Int32)), (.int (0 : Int32)), (.int (0 : Int32)), (.int (0 : Int32)), (.int (0 : Int32)), (.int (0 : Int32)), (.int (0 : Int32)), (.int (0 : Int32)), (.int (0 : Int32))] (.int (0 : Int32))) :
    MetFree l (⟨"java/lang/StringBuilder", "toString", "()Ljava/lang/String;"⟩ : MethodName) (head1 (Jvm.Cond.code (⟨"java/lang/StringBuilder", "toString", "()Ljava/lang/String;"⟩ : MethodName) jdk_67_method_42_code 1 (some (.object "java/lang/String")) :: ws) ({ frames := 5, cells := 2, slots := 6, locals := 93 } : Room)) (fun a U => a = #[(.ref o0)] ∧ Z.Warmed39 U.vm ∧ U.heap = h0) (fun _ _ _ _ _ => True) (fun _ U o U' => ∃ v L, o = .returned v ∧ Q20_2 Z o0 cb0 cb1 f_o0_value w_COMPACT_STRINGS kv h0 n0 v U'.heap L ∧ FrameEnd U o U' L ({ frames := 5, cells := 2, slots := 6, locals := 93 } : Room).cells ({ frames := 5, cells := 2, slots := 6, locals := 93 } : Room).slots) := by
  refine MetFree.of_bodySF (plainFor_of_name pn_java_lang_StringBuilder) hisR ?_
  intro p e s m args below meth c s₁ Bd hml0 hP hK
  obtain ⟨rfl, hZ, hh⟩ := hP
  have hx := Bd.exec
  have hby := Bd.bytes
  have hml : c.maxLocals = 1 := hml0
  have hown : s.vm.findClass "java/lang/StringBuilder" = some m.cls := findClass_of_methodNamed Bd.named
  have hnm := (name_of_methodNamed Bd.named Bd.method).1
  have X0 : Stand p l e ({ frames := 5, cells := 2, slots := 6, locals := 93 } : Room) s m #[(.ref o0)] below meth c s₁ [] 0 0 := Stand.of_body Bd
  have e0 : s₁.heap = h0 := by rw [← hh, Bd.state]; rfl
  have N0 := Fr.nil n0
  show Go p e below (fun o U' => ∃ v L, o = .returned v ∧ Q20_2 Z o0 cb0 cb1 f_o0_value w_COMPACT_STRINGS kv h0 n0 v U'.heap L ∧ FrameEnd s o U' L ({ frames := 5, cells := 2, slots := 6, locals := 93 } : Room).cells ({ frames := 5, cells := 2, slots := 6, locals := 93 } : Room).slots) (s₁.setTop (entryFrame m #[(.ref o0)] 1))
  refine Go.of (fun _ k => castTop (ef_20 m o0) k) ?_
  show Go p e below _ (s₁.setTop (mkF m 0 #[.val (.ref o0)] []))
  obtain ⟨T1, h1, X1, e1, E1, A1, D1, -, st1⟩ := newO X0 hx hZ hown (hw _ (List.mem_of_getElem? (i := 127) rfl)) (hw _ (List.mem_of_getElem? (i := 75) rfl)) (hw _ (List.mem_of_getElem? (i := 38) rfl)) e0 (g := (mkF m 0 #[.val (.ref o0)] [])) rfl (hb hby d20_0) (by decide) (by decide)
  obtain ⟨ob1, g1⟩ : ∃ z, z = h0.size := ⟨_, rfl⟩
  rw [← g1] at A1 D1 st1
  refine Go.of st1 ?_
  have g_ob1 : n0 ≤ ob1 := Nat.le_trans Z0 (Nat.le_of_eq g1.symm)
  have sz_ob1 : h0.size ≤ ob1 := Nat.le_trans ((Keep.refl h0 [])).1 (Nat.le_of_eq g1.symm)
  have K1 : Keep h0 h1 [] := ((Keep.refl h0 [])).ext E1
  have Z1 : n0 ≤ h1.size := Nat.le_trans Z0 E1.1
  have f2 : Fld Z h1 ob1 "java/lang/String" "value" "[B" .null := D1 (Or.inr (hw _ (List.mem_of_getElem? (i := 76) rfl))) (ty := (.array .byte)) (by decide)
  have f3 : Fld Z h1 ob1 "java/lang/String" "coder" "B" (.int (0 : Int32)) := D1 (Or.inr (hw _ (List.mem_of_getElem? (i := 77) rfl))) (ty := .byte) (by decide)
  show Go p e below _ (T1.setTop (mkF m 3 #[.val (.ref o0)] [(.ref ob1)]))
  refine Go.of (fun _ k => XS.dup X1.here hx rfl (hb hby d20_3) rfl rfl k) ?_
  show Go p e below _ (T1.setTop (mkF m 4 #[.val (.ref o0)] [(.ref ob1), (.ref ob1)]))
  refine Go.of (fun _ k => XS.aloadN X1.here hx rfl (hb hby d20_4) rfl rfl k) ?_
  show Go p e below _ (T1.setTop (mkF m 5 #[.val (.ref o0)] [(.ref o0), (.ref ob1), (.ref ob1)]))
  have c5 : Fld Z h1 o0 "java/lang/AbstractStringBuilder" "value" "[B" (.ref f_o0_value) := (Fld.ext E1 F_o0_value)
  have c6 : Exa Z h1 o0 "java/lang/StringBuilder" := (Exa.ext E1 E_o0)
  have c7 : Fld Z h1 o0 "java/lang/AbstractStringBuilder" "count" "I" (.int (2 : Int32)) := (Fld.ext E1 F_o0_count)
  have c8 : Sta Z h1 "java/lang/String" "COMPACT_STRINGS" "Z" (.int w_COMPACT_STRINGS) := (Sta.ext E1 S_COMPACT_STRINGS)
  have c9 : Fld Z h1 o0 "java/lang/AbstractStringBuilder" "coder" "B" (.int (0 : Int32)) := (Fld.ext E1 F_o0_coder)
  have c10 : Arv Z h1 f_o0_value kv .byte (16 : Int32) [(.int cb0), (.int cb1), (.int (0 : Int32)), (.int (0 : Int32)), (.int (0 : Int32)), (.int (0 : Int32)), (.int (0 : Int32)), (.int (0 : Int32)), (.int (0 : Int32)), (.int (0 : Int32)), (.int (0 : Int32)), (.int (0 : Int32)), (.int (0 : Int32)), (.int (0 : Int32)), (.int (0 : Int32)), (.int (0 : Int32))] (.int (0 : Int32)) := (V_f_o0_value.ext E1)
  obtain ⟨_, _, ⟨T4, L4, k4, n4⟩, -, X4, ⟨Lc4, hQ4, l4, y4, z4⟩, st4⟩ := X1.specialBack hx (y := (⟨"java/lang/String", "<init>", "(Ljava/lang/StringBuilder;)V"⟩ : MethodName)) rfl hown (mvT hZ (hw _ (List.mem_of_getElem? (i := 128) rfl))) (mvT hZ (hw _ (List.mem_of_getElem? (i := 129) rfl))) (mvT hZ (hw _ (List.mem_of_getElem? (i := 131) rfl))) (by decide) (backOf (W := 1) (rm21_2 l Z a0 hw [] ob1 o0 cb0 cb1 f_o0_value w_COMPACT_STRINGS (.int (0 : Int32)) kv .null h1 n0 Z1 c5 c6 c7 c8 hc3_4_1_4 c9 A1 f3 g_ob1 c10 (Nat.ne_of_lt (Nat.lt_of_lt_of_le V_f_o0_value.lt (Nat.le_of_eq g1.symm))) f2) hZ (hw _ (List.mem_of_getElem? (i := 131) rfl)) (hw _ (List.mem_of_getElem? (i := 38) rfl)) (by decide) (by decide)) (g := (mkF m 5 #[.val (.ref o0)] [(.ref o0), (.ref ob1), (.ref ob1)])) rfl (by rw [hml]; rfl) (Steps.refl _) (a := ob1) (argsL := [(.ref o0)]) (rest := [(.ref ob1)]) (lenOf pd_16 rfl) rfl (by show 2 * 0 + _ ≤ _; exact Nat.le_of_eq rfl) (hb hby d20_5) (fun _ _ => ⟨rfl, e1, (by decide : 1 + 1 ≤ _), (by decide : 4 + 2 ≤ _)⟩)
  dsimp only [Pt.U, Pt.locs, Pt.cells, Pt.slots] at X4 l4 y4 z4 st4 hQ4
  subst l4 y4 z4
  obtain ⟨r0_4, rk1_4, rfl, Nq4, q4_0, q4_1, q4_2, q4_3, q4_4, q4_5⟩ := hQ4
  have N4 := Fr.app N0 Nq4
  refine Go.tr st4 ?_
  have K4 : Keep h0 T4.heap [] := (K1).trans q4_0 (allS (Or.inr sz_ob1) all0)
  have Z4 : n0 ≤ T4.heap.size := Nat.le_trans Z1 q4_0.1
  have g_r0_4 : n0 ≤ r0_4 := q4_4.2
  have sz_r0_4 : h0.size ≤ r0_4 := Nat.le_trans (K1).1 q4_4.1
  show Go p e below _ (T4.setTop (mkF m 8 #[.val (.ref o0)] [(.ref ob1)]))
  obtain ⟨fs, hr, hrun, hended, hW, hsame⟩ := X4.leave (v := some (.ref ob1)) (fun h => by rw [Bd.returns] at h; cases h)
  refine Go.mk _ _ ?_ hrun hended ⟨_, _, rfl, ?_, ⟨_, rfl⟩, hW, hsame.mono (by decide) (by decide)⟩
  · exact retOut X4 hx Bd.returns rfl (Or.inr (Or.inr (Or.inr (Or.inr ⟨rfl, rfl, rfl⟩)))) (hb hby d20_8) hr
  · show Q20_2 Z o0 cb0 cb1 f_o0_value w_COMPACT_STRINGS kv h0 n0 _ T4.heap _
    exact ⟨ob1, r0_4, rk1_4, rfl, N4, K4, ⟨sz_ob1, g_ob1⟩, q4_1, q4_2, q4_3, ⟨sz_r0_4, g_r0_4⟩, q4_5⟩
theorem ef_28l1_0l2_3 (m : MethodId)  : entryFrame m #[(.int (0 : Int32)), (.int (3 : Int32))] 2 = mkF m 0 #[.val (.int (0 : Int32)), .val (.int (3 : Int32))] [] := by first | (simp [entryFrame, mkF, argsToLocals, Value.category]; done) | rfl
def Q28_3 (Z : State)  (h0 : Heap) (n0 : Nat) (v : Option Value) (h : Heap) (L : List Loc) : Prop := v = none ∧ Fr n0 L ∧ h = h0
set_option maxRecDepth 65536 in
set_option maxHeartbeats 40000000 in
theorem rm28_3 (l : Launch) (Z : State) (a0 : Array Value) (hw : ∀ d ∈ tables_1, d.before a0 Z = true) (ws : List Jvm.Cond)  (h0 : Heap) (n0 : Nat) (Z0 : n0 ≤ h0.size) :
    MetFree l (⟨"java/util/Arrays", "checkLength", "(II)V"⟩ : MethodName) (head1 (Jvm.Cond.code (⟨"java/util/Arrays", "checkLength", "(II)V"⟩ : MethodName) jdk_65_method_131_code 2 none :: ws) ({ frames := 0, cells := 0, slots := 0, locals := 0 } : Room)) (fun a U => a = #[(.int (0 : Int32)), (.int (3 : Int32))] ∧ Z.Warmed39 U.vm ∧ U.heap = h0) (fun _ _ _ _ _ => True) (fun _ U o U' => ∃ v L, o = .returned v ∧ Q28_3 Z  h0 n0 v U'.heap L ∧ FrameEnd U o U' L ({ frames := 0, cells := 0, slots := 0, locals := 0 } : Room).cells ({ frames := 0, cells := 0, slots := 0, locals := 0 } : Room).slots) := by
  refine MetFree.of_bodySF (plainFor_of_name pn_java_util_Arrays) hisR ?_
  intro p e s m args below meth c s₁ Bd hml0 hP hK
  obtain ⟨rfl, hZ, hh⟩ := hP
  have hx := Bd.exec
  have hby := Bd.bytes
  have hml : c.maxLocals = 2 := hml0
  have hown : s.vm.findClass "java/util/Arrays" = some m.cls := findClass_of_methodNamed Bd.named
  have hnm := (name_of_methodNamed Bd.named Bd.method).1
  have X0 : Stand p l e ({ frames := 0, cells := 0, slots := 0, locals := 0 } : Room) s m #[(.int (0 : Int32)), (.int (3 : Int32))] below meth c s₁ [] 0 0 := Stand.of_body Bd
  have e0 : s₁.heap = h0 := by rw [← hh, Bd.state]; rfl
  have N0 := Fr.nil n0
  show Go p e below (fun o U' => ∃ v L, o = .returned v ∧ Q28_3 Z  h0 n0 v U'.heap L ∧ FrameEnd s o U' L ({ frames := 0, cells := 0, slots := 0, locals := 0 } : Room).cells ({ frames := 0, cells := 0, slots := 0, locals := 0 } : Room).slots) (s₁.setTop (entryFrame m #[(.int (0 : Int32)), (.int (3 : Int32))] 2))
  refine Go.of (fun _ k => castTop (ef_28l1_0l2_3 m ) k) ?_
  show Go p e below _ (s₁.setTop (mkF m 0 #[.val (.int (0 : Int32)), .val (.int (3 : Int32))] []))
  refine Go.of (fun _ k => XS.iloadN X0.here hx rfl (hb hby d28_0) rfl  k) ?_
  show Go p e below _ (s₁.setTop (mkF m 1 #[.val (.int (0 : Int32)), .val (.int (3 : Int32))] [(.int (3 : Int32))]))
  refine Go.of (fun _ k => XS.iloadN X0.here hx rfl (hb hby d28_1) rfl  k) ?_
  show Go p e below _ (s₁.setTop (mkF m 2 #[.val (.int (0 : Int32)), .val (.int (3 : Int32))] [(.int (0 : Int32)), (.int (3 : Int32))]))
  refine Go.of (fun _ k => XS.icmpYes X0.here hx rfl (pc0 := 2) (pc' := 37) rfl (hb hby d28_2) rfl (flt (by decide : ¬ ((3 : Int32) < (0 : Int32)))).2.1 (by decide) (by decide) k) ?_
  show Go p e below _ (s₁.setTop (mkF m 37 #[.val (.int (0 : Int32)), .val (.int (3 : Int32))] []))
  obtain ⟨fs, hr, hrun, hended, hW, hsame⟩ := X0.leave (v := none) (fun _ => rfl)
  refine Go.mk _ _ ?_ hrun hended ⟨_, _, rfl, ?_, ⟨_, rfl⟩, hW, hsame.mono (by decide) (by decide)⟩
  · exact X0.returnOut hx Bd.returns (hb hby d28_37) hr
  · show Q28_3 Z  h0 n0 _ s₁.heap _
    rw [e0]
    exact ⟨rfl, N0, rfl⟩
theorem ef_27l2_0l3_3 (m : MethodId) (x0 : Addr) : entryFrame m #[(.ref x0), (.int (0 : Int32)), (.int (3 : Int32))] 5 = mkF m 0 #[.val (.ref x0), .val (.int (0 : Int32)), .val (.int (3 : Int32)), .unset, .unset] [] := by first | (simp [entryFrame, mkF, argsToLocals, Value.category]; done) | rfl
def Q27_3 (Z : State) (o0 : Addr) (cb0 : Int32) (cb1 : Int32) (cb2 : Int32) (kv : ClassId) (h0 : Heap) (n0 : Nat) (v : Option Value) (h : Heap) (L : List Loc) : Prop := ∃ r : Addr, ∃ rk1 : ClassId, v = some (.ref r) ∧ Fr n0 L ∧ Keep h0 h [] ∧ (h0.size ≤ r ∧ n0 ≤ r) ∧ Arv Z h r rk1 .byte (3 : Int32) [(.int cb0), (.int cb1), (.int cb2)] (.int (0 : Int32))
set_option maxRecDepth 65536 in
set_option maxHeartbeats 40000000 in
theorem rm27_3 (l : Launch) (Z : State) (a0 : Array Value) (hw : ∀ d ∈ tables_1, d.before a0 Z = true) (ws : List Jvm.Cond) (o0 : Addr) (cb0 : Int32) (cb1 : Int32) (cb2 : Int32) (kv : ClassId) (h0 : Heap) (n0 : Nat) (Z0 : n0 ≤ h0.size) (V_o0 : Arv Z h0 o0 kv .byte (16 : Int32) [(.int cb0), (.int cb1), (.int cb2), (.int (0 : Int32)), (.int (0 : Int32)), (.int (0 : Int32)), (.int (0 : Int32)), (.int (0 : Int32)), (.int (0 : Int32)), (.int (0 : Int32)), (.int (0 : Int32)), (.int (0 : Int32)), (.int (0 : Int32)), (.int (0 : Int32)), (.int (0 : Int32)), (.int (0 : Int32))] (.int (0 : Int32))) :
    MetFree l (⟨"java/util/Arrays", "copyOfRangeByte", "([BII)[B"⟩ : MethodName) (head1 (Jvm.Cond.code (⟨"java/util/Arrays", "copyOfRangeByte", "([BII)[B"⟩ : MethodName) jdk_65_method_133_code 5 (some (.array .byte)) :: ws) ({ frames := 1, cells := 1, slots := 3, locals := 32 } : Room)) (fun a U => a = #[(.ref o0), (.int (0 : Int32)), (.int (3 : Int32))] ∧ Z.Warmed39 U.vm ∧ U.heap = h0) (fun _ _ _ _ _ => True) (fun _ U o U' => ∃ v L, o = .returned v ∧ Q27_3 Z o0 cb0 cb1 cb2 kv h0 n0 v U'.heap L ∧ FrameEnd U o U' L ({ frames := 1, cells := 1, slots := 3, locals := 32 } : Room).cells ({ frames := 1, cells := 1, slots := 3, locals := 32 } : Room).slots) := by
  refine MetFree.of_bodySF (plainFor_of_name pn_java_util_Arrays) hisR ?_
  intro p e s m args below meth c s₁ Bd hml0 hP hK
  obtain ⟨rfl, hZ, hh⟩ := hP
  have hx := Bd.exec
  have hby := Bd.bytes
  have hml : c.maxLocals = 5 := hml0
  have hown : s.vm.findClass "java/util/Arrays" = some m.cls := findClass_of_methodNamed Bd.named
  have hnm := (name_of_methodNamed Bd.named Bd.method).1
  have X0 : Stand p l e ({ frames := 1, cells := 1, slots := 3, locals := 32 } : Room) s m #[(.ref o0), (.int (0 : Int32)), (.int (3 : Int32))] below meth c s₁ [] 0 0 := Stand.of_body Bd
  have e0 : s₁.heap = h0 := by rw [← hh, Bd.state]; rfl
  have N0 := Fr.nil n0
  show Go p e below (fun o U' => ∃ v L, o = .returned v ∧ Q27_3 Z o0 cb0 cb1 cb2 kv h0 n0 v U'.heap L ∧ FrameEnd s o U' L ({ frames := 1, cells := 1, slots := 3, locals := 32 } : Room).cells ({ frames := 1, cells := 1, slots := 3, locals := 32 } : Room).slots) (s₁.setTop (entryFrame m #[(.ref o0), (.int (0 : Int32)), (.int (3 : Int32))] 5))
  refine Go.of (fun _ k => castTop (ef_27l2_0l3_3 m o0) k) ?_
  show Go p e below _ (s₁.setTop (mkF m 0 #[.val (.ref o0), .val (.int (0 : Int32)), .val (.int (3 : Int32)), .unset, .unset] []))
  refine Go.of (fun _ k => XS.iloadN X0.here hx rfl (hb hby d27_0) rfl  k) ?_
  show Go p e below _ (s₁.setTop (mkF m 1 #[.val (.ref o0), .val (.int (0 : Int32)), .val (.int (3 : Int32)), .unset, .unset] [(.int (0 : Int32))]))
  refine Go.of (fun _ k => XS.iloadN X0.here hx rfl (hb hby d27_1) rfl  k) ?_
  show Go p e below _ (s₁.setTop (mkF m 2 #[.val (.ref o0), .val (.int (0 : Int32)), .val (.int (3 : Int32)), .unset, .unset] [(.int (3 : Int32)), (.int (0 : Int32))]))
  obtain ⟨_, _, ⟨T1, L1, k1, n1⟩, -, X1, ⟨Lc1, hQ1, l1, y1, z1⟩, st1⟩ := Jvm.LawKit.callS X0 hx (y := (⟨"java/util/Arrays", "checkLength", "(II)V"⟩ : MethodName)) hown (mvT hZ (hw _ (List.mem_of_getElem? (i := 157) rfl))) (mvT hZ (hw _ (List.mem_of_getElem? (i := 158) rfl))) (mvT hZ (hw _ (List.mem_of_getElem? (i := 152) rfl))) (mvT hZ (hw _ (List.mem_of_getElem? (i := 159) rfl))) (by decide) (backOf (W := 0) (rm28_3 l Z a0 hw []  h0 n0 Z0 ) hZ (hw _ (List.mem_of_getElem? (i := 159) rfl)) (hw _ (List.mem_of_getElem? (i := 152) rfl)) (by decide) (by decide)) (g := (mkF m 2 #[.val (.ref o0), .val (.int (0 : Int32)), .val (.int (3 : Int32)), .unset, .unset] [(.int (3 : Int32)), (.int (0 : Int32))])) rfl (by rw [hml]; rfl) (argsL := [(.int (0 : Int32)), (.int (3 : Int32))]) (rest := []) (lenOf pd_11 rfl) rfl (by show 2 * 0 + _ ≤ _; exact Nat.le_of_eq rfl) (hb hby d27_2) (fun _ _ => ⟨rfl, e0, (by decide : 0 + 0 ≤ _), (by decide : 0 + 0 ≤ _)⟩)
  dsimp only [Pt.U, Pt.locs, Pt.cells, Pt.slots] at X1 l1 y1 z1 st1 hQ1
  subst l1 y1 z1
  obtain ⟨rfl, Nq1, q1_0⟩ := hQ1
  have N1 := Fr.app N0 Nq1
  refine Go.of st1 ?_
  show Go p e below _ (T1.setTop (mkF m 5 #[.val (.ref o0), .val (.int (0 : Int32)), .val (.int (3 : Int32)), .unset, .unset] []))
  refine Go.of (fun _ k => XS.iloadN X1.here hx rfl (hb hby d27_5) rfl  k) ?_
  show Go p e below _ (T1.setTop (mkF m 6 #[.val (.ref o0), .val (.int (0 : Int32)), .val (.int (3 : Int32)), .unset, .unset] [(.int (3 : Int32))]))
  refine Go.of (fun _ k => XS.iloadN X1.here hx rfl (hb hby d27_6) rfl  k) ?_
  show Go p e below _ (T1.setTop (mkF m 7 #[.val (.ref o0), .val (.int (0 : Int32)), .val (.int (3 : Int32)), .unset, .unset] [(.int (0 : Int32)), (.int (3 : Int32))]))
  refine Go.of (fun _ k => XS.isub X1.here hx rfl (hb hby d27_7) rfl k) ?_
  show Go p e below _ (T1.setTop (mkF m 8 #[.val (.ref o0), .val (.int (0 : Int32)), .val (.int (3 : Int32)), .unset, .unset] [(.int (3 : Int32))]))
  refine Go.of (fun _ k => XS.istoreN X1.here hx rfl (hb hby d27_8) rfl (l' := #[.val (.ref o0), .val (.int (0 : Int32)), .val (.int (3 : Int32)), .val (.int (3 : Int32)), .unset]) rfl k) ?_
  show Go p e below _ (T1.setTop (mkF m 9 #[.val (.ref o0), .val (.int (0 : Int32)), .val (.int (3 : Int32)), .val (.int (3 : Int32)), .unset] []))
  refine Go.of (fun _ k => XS.iloadN X1.here hx rfl (hb hby d27_9) rfl  k) ?_
  show Go p e below _ (T1.setTop (mkF m 10 #[.val (.ref o0), .val (.int (0 : Int32)), .val (.int (3 : Int32)), .val (.int (3 : Int32)), .unset] [(.int (3 : Int32))]))
  obtain ⟨T2, h2, k2, X2, e2, E2, A2, st2⟩ := newP X1 hx hZ (hw _ (List.mem_of_getElem? (i := 39) rfl)) q1_0 (g := (mkF m 10 #[.val (.ref o0), .val (.int (0 : Int32)), .val (.int (3 : Int32)), .val (.int (3 : Int32)), .unset] [(.int (3 : Int32))])) rfl (hb hby d27_10) rfl (by decide) (cap := 3) (by decide) (by decide) (by decide) (by decide)
  obtain ⟨ob2, g2⟩ : ∃ z, z = h0.size := ⟨_, rfl⟩
  rw [← g2] at A2 st2
  refine Go.of st2 ?_
  have g_ob2 : n0 ≤ ob2 := Nat.le_trans Z0 (Nat.le_of_eq g2.symm)
  have sz_ob2 : h0.size ≤ ob2 := Nat.le_trans ((Keep.refl h0 [])).1 (Nat.le_of_eq g2.symm)
  have K2 : Keep h0 h2 [] := ((Keep.refl h0 [])).ext E2
  have Z2 : n0 ≤ h2.size := Nat.le_trans Z0 E2.1
  have V2 : Arv Z h2 ob2 k2 .byte (3 : Int32) [(.int (0 : Int32)), (.int (0 : Int32)), (.int (0 : Int32))] (.int (0 : Int32)) := (Arv.new A2 (by decide)).pad (pad_rep [] (.int (0 : Int32)) 3)
  show Go p e below _ (T2.setTop (mkF m 12 #[.val (.ref o0), .val (.int (0 : Int32)), .val (.int (3 : Int32)), .val (.int (3 : Int32)), .unset] [(.ref ob2)]))
  refine Go.of (fun _ k => XS.astore X2.here hx rfl (hb hby d27_12) rfl rfl (l' := #[.val (.ref o0), .val (.int (0 : Int32)), .val (.int (3 : Int32)), .val (.int (3 : Int32)), .val (.ref ob2)]) rfl k) ?_
  show Go p e below _ (T2.setTop (mkF m 14 #[.val (.ref o0), .val (.int (0 : Int32)), .val (.int (3 : Int32)), .val (.int (3 : Int32)), .val (.ref ob2)] []))
  refine Go.of (fun _ k => XS.aloadN X2.here hx rfl (hb hby d27_14) rfl rfl k) ?_
  show Go p e below _ (T2.setTop (mkF m 15 #[.val (.ref o0), .val (.int (0 : Int32)), .val (.int (3 : Int32)), .val (.int (3 : Int32)), .val (.ref ob2)] [(.ref o0)]))
  refine Go.of (fun _ k => XS.iloadN X2.here hx rfl (hb hby d27_15) rfl  k) ?_
  show Go p e below _ (T2.setTop (mkF m 16 #[.val (.ref o0), .val (.int (0 : Int32)), .val (.int (3 : Int32)), .val (.int (3 : Int32)), .val (.ref ob2)] [(.int (0 : Int32)), (.ref o0)]))
  refine Go.of (fun _ k => XS.aload X2.here hx rfl (hb hby d27_16) rfl rfl k) ?_
  show Go p e below _ (T2.setTop (mkF m 18 #[.val (.ref o0), .val (.int (0 : Int32)), .val (.int (3 : Int32)), .val (.int (3 : Int32)), .val (.ref ob2)] [(.ref ob2), (.int (0 : Int32)), (.ref o0)]))
  refine Go.of (fun _ k => XS.iconst X2.here hx rfl (hb hby d27_18) k) ?_
  show Go p e below _ (T2.setTop (mkF m 19 #[.val (.ref o0), .val (.int (0 : Int32)), .val (.int (3 : Int32)), .val (.int (3 : Int32)), .val (.ref ob2)] [(.int (0 : Int32)), (.ref ob2), (.int (0 : Int32)), (.ref o0)]))
  refine Go.of (fun _ k => XS.aloadN X2.here hx rfl (hb hby d27_19) rfl rfl k) ?_
  show Go p e below _ (T2.setTop (mkF m 20 #[.val (.ref o0), .val (.int (0 : Int32)), .val (.int (3 : Int32)), .val (.int (3 : Int32)), .val (.ref ob2)] [(.ref o0), (.int (0 : Int32)), (.ref ob2), (.int (0 : Int32)), (.ref o0)]))
  have c3 : Arv Z h2 o0 kv .byte (16 : Int32) [(.int cb0), (.int cb1), (.int cb2), (.int (0 : Int32)), (.int (0 : Int32)), (.int (0 : Int32)), (.int (0 : Int32)), (.int (0 : Int32)), (.int (0 : Int32)), (.int (0 : Int32)), (.int (0 : Int32)), (.int (0 : Int32)), (.int (0 : Int32)), (.int (0 : Int32)), (.int (0 : Int32)), (.int (0 : Int32))] (.int (0 : Int32)) := (V_o0.ext E2)
  obtain ⟨clt4, Art4, qt4, st4, nt4, Ht4, Gt4⟩ := id c3
  refine Go.of (fun _ k => X2.arraylength hx (by rw [e2]; exact Art4.1) (State.isArrayOf_alike hZ.alike Art4.2.1) (g := (mkF m 20 #[.val (.ref o0), .val (.int (0 : Int32)), .val (.int (3 : Int32)), .val (.int (3 : Int32)), .val (.ref ob2)] [(.ref o0), (.int (0 : Int32)), (.ref ob2), (.int (0 : Int32)), (.ref o0)])) rfl rfl (hb hby d27_20) _ k) ?_
  rw [len_of st4 nt4]
  show Go p e below _ (T2.setTop (mkF m 21 #[.val (.ref o0), .val (.int (0 : Int32)), .val (.int (3 : Int32)), .val (.int (3 : Int32)), .val (.ref ob2)] [(.int (16 : Int32)), (.int (0 : Int32)), (.ref ob2), (.int (0 : Int32)), (.ref o0)]))
  refine Go.of (fun _ k => XS.iloadN X2.here hx rfl (hb hby d27_21) rfl  k) ?_
  show Go p e below _ (T2.setTop (mkF m 22 #[.val (.ref o0), .val (.int (0 : Int32)), .val (.int (3 : Int32)), .val (.int (3 : Int32)), .val (.ref ob2)] [(.int (0 : Int32)), (.int (16 : Int32)), (.int (0 : Int32)), (.ref ob2), (.int (0 : Int32)), (.ref o0)]))
  refine Go.of (fun _ k => XS.isub X2.here hx rfl (hb hby d27_22) rfl k) ?_
  show Go p e below _ (T2.setTop (mkF m 23 #[.val (.ref o0), .val (.int (0 : Int32)), .val (.int (3 : Int32)), .val (.int (3 : Int32)), .val (.ref ob2)] [(.int (16 : Int32)), (.int (0 : Int32)), (.ref ob2), (.int (0 : Int32)), (.ref o0)]))
  refine Go.of (fun _ k => XS.iloadN X2.here hx rfl (hb hby d27_23) rfl  k) ?_
  show Go p e below _ (T2.setTop (mkF m 24 #[.val (.ref o0), .val (.int (0 : Int32)), .val (.int (3 : Int32)), .val (.int (3 : Int32)), .val (.ref ob2)] [(.int (3 : Int32)), (.int (16 : Int32)), (.int (0 : Int32)), (.ref ob2), (.int (0 : Int32)), (.ref o0)]))
  obtain ⟨_, _, ⟨T5, L5, k5, n5⟩, -, X5, ⟨Lc5, hQ5, l5, y5, z5⟩, st5⟩ := Jvm.LawKit.callS X2 hx (y := (⟨"java/lang/Math", "min", "(II)I"⟩ : MethodName)) hown (mvT hZ (hw _ (List.mem_of_getElem? (i := 160) rfl))) (mvT hZ (hw _ (List.mem_of_getElem? (i := 161) rfl))) (mvT hZ (hw _ (List.mem_of_getElem? (i := 162) rfl))) (mvT hZ (hw _ (List.mem_of_getElem? (i := 163) rfl))) (by decide) (backOf (W := 4) (rm29 l Z a0 hw [] (16 : Int32) (3 : Int32) h2 n0 Z2 (by decide : (3 : Int32) < (16 : Int32))) hZ (hw _ (List.mem_of_getElem? (i := 163) rfl)) (hw _ (List.mem_of_getElem? (i := 162) rfl)) (by decide) (by decide)) (g := (mkF m 24 #[.val (.ref o0), .val (.int (0 : Int32)), .val (.int (3 : Int32)), .val (.int (3 : Int32)), .val (.ref ob2)] [(.int (3 : Int32)), (.int (16 : Int32)), (.int (0 : Int32)), (.ref ob2), (.int (0 : Int32)), (.ref o0)])) rfl (by rw [hml]; rfl) (argsL := [(.int (16 : Int32)), (.int (3 : Int32))]) (rest := [(.int (0 : Int32)), (.ref ob2), (.int (0 : Int32)), (.ref o0)]) (lenOf pd_12 rfl) rfl (by show 2 * 0 + _ ≤ _; exact Nat.le_of_eq rfl) (hb hby d27_24) (fun _ _ => ⟨rfl, e2, (by decide : 1 + 0 ≤ _), (by decide : 3 + 0 ≤ _)⟩)
  dsimp only [Pt.U, Pt.locs, Pt.cells, Pt.slots] at X5 l5 y5 z5 st5 hQ5
  subst l5 y5 z5
  obtain ⟨rfl, Nq5, q5_0⟩ := hQ5
  have N5 := Fr.app N1 Nq5
  refine Go.of st5 ?_
  show Go p e below _ (T5.setTop (mkF m 27 #[.val (.ref o0), .val (.int (0 : Int32)), .val (.int (3 : Int32)), .val (.int (3 : Int32)), .val (.ref ob2)] [(.int (3 : Int32)), (.int (0 : Int32)), (.ref ob2), (.int (0 : Int32)), (.ref o0)]))
  obtain ⟨T6, h6, L6, X6, e6, N6, q6_0, V6, st6⟩ := cpA X5 hx hZ hown (hw _ (List.mem_of_getElem? (i := 164) rfl)) (hw _ (List.mem_of_getElem? (i := 121) rfl)) (hw _ (List.mem_of_getElem? (i := 119) rfl)) (hw _ (List.mem_of_getElem? (i := 120) rfl)) q5_0 c3 V2 (us := [(.int cb0), (.int cb1), (.int cb2)]) (Or.inl ⟨rfl, rfl⟩) (by decide) (by decide) (by decide) (by decide) (by decide) rfl (Nat.le_of_ble_eq_true rfl) N5 g_ob2 (g := (mkF m 27 #[.val (.ref o0), .val (.int (0 : Int32)), .val (.int (3 : Int32)), .val (.int (3 : Int32)), .val (.ref ob2)] [(.int (3 : Int32)), (.int (0 : Int32)), (.ref ob2), (.int (0 : Int32)), (.ref o0)])) rfl (by rw [hml]; rfl) (rest := []) rfl (hb hby d27_27) (by decide) (W := 0) (by show 2 * 0 + _ ≤ _; exact Nat.le_of_eq rfl) (by decide)
  refine Go.of st6 ?_
  have K6 : Keep h0 h6 [] := (K2).trans q6_0 (allS (Or.inr sz_ob2) all0)
  have Z6 : n0 ≤ h6.size := Nat.le_trans Z2 q6_0.1
  have Vc6 : Arv Z h6 ob2 k2 .byte (3 : Int32) [(.int cb0), (.int cb1), (.int cb2)] (.int (0 : Int32)) := V6
  show Go p e below _ (T6.setTop (mkF m 30 #[.val (.ref o0), .val (.int (0 : Int32)), .val (.int (3 : Int32)), .val (.int (3 : Int32)), .val (.ref ob2)] []))
  refine Go.of (fun _ k => XS.aload X6.here hx rfl (hb hby d27_30) rfl rfl k) ?_
  show Go p e below _ (T6.setTop (mkF m 32 #[.val (.ref o0), .val (.int (0 : Int32)), .val (.int (3 : Int32)), .val (.int (3 : Int32)), .val (.ref ob2)] [(.ref ob2)]))
  obtain ⟨fs, hr, hrun, hended, hW, hsame⟩ := X6.leave (v := some (.ref ob2)) (fun h => by rw [Bd.returns] at h; cases h)
  refine Go.mk _ _ ?_ hrun hended ⟨_, _, rfl, ?_, ⟨_, rfl⟩, hW, hsame.mono (by decide) (by decide)⟩
  · exact retOut X6 hx Bd.returns rfl (Or.inr (Or.inr (Or.inr (Or.inr ⟨rfl, rfl, rfl⟩)))) (hb hby d27_32) hr
  · show Q27_3 Z o0 cb0 cb1 cb2 kv h0 n0 _ T6.heap _
    rw [e6]
    exact ⟨ob2, k2, rfl, N6, K6, ⟨sz_ob2, g_ob2⟩, Vc6⟩
theorem ef_26l2_0l3_3 (m : MethodId) (x0 : Addr) : entryFrame m #[(.ref x0), (.int (0 : Int32)), (.int (3 : Int32))] 3 = mkF m 0 #[.val (.ref x0), .val (.int (0 : Int32)), .val (.int (3 : Int32))] [] := by first | (simp [entryFrame, mkF, argsToLocals, Value.category]; done) | rfl
def Q26_3 (Z : State) (o0 : Addr) (cb0 : Int32) (cb1 : Int32) (cb2 : Int32) (kv : ClassId) (h0 : Heap) (n0 : Nat) (v : Option Value) (h : Heap) (L : List Loc) : Prop := ∃ r : Addr, ∃ rk1 : ClassId, v = some (.ref r) ∧ Fr n0 L ∧ Keep h0 h [] ∧ (h0.size ≤ r ∧ n0 ≤ r) ∧ Arv Z h r rk1 .byte (3 : Int32) [(.int cb0), (.int cb1), (.int cb2)] (.int (0 : Int32))
set_option maxRecDepth 65536 in
set_option maxHeartbeats 40000000 in
theorem rm26_3 (l : Launch) (Z : State) (a0 : Array Value) (hw : ∀ d ∈ tables_1, d.before a0 Z = true) (ws : List Jvm.Cond) (o0 : Addr) (cb0 : Int32) (cb1 : Int32) (cb2 : Int32) (kv : ClassId) (h0 : Heap) (n0 : Nat) (Z0 : n0 ≤ h0.size) (V_o0 : Arv Z h0 o0 kv .byte (16 : Int32) [(.int cb0), (.int cb1), (.int cb2), (.int (0 : Int32)), (.int (0 : Int32)), (.int (0 : Int32)), (.int (0 : Int32)), (.int (0 : Int32)), (.int (0 : Int32)), (.int (0 : Int32)), (.int (0 : Int32)), (.int (0 : Int32)), (.int (0 : Int32)), (.int (0 : Int32)), (.int (0 : Int32)), (.int (0 : Int32))] (.int (0 : Int32))) :
    MetFree l (⟨"java/util/Arrays", "copyOfRange", "([BII)[B"⟩ : MethodName) (head1 (Jvm.Cond.code (⟨"java/util/Arrays", "copyOfRange", "([BII)[B"⟩ : MethodName) jdk_65_method_132_code 3 (some (.array .byte)) :: ws) ({ frames := 2, cells := 1, slots := 3, locals := 48 } : Room)) (fun a U => a = #[(.ref o0), (.int (0 : Int32)), (.int (3 : Int32))] ∧ Z.Warmed39 U.vm ∧ U.heap = h0) (fun _ _ _ _ _ => True) (fun _ U o U' => ∃ v L, o = .returned v ∧ Q26_3 Z o0 cb0 cb1 cb2 kv h0 n0 v U'.heap L ∧ FrameEnd U o U' L ({ frames := 2, cells := 1, slots := 3, locals := 48 } : Room).cells ({ frames := 2, cells := 1, slots := 3, locals := 48 } : Room).slots) := by
  refine MetFree.of_bodySF (plainFor_of_name pn_java_util_Arrays) hisR ?_
  intro p e s m args below meth c s₁ Bd hml0 hP hK
  obtain ⟨rfl, hZ, hh⟩ := hP
  have hx := Bd.exec
  have hby := Bd.bytes
  have hml : c.maxLocals = 3 := hml0
  have hown : s.vm.findClass "java/util/Arrays" = some m.cls := findClass_of_methodNamed Bd.named
  have hnm := (name_of_methodNamed Bd.named Bd.method).1
  have X0 : Stand p l e ({ frames := 2, cells := 1, slots := 3, locals := 48 } : Room) s m #[(.ref o0), (.int (0 : Int32)), (.int (3 : Int32))] below meth c s₁ [] 0 0 := Stand.of_body Bd
  have e0 : s₁.heap = h0 := by rw [← hh, Bd.state]; rfl
  have N0 := Fr.nil n0
  show Go p e below (fun o U' => ∃ v L, o = .returned v ∧ Q26_3 Z o0 cb0 cb1 cb2 kv h0 n0 v U'.heap L ∧ FrameEnd s o U' L ({ frames := 2, cells := 1, slots := 3, locals := 48 } : Room).cells ({ frames := 2, cells := 1, slots := 3, locals := 48 } : Room).slots) (s₁.setTop (entryFrame m #[(.ref o0), (.int (0 : Int32)), (.int (3 : Int32))] 3))
  refine Go.of (fun _ k => castTop (ef_26l2_0l3_3 m o0) k) ?_
  show Go p e below _ (s₁.setTop (mkF m 0 #[.val (.ref o0), .val (.int (0 : Int32)), .val (.int (3 : Int32))] []))
  refine Go.of (fun _ k => XS.iloadN X0.here hx rfl (hb hby d26_0) rfl  k) ?_
  show Go p e below _ (s₁.setTop (mkF m 1 #[.val (.ref o0), .val (.int (0 : Int32)), .val (.int (3 : Int32))] [(.int (0 : Int32))]))
  refine Go.of (fun _ k => XS.ifNo X0.here hx rfl (hb hby d26_1) rfl ((if0 _ _).trans (teq (by decide : (0 : Int32) = (0 : Int32))).2) k) ?_
  show Go p e below _ (s₁.setTop (mkF m 4 #[.val (.ref o0), .val (.int (0 : Int32)), .val (.int (3 : Int32))] []))
  refine Go.of (fun _ k => XS.iloadN X0.here hx rfl (hb hby d26_4) rfl  k) ?_
  show Go p e below _ (s₁.setTop (mkF m 5 #[.val (.ref o0), .val (.int (0 : Int32)), .val (.int (3 : Int32))] [(.int (3 : Int32))]))
  refine Go.of (fun _ k => XS.aloadN X0.here hx rfl (hb hby d26_5) rfl rfl k) ?_
  show Go p e below _ (s₁.setTop (mkF m 6 #[.val (.ref o0), .val (.int (0 : Int32)), .val (.int (3 : Int32))] [(.ref o0), (.int (3 : Int32))]))
  obtain ⟨clt1, Art1, qt1, st1, nt1, Ht1, Gt1⟩ := id V_o0
  refine Go.of (fun _ k => X0.arraylength hx (by rw [e0]; exact Art1.1) (State.isArrayOf_alike hZ.alike Art1.2.1) (g := (mkF m 6 #[.val (.ref o0), .val (.int (0 : Int32)), .val (.int (3 : Int32))] [(.ref o0), (.int (3 : Int32))])) rfl rfl (hb hby d26_6) _ k) ?_
  rw [len_of st1 nt1]
  show Go p e below _ (s₁.setTop (mkF m 7 #[.val (.ref o0), .val (.int (0 : Int32)), .val (.int (3 : Int32))] [(.int (16 : Int32)), (.int (3 : Int32))]))
  refine Go.of (fun _ k => XS.icmpNo X0.here hx rfl (hb hby d26_7) rfl (feq (by decide : ¬ ((3 : Int32) = (16 : Int32)))).1 k) ?_
  show Go p e below _ (s₁.setTop (mkF m 10 #[.val (.ref o0), .val (.int (0 : Int32)), .val (.int (3 : Int32))] []))
  refine Go.of (fun _ k => XS.aloadN X0.here hx rfl (hb hby d26_10) rfl rfl k) ?_
  show Go p e below _ (s₁.setTop (mkF m 11 #[.val (.ref o0), .val (.int (0 : Int32)), .val (.int (3 : Int32))] [(.ref o0)]))
  refine Go.of (fun _ k => XS.iloadN X0.here hx rfl (hb hby d26_11) rfl  k) ?_
  show Go p e below _ (s₁.setTop (mkF m 12 #[.val (.ref o0), .val (.int (0 : Int32)), .val (.int (3 : Int32))] [(.int (0 : Int32)), (.ref o0)]))
  refine Go.of (fun _ k => XS.iloadN X0.here hx rfl (hb hby d26_12) rfl  k) ?_
  show Go p e below _ (s₁.setTop (mkF m 13 #[.val (.ref o0), .val (.int (0 : Int32)), .val (.int (3 : Int32))] [(.int (3 : Int32)), (.int (0 : Int32)), (.ref o0)]))
  obtain ⟨_, _, ⟨T2, L2, k2, n2⟩, -, X2, ⟨Lc2, hQ2, l2, y2, z2⟩, st2⟩ := Jvm.LawKit.callS X0 hx (y := (⟨"java/util/Arrays", "copyOfRangeByte", "([BII)[B"⟩ : MethodName)) hown (mvT hZ (hw _ (List.mem_of_getElem? (i := 154) rfl))) (mvT hZ (hw _ (List.mem_of_getElem? (i := 155) rfl))) (mvT hZ (hw _ (List.mem_of_getElem? (i := 152) rfl))) (mvT hZ (hw _ (List.mem_of_getElem? (i := 156) rfl))) (by decide) (backOf (W := 0) (rm27_3 l Z a0 hw [] o0 cb0 cb1 cb2 kv h0 n0 Z0 V_o0) hZ (hw _ (List.mem_of_getElem? (i := 156) rfl)) (hw _ (List.mem_of_getElem? (i := 152) rfl)) (by decide) (by decide)) (g := (mkF m 13 #[.val (.ref o0), .val (.int (0 : Int32)), .val (.int (3 : Int32))] [(.int (3 : Int32)), (.int (0 : Int32)), (.ref o0)])) rfl (by rw [hml]; rfl) (argsL := [(.ref o0), (.int (0 : Int32)), (.int (3 : Int32))]) (rest := []) (lenOf pd_13 rfl) rfl (by show 2 * 0 + _ ≤ _; exact Nat.le_of_eq rfl) (hb hby d26_13) (fun _ _ => ⟨rfl, e0, (by decide : 0 + 1 ≤ _), (by decide : 0 + 3 ≤ _)⟩)
  dsimp only [Pt.U, Pt.locs, Pt.cells, Pt.slots] at X2 l2 y2 z2 st2 hQ2
  subst l2 y2 z2
  obtain ⟨r_2, rk1_2, rfl, Nq2, q2_0, q2_1, q2_2⟩ := hQ2
  have N2 := Fr.app N0 Nq2
  refine Go.of st2 ?_
  have K2 : Keep h0 T2.heap [] := ((Keep.refl h0 [])).trans q2_0 all0
  have Z2 : n0 ≤ T2.heap.size := Nat.le_trans Z0 q2_0.1
  have g_r_2 : n0 ≤ r_2 := q2_1.2
  have sz_r_2 : h0.size ≤ r_2 := Nat.le_trans ((Keep.refl h0 [])).1 q2_1.1
  show Go p e below _ (T2.setTop (mkF m 16 #[.val (.ref o0), .val (.int (0 : Int32)), .val (.int (3 : Int32))] [(.ref r_2)]))
  obtain ⟨fs, hr, hrun, hended, hW, hsame⟩ := X2.leave (v := some (.ref r_2)) (fun h => by rw [Bd.returns] at h; cases h)
  refine Go.mk _ _ ?_ hrun hended ⟨_, _, rfl, ?_, ⟨_, rfl⟩, hW, hsame.mono (by decide) (by decide)⟩
  · exact retOut X2 hx Bd.returns rfl (Or.inr (Or.inr (Or.inr (Or.inr ⟨rfl, rfl, rfl⟩)))) (hb hby d26_16) hr
  · show Q26_3 Z o0 cb0 cb1 cb2 kv h0 n0 _ T2.heap _
    exact ⟨r_2, rk1_2, rfl, N2, K2, ⟨sz_r_2, g_r_2⟩, q2_2⟩
def Q22_3 (Z : State) (o0 : Addr) (o1 : Addr) (cb0 : Int32) (cb1 : Int32) (cb2 : Int32) (f_o1_value : Addr) (w_COMPACT_STRINGS : Int32) (u_o0_coder : Value) (kv : ClassId) (u_o0_value : Value) (h0 : Heap) (n0 : Nat) (v : Option Value) (h : Heap) (L : List Loc) : Prop := ∃ r0 : Addr, ∃ rk1 : ClassId, v = none ∧ Fr n0 L ∧ Keep h0 h [o0] ∧ Exa Z h o0 "java/lang/String" ∧ Fld Z h o0 "java/lang/String" "coder" "B" (.int (0 : Int32)) ∧ Fld Z h o0 "java/lang/String" "value" "[B" (.ref r0) ∧ (h0.size ≤ r0 ∧ n0 ≤ r0) ∧ Arv Z h r0 rk1 .byte (3 : Int32) [(.int cb0), (.int cb1), (.int cb2)] (.int (0 : Int32))
set_option maxRecDepth 65536 in
set_option maxHeartbeats 40000000 in
theorem rm22_3 (l : Launch) (Z : State) (a0 : Array Value) (hw : ∀ d ∈ tables_1, d.before a0 Z = true) (ws : List Jvm.Cond) (o0 : Addr) (o1 : Addr) (cb0 : Int32) (cb1 : Int32) (cb2 : Int32) (f_o1_value : Addr) (w_COMPACT_STRINGS : Int32) (u_o0_coder : Value) (kv : ClassId) (u_o0_value : Value) (h0 : Heap) (n0 : Nat) (Z0 : n0 ≤ h0.size) (F_o1_value : Fld Z h0 o1 "java/lang/AbstractStringBuilder" "value" "[B" (.ref f_o1_value)) (E_o1 : Exa Z h0 o1 "java/lang/StringBuilder") (F_o1_count : Fld Z h0 o1 "java/lang/AbstractStringBuilder" "count" "I" (.int (3 : Int32))) (S_COMPACT_STRINGS : Sta Z h0 "java/lang/String" "COMPACT_STRINGS" "Z" (.int w_COMPACT_STRINGS)) (hc3_4 : ¬ (w_COMPACT_STRINGS = (0 : Int32))) (F_o1_coder : Fld Z h0 o1 "java/lang/AbstractStringBuilder" "coder" "B" (.int (0 : Int32))) (E_o0 : Exa Z h0 o0 "java/lang/String") (F_o0_coder : Fld Z h0 o0 "java/lang/String" "coder" "B" u_o0_coder) (g_o0 : n0 ≤ o0) (V_f_o1_value : Arv Z h0 f_o1_value kv .byte (16 : Int32) [(.int cb0), (.int cb1), (.int cb2), (.int (0 : Int32)), (.int (0 : Int32)), (.int (0 : Int32)), (.int (0 : Int32)), (.int (0 : Int32)), (.int (0 : Int32)), (.int (0 : Int32)), (.int (0 : Int32)), (.int (0 : Int32)), (.int (0 : Int32)), (.int (0 : Int32)), (.int (0 : Int32)), (.int (0 : Int32))] (.int (0 : Int32))) (ne_f_o1_value_o0 : f_o1_value ≠ o0) (F_o0_value : Fld Z h0 o0 "java/lang/String" "value" "[B" u_o0_value) :
    MetFree l (⟨"java/lang/String", "<init>", "(Ljava/lang/AbstractStringBuilder;Ljava/lang/Void;)V"⟩ : MethodName) (head1 (Jvm.Cond.code (⟨"java/lang/String", "<init>", "(Ljava/lang/AbstractStringBuilder;Ljava/lang/Void;)V"⟩ : MethodName) jdk_42_method_150_code 5 none :: ws) ({ frames := 3, cells := 1, slots := 3, locals := 63 } : Room)) (fun a U => a = #[(.ref o0), (.ref o1), .null] ∧ Z.Warmed39 U.vm ∧ U.heap = h0) (fun _ _ _ _ _ => True) (fun _ U o U' => ∃ v L, o = .returned v ∧ Q22_3 Z o0 o1 cb0 cb1 cb2 f_o1_value w_COMPACT_STRINGS u_o0_coder kv u_o0_value h0 n0 v U'.heap L ∧ FrameEnd U o U' L ({ frames := 3, cells := 1, slots := 3, locals := 63 } : Room).cells ({ frames := 3, cells := 1, slots := 3, locals := 63 } : Room).slots) := by
  refine MetFree.of_bodySF (plainFor_of_name pn_java_lang_String) hisR ?_
  intro p e s m args below meth c s₁ Bd hml0 hP hK
  obtain ⟨rfl, hZ, hh⟩ := hP
  have hx := Bd.exec
  have hby := Bd.bytes
  have hml : c.maxLocals = 5 := hml0
  have hown : s.vm.findClass "java/lang/String" = some m.cls := findClass_of_methodNamed Bd.named
  have hnm := (name_of_methodNamed Bd.named Bd.method).1
  have X0 : Stand p l e ({ frames := 3, cells := 1, slots := 3, locals := 63 } : Room) s m #[(.ref o0), (.ref o1), .null] below meth c s₁ [] 0 0 := Stand.of_body Bd
  have e0 : s₁.heap = h0 := by rw [← hh, Bd.state]; rfl
  have N0 := Fr.nil n0
  show Go p e below (fun o U' => ∃ v L, o = .returned v ∧ Q22_3 Z o0 o1 cb0 cb1 cb2 f_o1_value w_COMPACT_STRINGS u_o0_coder kv u_o0_value h0 n0 v U'.heap L ∧ FrameEnd s o U' L ({ frames := 3, cells := 1, slots := 3, locals := 63 } : Room).cells ({ frames := 3, cells := 1, slots := 3, locals := 63 } : Room).slots) (s₁.setTop (entryFrame m #[(.ref o0), (.ref o1), .null] 5))
  refine Go.of (fun _ k => castTop (ef_22n2 m o0 o1) k) ?_
  show Go p e below _ (s₁.setTop (mkF m 0 #[.val (.ref o0), .val (.ref o1), .val .null, .unset, .unset] []))
  refine Go.of (fun _ k => XS.aloadN X0.here hx rfl (hb hby d22_0) rfl rfl k) ?_
  show Go p e below _ (s₁.setTop (mkF m 1 #[.val (.ref o0), .val (.ref o1), .val .null, .unset, .unset] [(.ref o0)]))
  obtain ⟨T1, X1, e1, st1⟩ := initO X0 hx hZ hown (hw _ (List.mem_of_getElem? (i := 135) rfl)) (hw _ (List.mem_of_getElem? (i := 13) rfl)) (hw _ (List.mem_of_getElem? (i := 14) rfl)) e0 (g := (mkF m 1 #[.val (.ref o0), .val (.ref o1), .val .null, .unset, .unset] [(.ref o0)])) rfl (by rw [hml]; rfl) rfl (hb hby d22_1) (by decide) (W := 0) (by show 2 * 0 + _ ≤ _; exact Nat.le_of_eq rfl) (by decide)
  refine Go.of st1 ?_
  show Go p e below _ (T1.setTop (mkF m 4 #[.val (.ref o0), .val (.ref o1), .val .null, .unset, .unset] []))
  refine Go.of (fun _ k => XS.aloadN X1.here hx rfl (hb hby d22_4) rfl rfl k) ?_
  show Go p e below _ (T1.setTop (mkF m 5 #[.val (.ref o0), .val (.ref o1), .val .null, .unset, .unset] [(.ref o1)]))
  obtain ⟨cq2, kq2, q2a, q2b, q2c⟩ := isOf hZ e1 E_o1
  obtain ⟨_, _, ⟨T2, L2, k2, n2⟩, -, X2, ⟨Lc2, hQ2, l2, y2, z2⟩, st2⟩ := X1.virtualBack hx (y := (⟨"java/lang/AbstractStringBuilder", "getValue", "()[B"⟩ : MethodName)) (z := (⟨"java/lang/AbstractStringBuilder", "getValue", "()[B"⟩ : MethodName)) hown (mvT hZ (hw _ (List.mem_of_getElem? (i := 136) rfl))) (mvT hZ (hw _ (List.mem_of_getElem? (i := 137) rfl))) (notFace_of_selects (args := #[]) (mvT hZ (hw _ (List.mem_of_getElem? (i := 139) rfl)))) (mvT hZ (hw _ (List.mem_of_getElem? (i := 139) rfl))) (mvT hZ (hw _ (List.mem_of_getElem? (i := 138) rfl))) (by decide) (backOf (W := 0) (rm23 l Z a0 hw [] o1 f_o1_value h0 n0 Z0 F_o1_value) hZ (hw _ (List.mem_of_getElem? (i := 140) rfl)) (hw _ (List.mem_of_getElem? (i := 34) rfl)) (by decide) (by decide)) q2a q2c (g := (mkF m 5 #[.val (.ref o0), .val (.ref o1), .val .null, .unset, .unset] [(.ref o1)])) rfl (by rw [hml]; rfl) (Steps.refl _) (argsL := []) (rest := []) (lenOf pd_14 rfl) rfl (by show 2 * 0 + _ ≤ _; exact Nat.le_of_eq rfl) (hb hby d22_5) (fun _ _ => ⟨rfl, e1, (by decide : 0 + 0 ≤ _), (by decide : 0 + 0 ≤ _)⟩)
  dsimp only [Pt.U, Pt.locs, Pt.cells, Pt.slots] at X2 l2 y2 z2 st2 hQ2
  subst l2 y2 z2
  obtain ⟨rfl, Nq2, q2_0⟩ := hQ2
  have N2 := Fr.app N0 Nq2
  refine Go.tr st2 ?_
  show Go p e below _ (T2.setTop (mkF m 8 #[.val (.ref o0), .val (.ref o1), .val .null, .unset, .unset] [(.ref f_o1_value)]))
  refine Go.of (fun _ k => XS.astoreN X2.here hx rfl (hb hby d22_8) rfl rfl (l' := #[.val (.ref o0), .val (.ref o1), .val .null, .val (.ref f_o1_value), .unset]) rfl k) ?_
  show Go p e below _ (T2.setTop (mkF m 9 #[.val (.ref o0), .val (.ref o1), .val .null, .val (.ref f_o1_value), .unset] []))
  refine Go.of (fun _ k => XS.aloadN X2.here hx rfl (hb hby d22_9) rfl rfl k) ?_
  show Go p e below _ (T2.setTop (mkF m 10 #[.val (.ref o0), .val (.ref o1), .val .null, .val (.ref f_o1_value), .unset] [(.ref o1)]))
  obtain ⟨cq3, kq3, q3a, q3b, q3c⟩ := isOf hZ q2_0 E_o1
  obtain ⟨_, _, ⟨T3, L3, k3, n3⟩, -, X3, ⟨Lc3, hQ3, l3, y3, z3⟩, st3⟩ := X2.virtualBack hx (y := (⟨"java/lang/AbstractStringBuilder", "length", "()I"⟩ : MethodName)) (z := (⟨"java/lang/StringBuilder", "length", "()I"⟩ : MethodName)) hown (mvT hZ (hw _ (List.mem_of_getElem? (i := 141) rfl))) (mvT hZ (hw _ (List.mem_of_getElem? (i := 142) rfl))) (own_nf (args := #[]) (mvT hZ (hw _ (List.mem_of_getElem? (i := 63) rfl))) rfl) (mvT hZ (hw _ (List.mem_of_getElem? (i := 144) rfl))) (mvT hZ (hw _ (List.mem_of_getElem? (i := 145) rfl))) (by decide) (backOf (W := 0) (rm24 l Z a0 hw [] o1 (3 : Int32) h0 n0 Z0 F_o1_count E_o1) hZ (hw _ (List.mem_of_getElem? (i := 146) rfl)) (hw _ (List.mem_of_getElem? (i := 26) rfl)) (by decide) (by decide)) q3a q3c (g := (mkF m 10 #[.val (.ref o0), .val (.ref o1), .val .null, .val (.ref f_o1_value), .unset] [(.ref o1)])) rfl (by rw [hml]; rfl) (Steps.refl _) (argsL := []) (rest := []) (lenOf pd_8 rfl) rfl (by show 2 * 0 + _ ≤ _; exact Nat.le_of_eq rfl) (hb hby d22_10) (fun _ _ => ⟨rfl, q2_0, (by decide : 0 + 0 ≤ _), (by decide : 0 + 0 ≤ _)⟩)
  dsimp only [Pt.U, Pt.locs, Pt.cells, Pt.slots] at X3 l3 y3 z3 st3 hQ3
  subst l3 y3 z3
  obtain ⟨rfl, Nq3, q3_0⟩ := hQ3
  have N3 := Fr.app N2 Nq3
  refine Go.tr st3 ?_
  show Go p e below _ (T3.setTop (mkF m 13 #[.val (.ref o0), .val (.ref o1), .val .null, .val (.ref f_o1_value), .unset] [(.int (3 : Int32))]))
  refine Go.of (fun _ k => XS.istore X3.here hx rfl (hb hby d22_13) rfl (l' := #[.val (.ref o0), .val (.ref o1), .val .null, .val (.ref f_o1_value), .val (.int (3 : Int32))]) rfl k) ?_
  show Go p e below _ (T3.setTop (mkF m 15 #[.val (.ref o0), .val (.ref o1), .val .null, .val (.ref f_o1_value), .val (.int (3 : Int32))] []))
  refine Go.of (fun _ k => XS.aloadN X3.here hx rfl (hb hby d22_15) rfl rfl k) ?_
  show Go p e below _ (T3.setTop (mkF m 16 #[.val (.ref o0), .val (.ref o1), .val .null, .val (.ref f_o1_value), .val (.int (3 : Int32))] [(.ref o1)]))
  obtain ⟨cq4, kq4, q4a, q4b, q4c⟩ := isOf hZ q3_0 E_o1
  obtain ⟨_, _, ⟨T4, L4, k4, n4⟩, -, X4, ⟨Lc4, hQ4, l4, y4, z4⟩, st4⟩ := X3.virtualBack hx (y := (⟨"java/lang/AbstractStringBuilder", "isLatin1", "()Z"⟩ : MethodName)) (z := (⟨"java/lang/AbstractStringBuilder", "isLatin1", "()Z"⟩ : MethodName)) hown (mvT hZ (hw _ (List.mem_of_getElem? (i := 149) rfl))) (mvT hZ (hw _ (List.mem_of_getElem? (i := 66) rfl))) (notFace_of_selects (args := #[]) (mvT hZ (hw _ (List.mem_of_getElem? (i := 68) rfl)))) (mvT hZ (hw _ (List.mem_of_getElem? (i := 68) rfl))) (mvT hZ (hw _ (List.mem_of_getElem? (i := 67) rfl))) (by decide) (backOf (W := 0) (rm11 l Z a0 hw [] o1 w_COMPACT_STRINGS h0 n0 Z0 S_COMPACT_STRINGS hc3_4 F_o1_coder) hZ (hw _ (List.mem_of_getElem? (i := 69) rfl)) (hw _ (List.mem_of_getElem? (i := 34) rfl)) (by decide) (by decide)) q4a q4c (g := (mkF m 16 #[.val (.ref o0), .val (.ref o1), .val .null, .val (.ref f_o1_value), .val (.int (3 : Int32))] [(.ref o1)])) rfl (by rw [hml]; rfl) (Steps.refl _) (argsL := []) (rest := []) (lenOf pd_2 rfl) rfl (by show 2 * 0 + _ ≤ _; exact Nat.le_of_eq rfl) (hb hby d22_16) (fun _ _ => ⟨rfl, q3_0, (by decide : 0 + 0 ≤ _), (by decide : 0 + 0 ≤ _)⟩)
  dsimp only [Pt.U, Pt.locs, Pt.cells, Pt.slots] at X4 l4 y4 z4 st4 hQ4
  subst l4 y4 z4
  obtain ⟨rfl, Nq4, q4_0⟩ := hQ4
  have N4 := Fr.app N3 Nq4
  refine Go.tr st4 ?_
  show Go p e below _ (T4.setTop (mkF m 19 #[.val (.ref o0), .val (.ref o1), .val .null, .val (.ref f_o1_value), .val (.int (3 : Int32))] [(.int (1 : Int32))]))
  refine Go.of (fun _ k => XS.ifNo X4.here hx rfl (hb hby d22_19) rfl ((if0 _ _).trans (feq (by decide : ¬ ((1 : Int32) = (0 : Int32)))).1) k) ?_
  show Go p e below _ (T4.setTop (mkF m 22 #[.val (.ref o0), .val (.ref o1), .val .null, .val (.ref f_o1_value), .val (.int (3 : Int32))] []))
  refine Go.of (fun _ k => XS.aloadN X4.here hx rfl (hb hby d22_22) rfl rfl k) ?_
  show Go p e below _ (T4.setTop (mkF m 23 #[.val (.ref o0), .val (.ref o1), .val .null, .val (.ref f_o1_value), .val (.int (3 : Int32))] [(.ref o0)]))
  refine Go.of (fun _ k => XS.iconst X4.here hx rfl (hb hby d22_23) k) ?_
  show Go p e below _ (T4.setTop (mkF m 24 #[.val (.ref o0), .val (.ref o1), .val .null, .val (.ref f_o1_value), .val (.int (3 : Int32))] [(.int (0 : Int32)), (.ref o0)]))
  obtain ⟨T5, h5, X5, e5, W5, st5⟩ := putFN X4 hx hZ hown (hw _ (List.mem_of_getElem? (i := 101) rfl)) Via.refl q4_0 F_o0_coder E_o0 (Or.inr ⟨(hw _ (List.mem_of_getElem? (i := 77) rfl)), rfl, hnm⟩) (hw _ (List.mem_of_getElem? (i := 75) rfl)) (ty := .byte) (v' := .int (0 : Int32)) (by decide) rfl rfl (g := (mkF m 24 #[.val (.ref o0), .val (.ref o1), .val .null, .val (.ref f_o1_value), .val (.int (3 : Int32))] [(.int (0 : Int32)), (.ref o0)])) rfl rfl (hb hby d22_24)
  refine Go.of st5 ?_
  have N5 := Fr.snoc X5 N4 g_o0
  have K5 : Keep h0 h5 [o0] := ((Keep.refl h0 [o0])).wr W5 (Or.inl (List.mem_of_getElem? (i := 0) rfl))
  have Z5 : n0 ≤ h5.size := Nat.le_trans Z0 (Keep.of_wr W5).1
  have f6 : Fld Z h5 o0 "java/lang/String" "coder" "B" (.int (0 : Int32)) := Fld.same W5 F_o0_coder
  show Go p e below _ (T5.setTop (mkF m 27 #[.val (.ref o0), .val (.ref o1), .val .null, .val (.ref f_o1_value), .val (.int (3 : Int32))] []))
  refine Go.of (fun _ k => XS.aloadN X5.here hx rfl (hb hby d22_27) rfl rfl k) ?_
  show Go p e below _ (T5.setTop (mkF m 28 #[.val (.ref o0), .val (.ref o1), .val .null, .val (.ref f_o1_value), .val (.int (3 : Int32))] [(.ref o0)]))
  refine Go.of (fun _ k => XS.aloadN X5.here hx rfl (hb hby d22_28) rfl rfl k) ?_
  show Go p e below _ (T5.setTop (mkF m 29 #[.val (.ref o0), .val (.ref o1), .val .null, .val (.ref f_o1_value), .val (.int (3 : Int32))] [(.ref f_o1_value), (.ref o0)]))
  refine Go.of (fun _ k => XS.iconst X5.here hx rfl (hb hby d22_29) k) ?_
  show Go p e below _ (T5.setTop (mkF m 30 #[.val (.ref o0), .val (.ref o1), .val .null, .val (.ref f_o1_value), .val (.int (3 : Int32))] [(.int (0 : Int32)), (.ref f_o1_value), (.ref o0)]))
  refine Go.of (fun _ k => XS.iload X5.here hx rfl (hb hby d22_30) rfl  k) ?_
  show Go p e below _ (T5.setTop (mkF m 32 #[.val (.ref o0), .val (.ref o1), .val .null, .val (.ref f_o1_value), .val (.int (3 : Int32))] [(.int (3 : Int32)), (.int (0 : Int32)), (.ref f_o1_value), (.ref o0)]))
  have c8 : Arv Z h5 f_o1_value kv .byte (16 : Int32) [(.int cb0), (.int cb1), (.int cb2), (.int (0 : Int32)), (.int (0 : Int32)), (.int (0 : Int32)), (.int (0 : Int32)), (.int (0 : Int32)), (.int (0 : Int32)), (.int (0 : Int32)), (.int (0 : Int32)), (.int (0 : Int32)), (.int (0 : Int32)), (.int (0 : Int32)), (.int (0 : Int32)), (.int (0 : Int32))] (.int (0 : Int32)) := (V_f_o1_value.other W5 ne_f_o1_value_o0)
  obtain ⟨_, _, ⟨T7, L7, k7, n7⟩, -, X7, ⟨Lc7, hQ7, l7, y7, z7⟩, st7⟩ := Jvm.LawKit.callS X5 hx (y := (⟨"java/util/Arrays", "copyOfRange", "([BII)[B"⟩ : MethodName)) hown (mvT hZ (hw _ (List.mem_of_getElem? (i := 150) rfl))) (mvT hZ (hw _ (List.mem_of_getElem? (i := 151) rfl))) (mvT hZ (hw _ (List.mem_of_getElem? (i := 152) rfl))) (mvT hZ (hw _ (List.mem_of_getElem? (i := 153) rfl))) (by decide) (backOf (W := 1) (rm26_3 l Z a0 hw [] f_o1_value cb0 cb1 cb2 kv h5 n0 Z5 c8) hZ (hw _ (List.mem_of_getElem? (i := 153) rfl)) (hw _ (List.mem_of_getElem? (i := 152) rfl)) (by decide) (by decide)) (g := (mkF m 32 #[.val (.ref o0), .val (.ref o1), .val .null, .val (.ref f_o1_value), .val (.int (3 : Int32))] [(.int (3 : Int32)), (.int (0 : Int32)), (.ref f_o1_value), (.ref o0)])) rfl (by rw [hml]; rfl) (argsL := [(.ref f_o1_value), (.int (0 : Int32)), (.int (3 : Int32))]) (rest := [(.ref o0)]) (lenOf pd_13 rfl) rfl (by show 2 * 0 + _ ≤ _; exact Nat.le_of_eq rfl) (hb hby d22_32) (fun _ _ => ⟨rfl, e5, (by decide : 0 + 1 ≤ _), (by decide : 0 + 3 ≤ _)⟩)
  dsimp only [Pt.U, Pt.locs, Pt.cells, Pt.slots] at X7 l7 y7 z7 st7 hQ7
  subst l7 y7 z7
  obtain ⟨r_7, rk1_7, rfl, Nq7, q7_0, q7_1, q7_2⟩ := hQ7
  have N7 := Fr.app N5 Nq7
  refine Go.of st7 ?_
  have K7 : Keep h0 T7.heap [o0] := (K5).trans q7_0 all0
  have Z7 : n0 ≤ T7.heap.size := Nat.le_trans Z5 q7_0.1
  have g_r_7 : n0 ≤ r_7 := q7_1.2
  have sz_r_7 : h0.size ≤ r_7 := Nat.le_trans (K5).1 q7_1.1
  show Go p e below _ (T7.setTop (mkF m 35 #[.val (.ref o0), .val (.ref o1), .val .null, .val (.ref f_o1_value), .val (.int (3 : Int32))] [(.ref r_7), (.ref o0)]))
  have c9 : Fld Z h5 o0 "java/lang/String" "value" "[B" u_o0_value := (Fld.other W5 F_o0_value (Or.inr (slot_ne (Or.inr (hw _ (List.mem_of_getElem? (i := 76) rfl))) (Or.inr (hw _ (List.mem_of_getElem? (i := 77) rfl))) (by decide) (t := (.array .byte)) (t' := .byte) (by decide) (by decide))))
  have c10 : Fld Z T7.heap o0 "java/lang/String" "value" "[B" u_o0_value := (c9.keep q7_0 nin0)
  have c11 : Exa Z h5 o0 "java/lang/String" := (Exa.wr W5 E_o0)
  have c12 : Exa Z T7.heap o0 "java/lang/String" := (c11.keep q7_0)
  obtain ⟨T13, h13, X13, e13, W13, st13⟩ := putF X7 hx hZ hown (host := "") (Or.inl (hw _ (List.mem_of_getElem? (i := 94) rfl))) Via.refl rfl c10 c12 (Or.inr ⟨(hw _ (List.mem_of_getElem? (i := 76) rfl)), rfl, hnm⟩) (hw _ (List.mem_of_getElem? (i := 75) rfl)) (ty := (.array .byte)) (by decide) rfl rfl (g := (mkF m 35 #[.val (.ref o0), .val (.ref o1), .val .null, .val (.ref f_o1_value), .val (.int (3 : Int32))] [(.ref r_7), (.ref o0)])) rfl rfl (hb hby d22_35)
  refine Go.of st13 ?_
  have N13 := Fr.snoc X13 N7 g_o0
  have K13 : Keep h0 h13 [o0] := (K7).wr W13 (Or.inl (List.mem_of_getElem? (i := 0) rfl))
  have Z13 : n0 ≤ h13.size := Nat.le_trans Z7 (Keep.of_wr W13).1
  have f14 : Fld Z h13 o0 "java/lang/String" "value" "[B" (.ref r_7) := Fld.same W13 c10
  show Go p e below _ (T13.setTop (mkF m 38 #[.val (.ref o0), .val (.ref o1), .val .null, .val (.ref f_o1_value), .val (.int (3 : Int32))] []))
  refine Go.of (fun _ k => XS.goto X13.here hx rfl (pc0 := 38) (pc' := 97) rfl (hb hby d22_38) (by decide) (by decide) k) ?_
  show Go p e below _ (T13.setTop (mkF m 97 #[.val (.ref o0), .val (.ref o1), .val .null, .val (.ref f_o1_value), .val (.int (3 : Int32))] []))
  have c16 : Exa Z h13 o0 "java/lang/String" := (Exa.wr W13 c12)
  have c17 : Fld Z T7.heap o0 "java/lang/String" "coder" "B" (.int (0 : Int32)) := (f6.keep q7_0 nin0)
  have c18 : Fld Z h13 o0 "java/lang/String" "coder" "B" (.int (0 : Int32)) := (Fld.other W13 c17 (Or.inr (slot_ne (Or.inr (hw _ (List.mem_of_getElem? (i := 77) rfl))) (Or.inr (hw _ (List.mem_of_getElem? (i := 76) rfl))) (by decide) (t := .byte) (t' := (.array .byte)) (by decide) (by decide))))
  have c19 : Arv Z h13 r_7 rk1_7 .byte (3 : Int32) [(.int cb0), (.int cb1), (.int cb2)] (.int (0 : Int32)) := (q7_2.other W13 (Ne.symm (Nat.ne_of_lt (Nat.lt_of_lt_of_le c11.lt q7_1.1))))
  obtain ⟨fs, hr, hrun, hended, hW, hsame⟩ := X13.leave (v := none) (fun _ => rfl)
  refine Go.mk _ _ ?_ hrun hended ⟨_, _, rfl, ?_, ⟨_, rfl⟩, hW, hsame.mono (by decide) (by decide)⟩
  · exact X13.returnOut hx Bd.returns (hb hby d22_97) hr
  · show Q22_3 Z o0 o1 cb0 cb1 cb2 f_o1_value w_COMPACT_STRINGS u_o0_coder kv u_o0_value h0 n0 _ T13.heap _
    rw [e13]
    exact ⟨r_7, rk1_7, rfl, N13, K13, c16, c18, f14, ⟨sz_r_7, g_r_7⟩, c19⟩
def Q21_3 (Z : State) (o0 : Addr) (o1 : Addr) (cb0 : Int32) (cb1 : Int32) (cb2 : Int32) (f_o1_value : Addr) (w_COMPACT_STRINGS : Int32) (u_o0_coder : Value) (kv : ClassId) (u_o0_value : Value) (h0 : Heap) (n0 : Nat) (v : Option Value) (h : Heap) (L : List Loc) : Prop := ∃ r0 : Addr, ∃ rk1 : ClassId, v = none ∧ Fr n0 L ∧ Keep h0 h [o0] ∧ Exa Z h o0 "java/lang/String" ∧ Fld Z h o0 "java/lang/String" "coder" "B" (.int (0 : Int32)) ∧ Fld Z h o0 "java/lang/String" "value" "[B" (.ref r0) ∧ (h0.size ≤ r0 ∧ n0 ≤ r0) ∧ Arv Z h r0 rk1 .byte (3 : Int32) [(.int cb0), (.int cb1), (.int cb2)] (.int (0 : Int32))
set_option maxRecDepth 65536 in
set_option maxHeartbeats 40000000 in
theorem rm21_3 (l : Launch) (Z : State) (a0 : Array Value) (hw : ∀ d ∈ tables_1, d.before a0 Z = true) (ws : List Jvm.Cond) (o0 : Addr) (o1 : Addr) (cb0 : Int32) (cb1 : Int32) (cb2 : Int32) (f_o1_value : Addr) (w_COMPACT_STRINGS : Int32) (u_o0_coder : Value) (kv : ClassId) (u_o0_value : Value) (h0 : Heap) (n0 : Nat) (Z0 : n0 ≤ h0.size) (F_o1_value : Fld Z h0 o1 "java/lang/AbstractStringBuilder" "value" "[B" (.ref f_o1_value)) (E_o1 : Exa Z h0 o1 "java/lang/StringBuilder") (F_o1_count : Fld Z h0 o1 "java/lang/AbstractStringBuilder" "count" "I" (.int (3 : Int32))) (S_COMPACT_STRINGS : Sta Z h0 "java/lang/String" "COMPACT_STRINGS" "Z" (.int w_COMPACT_STRINGS)) (hc3_4_1 : ¬ (w_COMPACT_STRINGS = (0 : Int32))) (F_o1_coder : Fld Z h0 o1 "java/lang/AbstractStringBuilder" "coder" "B" (.int (0 : Int32))) (E_o0 : Exa Z h0 o0 "java/lang/String") (F_o0_coder : Fld Z h0 o0 "java/lang/String" "coder" "B" u_o0_coder) (g_o0 : n0 ≤ o0) (V_f_o1_value : Arv Z h0 f_o1_value kv .byte (16 : Int32) [(.int cb0), (.int cb1), (.int cb2), (.int (0 : Int32)), (.int (0 : Int32)), (.int (0 : Int32)), (.int (0 : Int32)), (.int (0 : Int32)), (.int (0 : Int32)), (.int (0 : Int32)), (.int (0 : Int32)), (.int (0 : Int32)), (.int (0 : Int32)), (.int (0 : Int32)), (.int (0 : Int32)), (.int (0 : Int32))] (.int (0 : Int32))) (ne_f_o1_value_o0 : f_o1_value ≠ o0) (F_o0_value : Fld Z h0 o0 "java/lang/String" "value" "[B" u_o0_value) :
    MetFree l (⟨"java/lang/String", "<init>", "(Ljava/lang/StringBuilder;)V"⟩ : MethodName) (head1 (Jvm.Cond.code (⟨"java/lang/String", "<init>", "(Ljava/lang/StringBuilder;)V"⟩ : MethodName) jdk_42_method_53_code 2 none :: ws) ({ frames := 4, cells := 1, slots := 3, locals := 79 } : Room)) (fun a U => a = #[(.ref o0), (.ref o1)] ∧ Z.Warmed39 U.vm ∧ U.heap = h0) (fun _ _ _ _ _ => True) (fun _ U o U' => ∃ v L, o = .returned v ∧ Q21_3 Z o0 o1 cb0 cb1 cb2 f_o1_value w_COMPACT_STRINGS u_o0_coder kv u_o0_value h0 n0 v U'.heap L ∧ FrameEnd U o U' L ({ frames := 4, cells := 1, slots := 3, locals := 79 } : Room).cells ({ frames := 4, cells := 1, slots := 3, locals := 79 } : Room).slots) := by
  refine MetFree.of_bodySF (plainFor_of_name pn_java_lang_String) hisR ?_
  intro p e s m args below meth c s₁ Bd hml0 hP hK
  obtain ⟨rfl, hZ, hh⟩ := hP
  have hx := Bd.exec
  have hby := Bd.bytes
  have hml : c.maxLocals = 2 := hml0
  have hown : s.vm.findClass "java/lang/String" = some m.cls := findClass_of_methodNamed Bd.named
  have hnm := (name_of_methodNamed Bd.named Bd.method).1
  have X0 : Stand p l e ({ frames := 4, cells := 1, slots := 3, locals := 79 } : Room) s m #[(.ref o0), (.ref o1)] below meth c s₁ [] 0 0 := Stand.of_body Bd
  have e0 : s₁.heap = h0 := by rw [← hh, Bd.state]; rfl
  have N0 := Fr.nil n0
  show Go p e below (fun o U' => ∃ v L, o = .returned v ∧ Q21_3 Z o0 o1 cb0 cb1 cb2 f_o1_value w_COMPACT_STRINGS u_o0_coder kv u_o0_value h0 n0 v U'.heap L ∧ FrameEnd s o U' L ({ frames := 4, cells := 1, slots := 3, locals := 79 } : Room).cells ({ frames := 4, cells := 1, slots := 3, locals := 79 } : Room).slots) (s₁.setTop (entryFrame m #[(.ref o0), (.ref o1)] 2))
  refine Go.of (fun _ k => castTop (ef_21 m o0 o1) k) ?_
  show Go p e below _ (s₁.setTop (mkF m 0 #[.val (.ref o0), .val (.ref o1)] []))
  refine Go.of (fun _ k => XS.aloadN X0.here hx rfl (hb hby d21_0) rfl rfl k) ?_
  show Go p e below _ (s₁.setTop (mkF m 1 #[.val (.ref o0), .val (.ref o1)] [(.ref o0)]))
  refine Go.of (fun _ k => XS.aloadN X0.here hx rfl (hb hby d21_1) rfl rfl k) ?_
  show Go p e below _ (s₁.setTop (mkF m 2 #[.val (.ref o0), .val (.ref o1)] [(.ref o1), (.ref o0)]))
  refine Go.of (fun _ k => XS.aconstNull X0.here hx rfl (hb hby d21_2) k) ?_
  show Go p e below _ (s₁.setTop (mkF m 3 #[.val (.ref o0), .val (.ref o1)] [.null, (.ref o1), (.ref o0)]))
  obtain ⟨_, _, ⟨T1, L1, k1, n1⟩, -, X1, ⟨Lc1, hQ1, l1, y1, z1⟩, st1⟩ := X0.specialBack hx (y := (⟨"java/lang/String", "<init>", "(Ljava/lang/AbstractStringBuilder;Ljava/lang/Void;)V"⟩ : MethodName)) rfl hown (mvT hZ (hw _ (List.mem_of_getElem? (i := 132) rfl))) (mvT hZ (hw _ (List.mem_of_getElem? (i := 133) rfl))) (mvT hZ (hw _ (List.mem_of_getElem? (i := 134) rfl))) (by decide) (backOf (W := 0) (rm22_3 l Z a0 hw [] o0 o1 cb0 cb1 cb2 f_o1_value w_COMPACT_STRINGS u_o0_coder kv u_o0_value h0 n0 Z0 F_o1_value E_o1 F_o1_count S_COMPACT_STRINGS hc3_4_1 F_o1_coder E_o0 F_o0_coder g_o0 V_f_o1_value ne_f_o1_value_o0 F_o0_value) hZ (hw _ (List.mem_of_getElem? (i := 134) rfl)) (hw _ (List.mem_of_getElem? (i := 38) rfl)) (by decide) (by decide)) (g := (mkF m 3 #[.val (.ref o0), .val (.ref o1)] [.null, (.ref o1), (.ref o0)])) rfl (by rw [hml]; rfl) (Steps.refl _) (a := o0) (argsL := [(.ref o1), .null]) (rest := []) (lenOf pd_15 rfl) rfl (by show 2 * 0 + _ ≤ _; exact Nat.le_of_eq rfl) (hb hby d21_3) (fun _ _ => ⟨rfl, e0, (by decide : 0 + 1 ≤ _), (by decide : 0 + 3 ≤ _)⟩)
  dsimp only [Pt.U, Pt.locs, Pt.cells, Pt.slots] at X1 l1 y1 z1 st1 hQ1
  subst l1 y1 z1
  obtain ⟨r0_1, rk1_1, rfl, Nq1, q1_0, q1_1, q1_2, q1_3, q1_4, q1_5⟩ := hQ1
  have N1 := Fr.app N0 Nq1
  refine Go.tr st1 ?_
  have K1 : Keep h0 T1.heap [o0] := ((Keep.refl h0 [o0])).trans q1_0 (allS (Or.inl (List.mem_of_getElem? (i := 0) rfl)) all0)
  have Z1 : n0 ≤ T1.heap.size := Nat.le_trans Z0 q1_0.1
  have g_r0_1 : n0 ≤ r0_1 := q1_4.2
  have sz_r0_1 : h0.size ≤ r0_1 := Nat.le_trans ((Keep.refl h0 [o0])).1 q1_4.1
  show Go p e below _ (T1.setTop (mkF m 6 #[.val (.ref o0), .val (.ref o1)] []))
  obtain ⟨fs, hr, hrun, hended, hW, hsame⟩ := X1.leave (v := none) (fun _ => rfl)
  refine Go.mk _ _ ?_ hrun hended ⟨_, _, rfl, ?_, ⟨_, rfl⟩, hW, hsame.mono (by decide) (by decide)⟩
  · exact X1.returnOut hx Bd.returns (hb hby d21_6) hr
  · show Q21_3 Z o0 o1 cb0 cb1 cb2 f_o1_value w_COMPACT_STRINGS u_o0_coder kv u_o0_value h0 n0 _ T1.heap _
    exact ⟨r0_1, rk1_1, rfl, N1, K1, q1_1, q1_2, q1_3, ⟨sz_r0_1, g_r0_1⟩, q1_5⟩
def Q20_3 (Z : State) (o0 : Addr) (cb0 : Int32) (cb1 : Int32) (cb2 : Int32) (f_o0_value : Addr) (w_COMPACT_STRINGS : Int32) (kv : ClassId) (h0 : Heap) (n0 : Nat) (v : Option Value) (h : Heap) (L : List Loc) : Prop := ∃ r : Addr, ∃ r1 : Addr, ∃ rk2 : ClassId, v = some (.ref r) ∧ Fr n0 L ∧ Keep h0 h [] ∧ (h0.size ≤ r ∧ n0 ≤ r) ∧ Exa Z h r "java/lang/String" ∧ Fld Z h r "java/lang/String" "coder" "B" (.int (0 : Int32)) ∧ Fld Z h r "java/lang/String" "value" "[B" (.ref r1) ∧ (h0.size ≤ r1 ∧ n0 ≤ r1) ∧ Arv Z h r1 rk2 .byte (3 : Int32) [(.int cb0), (.int cb1), (.int cb2)] (.int (0 : Int32))
set_option maxRecDepth 65536 in
set_option maxHeartbeats 40000000 in
theorem rm20_3 (l : Launch) (Z : State) (a0 : Array Value) (hw : ∀ d ∈ tables_1, d.before a0 Z = true) (ws : List Jvm.Cond) (o0 : Addr) (cb0 : Int32) (cb1 : Int32) (cb2 : Int32) (f_o0_value : Addr) (w_COMPACT_STRINGS : Int32) (kv : ClassId) (h0 : Heap) (n0 : Nat) (Z0 : n0 ≤ h0.size) (F_o0_value : Fld Z h0 o0 "java/lang/AbstractStringBuilder" "value" "[B" (.ref f_o0_value)) (E_o0 : Exa Z h0 o0 "java/lang/StringBuilder") (F_o0_count : Fld Z h0 o0 "java/lang/AbstractStringBuilder" "count" "I" (.int (3 : Int32))) (S_COMPACT_STRINGS : Sta Z h0 "java/lang/String" "COMPACT_STRINGS" "Z" (.int w_COMPACT_STRINGS)) (hc3_4_1_4 : ¬ (w_COMPACT_STRINGS = (0 : Int32))) (F_o0_coder : Fld Z h0 o0 "java/lang/AbstractStringBuilder" "coder" "B" (.int (0 : Int32))) (V_f_o0_value : Arv Z h0 f_o0_value kv .byte (16 : Int32) [(.int cb0), (.int cb1), (.int cb2), (.int (0 : Int32)), (.int (0 : Int32)), (.int (0 : Int32)), (.int (0 : Int32)), (.int (0 : Int32)), (.int (0 : Int32)), (.int (0 : Int32)), (.int (0 : Int32)), (.int (0 : Int32)), (.int (0 : Int32)), (.int (0 : Int32)), (.int (0 : Int32)), (.int (0 : Int32))] (.int (0 : Int32))) :
    MetFree l (⟨"java/lang/StringBuilder", "toString", "()Ljava/lang/String;"⟩ : MethodName) (head1 (Jvm.Cond.code (⟨"java/lang/StringBuilder", "toString", "()Ljava/lang/String;"⟩ : MethodName) jdk_67_method_42_code 1 (some (.object "java/lang/String")) :: ws) ({ frames := 5, cells := 2, slots := 7, locals := 93 } : Room)) (fun a U => a = #[(.ref o0)] ∧ Z.Warmed39 U.vm ∧ U.heap = h0) (fun _ _ _ _ _ => True) (fun _ U o U' => ∃ v L, o = .returned v ∧ Q20_3 Z o0 cb0 cb1 cb2 f_o0_value w_COMPACT_STRINGS kv h0 n0 v U'.heap L ∧ FrameEnd U o U' L ({ frames := 5, cells := 2, slots := 7, locals := 93 } : Room).cells ({ frames := 5, cells := 2, slots := 7, locals := 93 } : Room).slots) := by
  refine MetFree.of_bodySF (plainFor_of_name pn_java_lang_StringBuilder) hisR ?_
  intro p e s m args below meth c s₁ Bd hml0 hP hK
  obtain ⟨rfl, hZ, hh⟩ := hP
  have hx := Bd.exec
  have hby := Bd.bytes
  have hml : c.maxLocals = 1 := hml0
  have hown : s.vm.findClass "java/lang/StringBuilder" = some m.cls := findClass_of_methodNamed Bd.named
  have hnm := (name_of_methodNamed Bd.named Bd.method).1
  have X0 : Stand p l e ({ frames := 5, cells := 2, slots := 7, locals := 93 } : Room) s m #[(.ref o0)] below meth c s₁ [] 0 0 := Stand.of_body Bd
  have e0 : s₁.heap = h0 := by rw [← hh, Bd.state]; rfl
  have N0 := Fr.nil n0
  show Go p e below (fun o U' => ∃ v L, o = .returned v ∧ Q20_3 Z o0 cb0 cb1 cb2 f_o0_value w_COMPACT_STRINGS kv h0 n0 v U'.heap L ∧ FrameEnd s o U' L ({ frames := 5, cells := 2, slots := 7, locals := 93 } : Room).cells ({ frames := 5, cells := 2, slots := 7, locals := 93 } : Room).slots) (s₁.setTop (entryFrame m #[(.ref o0)] 1))
  refine Go.of (fun _ k => castTop (ef_20 m o0) k) ?_
  show Go p e below _ (s₁.setTop (mkF m 0 #[.val (.ref o0)] []))
  obtain ⟨T1, h1, X1, e1, E1, A1, D1, -, st1⟩ := newO X0 hx hZ hown (hw _ (List.mem_of_getElem? (i := 127) rfl)) (hw _ (List.mem_of_getElem? (i := 75) rfl)) (hw _ (List.mem_of_getElem? (i := 38) rfl)) e0 (g := (mkF m 0 #[.val (.ref o0)] [])) rfl (hb hby d20_0) (by decide) (by decide)
  obtain ⟨ob1, g1⟩ : ∃ z, z = h0.size := ⟨_, rfl⟩
  rw [← g1] at A1 D1 st1
  refine Go.of st1 ?_
  have g_ob1 : n0 ≤ ob1 := Nat.le_trans Z0 (Nat.le_of_eq g1.symm)
  have sz_ob1 : h0.size ≤ ob1 := Nat.le_trans ((Keep.refl h0 [])).1 (Nat.le_of_eq g1.symm)
  have K1 : Keep h0 h1 [] := ((Keep.refl h0 [])).ext E1
  have Z1 : n0 ≤ h1.size := Nat.le_trans Z0 E1.1
  have f2 : Fld Z h1 ob1 "java/lang/String" "value" "[B" .null := D1 (Or.inr (hw _ (List.mem_of_getElem? (i := 76) rfl))) (ty := (.array .byte)) (by decide)
  have f3 : Fld Z h1 ob1 "java/lang/String" "coder" "B" (.int (0 : Int32)) := D1 (Or.inr (hw _ (List.mem_of_getElem? (i := 77) rfl))) (ty := .byte) (by decide)
  show Go p e below _ (T1.setTop (mkF m 3 #[.val (.ref o0)] [(.ref ob1)]))
  refine Go.of (fun _ k => XS.dup X1.here hx rfl (hb hby d20_3) rfl rfl k) ?_
  show Go p e below _ (T1.setTop (mkF m 4 #[.val (.ref o0)] [(.ref ob1), (.ref ob1)]))
  refine Go.of (fun _ k => XS.aloadN X1.here hx rfl (hb hby d20_4) rfl rfl k) ?_
  show Go p e below _ (T1.setTop (mkF m 5 #[.val (.ref o0)] [(.ref o0), (.ref ob1), (.ref ob1)]))
  have c5 : Fld Z h1 o0 "java/lang/AbstractStringBuilder" "value" "[B" (.ref f_o0_value) := (Fld.ext E1 F_o0_value)
  have c6 : Exa Z h1 o0 "java/lang/StringBuilder" := (Exa.ext E1 E_o0)
  have c7 : Fld Z h1 o0 "java/lang/AbstractStringBuilder" "count" "I" (.int (3 : Int32)) := (Fld.ext E1 F_o0_count)
  have c8 : Sta Z h1 "java/lang/String" "COMPACT_STRINGS" "Z" (.int w_COMPACT_STRINGS) := (Sta.ext E1 S_COMPACT_STRINGS)
  have c9 : Fld Z h1 o0 "java/lang/AbstractStringBuilder" "coder" "B" (.int (0 : Int32)) := (Fld.ext E1 F_o0_coder)
  have c10 : Arv Z h1 f_o0_value kv .byte (16 : Int32) [(.int cb0), (.int cb1), (.int cb2), (.int (0 : Int32)), (.int (0 : Int32)), (.int (0 : Int32)), (.int (0 : Int32)), (.int (0 : Int32)), (.int (0 : Int32)), (.int (0 : Int32)), (.int (0 : Int32)), (.int (0 : Int32)), (.int (0 : Int32)), (.int (0 : Int32)), (.int (0 : Int32)), (.int (0 : Int32))] (.int (0 : Int32)) := (V_f_o0_value.ext E1)
  obtain ⟨_, _, ⟨T4, L4, k4, n4⟩, -, X4, ⟨Lc4, hQ4, l4, y4, z4⟩, st4⟩ := X1.specialBack hx (y := (⟨"java/lang/String", "<init>", "(Ljava/lang/StringBuilder;)V"⟩ : MethodName)) rfl hown (mvT hZ (hw _ (List.mem_of_getElem? (i := 128) rfl))) (mvT hZ (hw _ (List.mem_of_getElem? (i := 129) rfl))) (mvT hZ (hw _ (List.mem_of_getElem? (i := 131) rfl))) (by decide) (backOf (W := 1) (rm21_3 l Z a0 hw [] ob1 o0 cb0 cb1 cb2 f_o0_value w_COMPACT_STRINGS (.int (0 : Int32)) kv .null h1 n0 Z1 c5 c6 c7 c8 hc3_4_1_4 c9 A1 f3 g_ob1 c10 (Nat.ne_of_lt (Nat.lt_of_lt_of_le V_f_o0_value.lt (Nat.le_of_eq g1.symm))) f2) hZ (hw _ (List.mem_of_getElem? (i := 131) rfl)) (hw _ (List.mem_of_getElem? (i := 38) rfl)) (by decide) (by decide)) (g := (mkF m 5 #[.val (.ref o0)] [(.ref o0), (.ref ob1), (.ref ob1)])) rfl (by rw [hml]; rfl) (Steps.refl _) (a := ob1) (argsL := [(.ref o0)]) (rest := [(.ref ob1)]) (lenOf pd_16 rfl) rfl (by show 2 * 0 + _ ≤ _; exact Nat.le_of_eq rfl) (hb hby d20_5) (fun _ _ => ⟨rfl, e1, (by decide : 1 + 1 ≤ _), (by decide : 4 + 3 ≤ _)⟩)
  dsimp only [Pt.U, Pt.locs, Pt.cells, Pt.slots] at X4 l4 y4 z4 st4 hQ4
  subst l4 y4 z4
  obtain ⟨r0_4, rk1_4, rfl, Nq4, q4_0, q4_1, q4_2, q4_3, q4_4, q4_5⟩ := hQ4
  have N4 := Fr.app N0 Nq4
  refine Go.tr st4 ?_
  have K4 : Keep h0 T4.heap [] := (K1).trans q4_0 (allS (Or.inr sz_ob1) all0)
  have Z4 : n0 ≤ T4.heap.size := Nat.le_trans Z1 q4_0.1
  have g_r0_4 : n0 ≤ r0_4 := q4_4.2
  have sz_r0_4 : h0.size ≤ r0_4 := Nat.le_trans (K1).1 q4_4.1
  show Go p e below _ (T4.setTop (mkF m 8 #[.val (.ref o0)] [(.ref ob1)]))
  obtain ⟨fs, hr, hrun, hended, hW, hsame⟩ := X4.leave (v := some (.ref ob1)) (fun h => by rw [Bd.returns] at h; cases h)
  refine Go.mk _ _ ?_ hrun hended ⟨_, _, rfl, ?_, ⟨_, rfl⟩, hW, hsame.mono (by decide) (by decide)⟩
  · exact retOut X4 hx Bd.returns rfl (Or.inr (Or.inr (Or.inr (Or.inr ⟨rfl, rfl, rfl⟩)))) (hb hby d20_8) hr
  · show Q20_3 Z o0 cb0 cb1 cb2 f_o0_value w_COMPACT_STRINGS kv h0 n0 _ T4.heap _
    exact ⟨ob1, r0_4, rk1_4, rfl, N4, K4, ⟨sz_ob1, g_ob1⟩, q4_1, q4_2, q4_3, ⟨sz_r0_4, g_r0_4⟩, q4_5⟩
theorem d36_0 : decode jdk_42_method_151_code 0 = .ok (.aload_n 0, 1) := by decide +kernel
theorem d36_1 : decode jdk_42_method_151_code 1 = .ok (.invokespecial 1, 3) := by decide +kernel
theorem d36_4 : decode jdk_42_method_151_code 4 = .ok (.aload_n 0, 1) := by decide +kernel
theorem d36_5 : decode jdk_42_method_151_code 5 = .ok (.aload_n 1, 1) := by decide +kernel
theorem d36_6 : decode jdk_42_method_151_code 6 = .ok (.putfield 9, 3) := by decide +kernel
theorem d36_9 : decode jdk_42_method_151_code 9 = .ok (.aload_n 0, 1) := by decide +kernel
theorem d36_10 : decode jdk_42_method_151_code 10 = .ok (.iload_n 2, 1) := by decide +kernel
theorem d36_11 : decode jdk_42_method_151_code 11 = .ok (.putfield 15, 3) := by decide +kernel
theorem d36_14 : decode jdk_42_method_151_code 14 = .ok (.return_, 1) := by decide +kernel
theorem ef_36l2_0 (m : MethodId) (x0 : Addr) (x1 : Addr) : entryFrame m #[(.ref x0), (.ref x1), (.int (0 : Int32))] 3 = mkF m 0 #[.val (.ref x0), .val (.ref x1), .val (.int (0 : Int32))] [] := by first | (simp [entryFrame, mkF, argsToLocals, Value.category]; done) | rfl
def Q36_1 (Z : State) (o0 : Addr) (o1 : Addr) (u_o0_value : Value) (u_o0_coder : Value) (h0 : Heap) (n0 : Nat) (v : Option Value) (h : Heap) (L : List Loc) : Prop := v = none ∧ Fr n0 L ∧ Keep h0 h [o0] ∧ Exa Z h o0 "java/lang/String" ∧ Fld Z h o0 "java/lang/String" "coder" "B" (.int (0 : Int32)) ∧ Fld Z h o0 "java/lang/String" "value" "[B" (.ref o1)
set_option maxRecDepth 65536 in
set_option maxHeartbeats 40000000 in
theorem rm36_1 (l : Launch) (Z : State) (a0 : Array Value) (hw : ∀ d ∈ tables_1, d.before a0 Z = true) (ws : List Jvm.Cond) (o0 : Addr) (o1 : Addr) (u_o0_value : Value) (u_o0_coder : Value) (h0 : Heap) (n0 : Nat) (Z0 : n0 ≤ h0.size) (E_o0 : Exa Z h0 o0 "java/lang/String") (F_o0_value : Fld Z h0 o0 "java/lang/String" "value" "[B" u_o0_value) (g_o0 : n0 ≤ o0) (F_o0_coder : Fld Z h0 o0 "java/lang/String" "coder" "B" u_o0_coder) :
    MetFree l (⟨"java/lang/String", "<init>", "([BB)V"⟩ : MethodName) (head1 (Jvm.Cond.code (⟨"java/lang/String", "<init>", "([BB)V"⟩ : MethodName) jdk_42_method_151_code 3 none :: ws) ({ frames := 1, cells := 0, slots := 0, locals := 12 } : Room)) (fun a U => a = #[(.ref o0), (.ref o1), (.int (0 : Int32))] ∧ Z.Warmed39 U.vm ∧ U.heap = h0) (fun _ _ _ _ _ => True) (fun _ U o U' => ∃ v L, o = .returned v ∧ Q36_1 Z o0 o1 u_o0_value u_o0_coder h0 n0 v U'.heap L ∧ FrameEnd U o U' L ({ frames := 1, cells := 0, slots := 0, locals := 12 } : Room).cells ({ frames := 1, cells := 0, slots := 0, locals := 12 } : Room).slots) := by
  refine MetFree.of_bodySF (plainFor_of_name pn_java_lang_String) hisR ?_
  intro p e s m args below meth c s₁ Bd hml0 hP hK
  obtain ⟨rfl, hZ, hh⟩ := hP
  have hx := Bd.exec
  have hby := Bd.bytes
  have hml : c.maxLocals = 3 := hml0
  have hown : s.vm.findClass "java/lang/String" = some m.cls := findClass_of_methodNamed Bd.named
  have hnm := (name_of_methodNamed Bd.named Bd.method).1
  have X0 : Stand p l e ({ frames := 1, cells := 0, slots := 0, locals := 12 } : Room) s m #[(.ref o0), (.ref o1), (.int (0 : Int32))] below meth c s₁ [] 0 0 := Stand.of_body Bd
  have e0 : s₁.heap = h0 := by rw [← hh, Bd.state]; rfl
  have N0 := Fr.nil n0
  show Go p e below (fun o U' => ∃ v L, o = .returned v ∧ Q36_1 Z o0 o1 u_o0_value u_o0_coder h0 n0 v U'.heap L ∧ FrameEnd s o U' L ({ frames := 1, cells := 0, slots := 0, locals := 12 } : Room).cells ({ frames := 1, cells := 0, slots := 0, locals := 12 } : Room).slots) (s₁.setTop (entryFrame m #[(.ref o0), (.ref o1), (.int (0 : Int32))] 3))
  refine Go.of (fun _ k => castTop (ef_36l2_0 m o0 o1) k) ?_
  show Go p e below _ (s₁.setTop (mkF m 0 #[.val (.ref o0), .val (.ref o1), .val (.int (0 : Int32))] []))
  refine Go.of (fun _ k => XS.aloadN X0.here hx rfl (hb hby d36_0) rfl rfl k) ?_
  show Go p e below _ (s₁.setTop (mkF m 1 #[.val (.ref o0), .val (.ref o1), .val (.int (0 : Int32))] [(.ref o0)]))
  obtain ⟨T1, X1, e1, st1⟩ := initO X0 hx hZ hown (hw _ (List.mem_of_getElem? (i := 135) rfl)) (hw _ (List.mem_of_getElem? (i := 13) rfl)) (hw _ (List.mem_of_getElem? (i := 14) rfl)) e0 (g := (mkF m 1 #[.val (.ref o0), .val (.ref o1), .val (.int (0 : Int32))] [(.ref o0)])) rfl (by rw [hml]; rfl) rfl (hb hby d36_1) (by decide) (W := 0) (by show 2 * 0 + _ ≤ _; exact Nat.le_of_eq rfl) (by decide)
  refine Go.of st1 ?_
  show Go p e below _ (T1.setTop (mkF m 4 #[.val (.ref o0), .val (.ref o1), .val (.int (0 : Int32))] []))
  refine Go.of (fun _ k => XS.aloadN X1.here hx rfl (hb hby d36_4) rfl rfl k) ?_
  show Go p e below _ (T1.setTop (mkF m 5 #[.val (.ref o0), .val (.ref o1), .val (.int (0 : Int32))] [(.ref o0)]))
  refine Go.of (fun _ k => XS.aloadN X1.here hx rfl (hb hby d36_5) rfl rfl k) ?_
  show Go p e below _ (T1.setTop (mkF m 6 #[.val (.ref o0), .val (.ref o1), .val (.int (0 : Int32))] [(.ref o1), (.ref o0)]))
  obtain ⟨T2, h2, X2, e2, W2, st2⟩ := putF X1 hx hZ hown (host := "") (Or.inl (hw _ (List.mem_of_getElem? (i := 94) rfl))) Via.refl e1 F_o0_value E_o0 (Or.inr ⟨(hw _ (List.mem_of_getElem? (i := 76) rfl)), rfl, hnm⟩) (hw _ (List.mem_of_getElem? (i := 75) rfl)) (ty := (.array .byte)) (by decide) rfl rfl (g := (mkF m 6 #[.val (.ref o0), .val (.ref o1), .val (.int (0 : Int32))] [(.ref o1), (.ref o0)])) rfl rfl (hb hby d36_6)
  refine Go.of st2 ?_
  have N2 := Fr.snoc X2 N0 g_o0
  have K2 : Keep h0 h2 [o0] := ((Keep.refl h0 [o0])).wr W2 (Or.inl (List.mem_of_getElem? (i := 0) rfl))
  have Z2 : n0 ≤ h2.size := Nat.le_trans Z0 (Keep.of_wr W2).1
  have f3 : Fld Z h2 o0 "java/lang/String" "value" "[B" (.ref o1) := Fld.same W2 F_o0_value
  show Go p e below _ (T2.setTop (mkF m 9 #[.val (.ref o0), .val (.ref o1), .val (.int (0 : Int32))] []))
  refine Go.of (fun _ k => XS.aloadN X2.here hx rfl (hb hby d36_9) rfl rfl k) ?_
  show Go p e below _ (T2.setTop (mkF m 10 #[.val (.ref o0), .val (.ref o1), .val (.int (0 : Int32))] [(.ref o0)]))
  refine Go.of (fun _ k => XS.iloadN X2.here hx rfl (hb hby d36_10) rfl  k) ?_
  show Go p e below _ (T2.setTop (mkF m 11 #[.val (.ref o0), .val (.ref o1), .val (.int (0 : Int32))] [(.int (0 : Int32)), (.ref o0)]))
  have c4 : Fld Z h2 o0 "java/lang/String" "coder" "B" u_o0_coder := (Fld.other W2 F_o0_coder (Or.inr (slot_ne (Or.inr (hw _ (List.mem_of_getElem? (i := 77) rfl))) (Or.inr (hw _ (List.mem_of_getElem? (i := 76) rfl))) (by decide) (t := .byte) (t' := (.array .byte)) (by decide) (by decide))))
  have c5 : Exa Z h2 o0 "java/lang/String" := (Exa.wr W2 E_o0)
  obtain ⟨T6, h6, X6, e6, W6, st6⟩ := putFN X2 hx hZ hown (hw _ (List.mem_of_getElem? (i := 101) rfl)) Via.refl e2 c4 c5 (Or.inr ⟨(hw _ (List.mem_of_getElem? (i := 77) rfl)), rfl, hnm⟩) (hw _ (List.mem_of_getElem? (i := 75) rfl)) (ty := .byte) (v' := .int (0 : Int32)) (by decide) rfl rfl (g := (mkF m 11 #[.val (.ref o0), .val (.ref o1), .val (.int (0 : Int32))] [(.int (0 : Int32)), (.ref o0)])) rfl rfl (hb hby d36_11)
  refine Go.of st6 ?_
  have N6 := Fr.snoc X6 N2 g_o0
  have K6 : Keep h0 h6 [o0] := (K2).wr W6 (Or.inl (List.mem_of_getElem? (i := 0) rfl))
  have Z6 : n0 ≤ h6.size := Nat.le_trans Z2 (Keep.of_wr W6).1
  have f7 : Fld Z h6 o0 "java/lang/String" "coder" "B" (.int (0 : Int32)) := Fld.same W6 c4
  show Go p e below _ (T6.setTop (mkF m 14 #[.val (.ref o0), .val (.ref o1), .val (.int (0 : Int32))] []))
  have c9 : Exa Z h6 o0 "java/lang/String" := (Exa.wr W6 c5)
  have c10 : Fld Z h6 o0 "java/lang/String" "value" "[B" (.ref o1) := (Fld.other W6 f3 (Or.inr (slot_ne (Or.inr (hw _ (List.mem_of_getElem? (i := 76) rfl))) (Or.inr (hw _ (List.mem_of_getElem? (i := 77) rfl))) (by decide) (t := (.array .byte)) (t' := .byte) (by decide) (by decide))))
  obtain ⟨fs, hr, hrun, hended, hW, hsame⟩ := X6.leave (v := none) (fun _ => rfl)
  refine Go.mk _ _ ?_ hrun hended ⟨_, _, rfl, ?_, ⟨_, rfl⟩, hW, hsame.mono (by decide) (by decide)⟩
  · exact X6.returnOut hx Bd.returns (hb hby d36_14) hr
  · show Q36_1 Z o0 o1 u_o0_value u_o0_coder h0 n0 _ T6.heap _
    rw [e6]
    exact ⟨rfl, N6, K6, c9, f7, c10⟩
theorem d35_0 : decode jdk_33_method_10_code 0 = .ok (.iload_n 0, 1) := by decide +kernel
theorem d35_1 : decode jdk_33_method_10_code 1 = .ok (.invokestatic 72, 3) := by decide +kernel
theorem d35_4 : decode jdk_33_method_10_code 4 = .ok (.istore_n 1, 1) := by decide +kernel
theorem d35_5 : decode jdk_33_method_10_code 5 = .ok (.getstatic 13, 3) := by decide +kernel
theorem d35_8 : decode jdk_33_method_10_code 8 = .ok (.ifCond .eq 24, 3) := by decide +kernel
theorem d35_11 : decode jdk_33_method_10_code 11 = .ok (.iload_n 1, 1) := by decide +kernel
theorem d35_12 : decode jdk_33_method_10_code 12 = .ok (.newarray .byte, 2) := by decide +kernel
theorem d35_14 : decode jdk_33_method_10_code 14 = .ok (.astore_n 2, 1) := by decide +kernel
theorem d35_15 : decode jdk_33_method_10_code 15 = .ok (.iload_n 0, 1) := by decide +kernel
theorem d35_16 : decode jdk_33_method_10_code 16 = .ok (.iload_n 1, 1) := by decide +kernel
theorem d35_17 : decode jdk_33_method_10_code 17 = .ok (.aload_n 2, 1) := by decide +kernel
theorem d35_18 : decode jdk_33_method_10_code 18 = .ok (.invokestatic 75, 3) := by decide +kernel
theorem d35_21 : decode jdk_33_method_10_code 21 = .ok (.pop, 1) := by decide +kernel
theorem d35_22 : decode jdk_33_method_10_code 22 = .ok (.new 5, 3) := by decide +kernel
theorem d35_25 : decode jdk_33_method_10_code 25 = .ok (.dup, 1) := by decide +kernel
theorem d35_26 : decode jdk_33_method_10_code 26 = .ok (.aload_n 2, 1) := by decide +kernel
theorem d35_27 : decode jdk_33_method_10_code 27 = .ok (.iconst 0, 1) := by decide +kernel
theorem d35_28 : decode jdk_33_method_10_code 28 = .ok (.invokespecial 65, 3) := by decide +kernel
theorem pd_17 : parseMethodDescriptor "([BB)V" = some ⟨[(.array .byte), .byte], none⟩ := by decide +kernel
theorem d35_31 : decode jdk_33_method_10_code 31 = .ok (.areturn, 1) := by decide +kernel
theorem ef_35 (m : MethodId) (x0 : Int32) : entryFrame m #[(.int x0)] 3 = mkF m 0 #[.val (.int x0), .unset, .unset] [] := by first | (simp [entryFrame, mkF, argsToLocals, Value.category]; done) | rfl
def Q35_1 (Z : State) (p0 : Int32) (w_COMPACT_STRINGS : Int32) (e83_18 : Int32) (w_DigitOnes : Addr) (cl_w_DigitOnes : Cell) (h0 : Heap) (n0 : Nat) (v : Option Value) (h : Heap) (L : List Loc) : Prop := ∃ r : Addr, ∃ r1 : Addr, ∃ rk2 : ClassId, v = some (.ref r) ∧ Fr n0 L ∧ Keep h0 h [] ∧ (h0.size ≤ r ∧ n0 ≤ r) ∧ Exa Z h r "java/lang/String" ∧ Fld Z h r "java/lang/String" "coder" "B" (.int (0 : Int32)) ∧ Fld Z h r "java/lang/String" "value" "[B" (.ref r1) ∧ (h0.size ≤ r1 ∧ n0 ≤ r1) ∧ Arv Z h r1 rk2 .byte (1 : Int32) [(.int e83_18.toInt8.toInt32)] (.int (0 : Int32))
set_option maxRecDepth 65536 in
set_option maxHeartbeats 40000000 in
theorem rm35_1 (l : Launch) (Z : State) (a0 : Array Value) (hw : ∀ d ∈ tables_1, d.before a0 Z = true) (ws : List Jvm.Cond) (p0 : Int32) (w_COMPACT_STRINGS : Int32) (e83_18 : Int32) (w_DigitOnes : Addr) (cl_w_DigitOnes : Cell) (h0 : Heap) (n0 : Nat) (Z0 : n0 ≤ h0.size) (hc3_1 : ¬ (p0 < (0 : Int32))) (hc24_1 : (-10 : Int32) < (-p0)) (S_COMPACT_STRINGS : Sta Z h0 "java/lang/String" "COMPACT_STRINGS" "Z" (.int w_COMPACT_STRINGS)) (hc8 : ¬ (w_COMPACT_STRINGS = (0 : Int32))) (hc25_4 : (-100 : Int32) < (-p0)) (S_DigitOnes : Sta Z h0 "java/lang/Integer" "DigitOnes" "[B" (.ref w_DigitOnes)) (Ar_w_DigitOnes : Arr Z h0 w_DigitOnes cl_w_DigitOnes .byte) (hin83_4 : ¬ ((-(-p0)) < 0 ∨ cl_w_DigitOnes.slots.size ≤ ((-(-p0))).toNatClampNeg)) (hat83_4 : cl_w_DigitOnes.slots[((-(-p0))).toNatClampNeg]? = some (.int e83_18)) (hc88_4 : ¬ ((-p0) < (-9 : Int32))) :
    MetFree l (⟨"java/lang/Integer", "toString", "(I)Ljava/lang/String;"⟩ : MethodName) (head1 (Jvm.Cond.code (⟨"java/lang/Integer", "toString", "(I)Ljava/lang/String;"⟩ : MethodName) jdk_33_method_10_code 3 (some (.object "java/lang/String")) :: ws) ({ frames := 2, cells := 2, slots := 5, locals := 27 } : Room)) (fun a U => a = #[(.int p0)] ∧ Z.Warmed39 U.vm ∧ U.heap = h0) (fun _ _ _ _ _ => True) (fun _ U o U' => ∃ v L, o = .returned v ∧ Q35_1 Z p0 w_COMPACT_STRINGS e83_18 w_DigitOnes cl_w_DigitOnes h0 n0 v U'.heap L ∧ FrameEnd U o U' L ({ frames := 2, cells := 2, slots := 5, locals := 27 } : Room).cells ({ frames := 2, cells := 2, slots := 5, locals := 27 } : Room).slots) := by
  refine MetFree.of_bodySF (plainFor_of_name pn_java_lang_Integer) hisR ?_
  intro p e s m args below meth c s₁ Bd hml0 hP hK
  obtain ⟨rfl, hZ, hh⟩ := hP
  have hx := Bd.exec
  have hby := Bd.bytes
  have hml : c.maxLocals = 3 := hml0
  have hown : s.vm.findClass "java/lang/Integer" = some m.cls := findClass_of_methodNamed Bd.named
  have hnm := (name_of_methodNamed Bd.named Bd.method).1
  have X0 : Stand p l e ({ frames := 2, cells := 2, slots := 5, locals := 27 } : Room) s m #[(.int p0)] below meth c s₁ [] 0 0 := Stand.of_body Bd
  have e0 : s₁.heap = h0 := by rw [← hh, Bd.state]; rfl
  have N0 := Fr.nil n0
  show Go p e below (fun o U' => ∃ v L, o = .returned v ∧ Q35_1 Z p0 w_COMPACT_STRINGS e83_18 w_DigitOnes cl_w_DigitOnes h0 n0 v U'.heap L ∧ FrameEnd s o U' L ({ frames := 2, cells := 2, slots := 5, locals := 27 } : Room).cells ({ frames := 2, cells := 2, slots := 5, locals := 27 } : Room).slots) (s₁.setTop (entryFrame m #[(.int p0)] 3))
  refine Go.of (fun _ k => castTop (ef_35 m p0) k) ?_
  show Go p e below _ (s₁.setTop (mkF m 0 #[.val (.int p0), .unset, .unset] []))
  refine Go.of (fun _ k => XS.iloadN X0.here hx rfl (hb hby d35_0) rfl  k) ?_
  show Go p e below _ (s₁.setTop (mkF m 1 #[.val (.int p0), .unset, .unset] [(.int p0)]))
  obtain ⟨_, _, ⟨T1, L1, k1, n1⟩, -, X1, ⟨Lc1, hQ1, l1, y1, z1⟩, st1⟩ := Jvm.LawKit.callS X0 hx (y := (⟨"java/lang/Integer", "stringSize", "(I)I"⟩ : MethodName)) hown (mvT hZ (hw _ (List.mem_of_getElem? (i := 192) rfl))) (mvT hZ (hw _ (List.mem_of_getElem? (i := 57) rfl))) (mvT hZ (hw _ (List.mem_of_getElem? (i := 58) rfl))) (mvT hZ (hw _ (List.mem_of_getElem? (i := 59) rfl))) (by decide) (backOf (W := 0) (rm9_1 l Z a0 hw [] p0 h0 n0 Z0 hc3_1 hc24_1) hZ (hw _ (List.mem_of_getElem? (i := 59) rfl)) (hw _ (List.mem_of_getElem? (i := 58) rfl)) (by decide) (by decide)) (g := (mkF m 1 #[.val (.int p0), .unset, .unset] [(.int p0)])) rfl (by rw [hml]; rfl) (argsL := [(.int p0)]) (rest := []) (lenOf pd_1 rfl) rfl (by show 2 * 0 + _ ≤ _; exact Nat.le_of_eq rfl) (hb hby d35_1) (fun _ _ => ⟨rfl, e0, (by decide : 0 + 0 ≤ _), (by decide : 0 + 0 ≤ _)⟩)
  dsimp only [Pt.U, Pt.locs, Pt.cells, Pt.slots] at X1 l1 y1 z1 st1 hQ1
  subst l1 y1 z1
  obtain ⟨rfl, Nq1, q1_0⟩ := hQ1
  have N1 := Fr.app N0 Nq1
  refine Go.of st1 ?_
  show Go p e below _ (T1.setTop (mkF m 4 #[.val (.int p0), .unset, .unset] [(.int (1 : Int32))]))
  refine Go.of (fun _ k => XS.istoreN X1.here hx rfl (hb hby d35_4) rfl (l' := #[.val (.int p0), .val (.int (1 : Int32)), .unset]) rfl k) ?_
  show Go p e below _ (T1.setTop (mkF m 5 #[.val (.int p0), .val (.int (1 : Int32)), .unset] []))
  obtain ⟨T2, X2, e2, st2⟩ := getS2 X1 hx hZ hown (host := "") (Or.inl (hw _ (List.mem_of_getElem? (i := 193) rfl))) Via.refl q1_0 S_COMPACT_STRINGS (g := (mkF m 5 #[.val (.int p0), .val (.int (1 : Int32)), .unset] [])) rfl (hb hby d35_5)
  refine Go.of st2 ?_
  show Go p e below _ (T2.setTop (mkF m 8 #[.val (.int p0), .val (.int (1 : Int32)), .unset] [(.int w_COMPACT_STRINGS)]))
  refine Go.of (fun _ k => XS.ifNo X2.here hx rfl (hb hby d35_8) rfl ((if0 _ _).trans (feq hc8).1) k) ?_
  show Go p e below _ (T2.setTop (mkF m 11 #[.val (.int p0), .val (.int (1 : Int32)), .unset] []))
  refine Go.of (fun _ k => XS.iloadN X2.here hx rfl (hb hby d35_11) rfl  k) ?_
  show Go p e below _ (T2.setTop (mkF m 12 #[.val (.int p0), .val (.int (1 : Int32)), .unset] [(.int (1 : Int32))]))
  obtain ⟨T3, h3, k3, X3, e3, E3, A3, st3⟩ := newP X2 hx hZ (hw _ (List.mem_of_getElem? (i := 39) rfl)) e2 (g := (mkF m 12 #[.val (.int p0), .val (.int (1 : Int32)), .unset] [(.int (1 : Int32))])) rfl (hb hby d35_12) rfl (by decide) (cap := 1) (by decide) (by decide) (by decide) (by decide)
  obtain ⟨ob3, g3⟩ : ∃ z, z = h0.size := ⟨_, rfl⟩
  rw [← g3] at A3 st3
  refine Go.of st3 ?_
  have g_ob3 : n0 ≤ ob3 := Nat.le_trans Z0 (Nat.le_of_eq g3.symm)
  have sz_ob3 : h0.size ≤ ob3 := Nat.le_trans ((Keep.refl h0 [])).1 (Nat.le_of_eq g3.symm)
  have K3 : Keep h0 h3 [] := ((Keep.refl h0 [])).ext E3
  have Z3 : n0 ≤ h3.size := Nat.le_trans Z0 E3.1
  have V3 : Arv Z h3 ob3 k3 .byte (1 : Int32) [(.int (0 : Int32))] (.int (0 : Int32)) := (Arv.new A3 (by decide)).pad (pad_rep [] (.int (0 : Int32)) 1)
  show Go p e below _ (T3.setTop (mkF m 14 #[.val (.int p0), .val (.int (1 : Int32)), .unset] [(.ref ob3)]))
  refine Go.of (fun _ k => XS.astoreN X3.here hx rfl (hb hby d35_14) rfl rfl (l' := #[.val (.int p0), .val (.int (1 : Int32)), .val (.ref ob3)]) rfl k) ?_
  show Go p e below _ (T3.setTop (mkF m 15 #[.val (.int p0), .val (.int (1 : Int32)), .val (.ref ob3)] []))
  refine Go.of (fun _ k => XS.iloadN X3.here hx rfl (hb hby d35_15) rfl  k) ?_
  show Go p e below _ (T3.setTop (mkF m 16 #[.val (.int p0), .val (.int (1 : Int32)), .val (.ref ob3)] [(.int p0)]))
  refine Go.of (fun _ k => XS.iloadN X3.here hx rfl (hb hby d35_16) rfl  k) ?_
  show Go p e below _ (T3.setTop (mkF m 17 #[.val (.int p0), .val (.int (1 : Int32)), .val (.ref ob3)] [(.int (1 : Int32)), (.int p0)]))
  refine Go.of (fun _ k => XS.aloadN X3.here hx rfl (hb hby d35_17) rfl rfl k) ?_
  show Go p e below _ (T3.setTop (mkF m 18 #[.val (.int p0), .val (.int (1 : Int32)), .val (.ref ob3)] [(.ref ob3), (.int (1 : Int32)), (.int p0)]))
  have c5 : Sta Z h3 "java/lang/Integer" "DigitOnes" "[B" (.ref w_DigitOnes) := (Sta.ext E3 S_DigitOnes)
  have c6 : Arr Z h3 w_DigitOnes cl_w_DigitOnes .byte := (Arr.ext E3 Ar_w_DigitOnes)
  obtain ⟨_, _, ⟨T4, L4, k4, n4⟩, -, X4, ⟨Lc4, hQ4, l4, y4, z4⟩, st4⟩ := Jvm.LawKit.callS X3 hx (y := (⟨"java/lang/Integer", "getChars", "(II[B)I"⟩ : MethodName)) hown (mvT hZ (hw _ (List.mem_of_getElem? (i := 194) rfl))) (mvT hZ (hw _ (List.mem_of_getElem? (i := 71) rfl))) (mvT hZ (hw _ (List.mem_of_getElem? (i := 58) rfl))) (mvT hZ (hw _ (List.mem_of_getElem? (i := 72) rfl))) (by decide) (backOf (W := 0) (rm12_1n l Z a0 hw [] p0 ob3 w_DigitOnes cl_w_DigitOnes e83_18 k3 h3 n0 Z3 hc3_1 hc25_4 c5 c6 hin83_4 hat83_4 V3 g_ob3 hc88_4) hZ (hw _ (List.mem_of_getElem? (i := 72) rfl)) (hw _ (List.mem_of_getElem? (i := 58) rfl)) (by decide) (by decide)) (g := (mkF m 18 #[.val (.int p0), .val (.int (1 : Int32)), .val (.ref ob3)] [(.ref ob3), (.int (1 : Int32)), (.int p0)])) rfl (by rw [hml]; rfl) (argsL := [(.int p0), (.int (1 : Int32)), (.ref ob3)]) (rest := []) (lenOf pd_3 rfl) rfl (by show 2 * 0 + _ ≤ _; exact Nat.le_of_eq rfl) (hb hby d35_18) (fun _ _ => ⟨rfl, e3, (by decide : 1 + 0 ≤ _), (by decide : 1 + 0 ≤ _)⟩)
  dsimp only [Pt.U, Pt.locs, Pt.cells, Pt.slots] at X4 l4 y4 z4 st4 hQ4
  subst l4 y4 z4
  obtain ⟨rfl, Nq4, q4_0, q4_1⟩ := hQ4
  have N4 := Fr.app N1 Nq4
  refine Go.of st4 ?_
  have K4 : Keep h0 T4.heap [] := (K3).trans q4_0 (allS (Or.inr sz_ob3) all0)
  have Z4 : n0 ≤ T4.heap.size := Nat.le_trans Z3 q4_0.1
  show Go p e below _ (T4.setTop (mkF m 21 #[.val (.int p0), .val (.int (1 : Int32)), .val (.ref ob3)] [(.int (0 : Int32))]))
  refine Go.of (fun _ k => XS.pop X4.here hx rfl (hb hby d35_21) rfl rfl k) ?_
  show Go p e below _ (T4.setTop (mkF m 22 #[.val (.int p0), .val (.int (1 : Int32)), .val (.ref ob3)] []))
  obtain ⟨T7, h7, X7, e7, E7, A7, D7, -, st7⟩ := newO X4 hx hZ hown (hw _ (List.mem_of_getElem? (i := 195) rfl)) (hw _ (List.mem_of_getElem? (i := 75) rfl)) (hw _ (List.mem_of_getElem? (i := 38) rfl)) rfl (g := (mkF m 22 #[.val (.int p0), .val (.int (1 : Int32)), .val (.ref ob3)] [])) rfl (hb hby d35_22) (by decide) (by decide)
  obtain ⟨ob7, g7⟩ : ∃ z, z = T4.heap.size := ⟨_, rfl⟩
  rw [← g7] at A7 D7 st7
  refine Go.of st7 ?_
  have g_ob7 : n0 ≤ ob7 := Nat.le_trans Z4 (Nat.le_of_eq g7.symm)
  have sz_ob7 : h0.size ≤ ob7 := Nat.le_trans (K4).1 (Nat.le_of_eq g7.symm)
  have K7 : Keep h0 h7 [] := (K4).ext E7
  have Z7 : n0 ≤ h7.size := Nat.le_trans Z4 E7.1
  have f8 : Fld Z h7 ob7 "java/lang/String" "value" "[B" .null := D7 (Or.inr (hw _ (List.mem_of_getElem? (i := 76) rfl))) (ty := (.array .byte)) (by decide)
  have f9 : Fld Z h7 ob7 "java/lang/String" "coder" "B" (.int (0 : Int32)) := D7 (Or.inr (hw _ (List.mem_of_getElem? (i := 77) rfl))) (ty := .byte) (by decide)
  show Go p e below _ (T7.setTop (mkF m 25 #[.val (.int p0), .val (.int (1 : Int32)), .val (.ref ob3)] [(.ref ob7)]))
  refine Go.of (fun _ k => XS.dup X7.here hx rfl (hb hby d35_25) rfl rfl k) ?_
  show Go p e below _ (T7.setTop (mkF m 26 #[.val (.int p0), .val (.int (1 : Int32)), .val (.ref ob3)] [(.ref ob7), (.ref ob7)]))
  refine Go.of (fun _ k => XS.aloadN X7.here hx rfl (hb hby d35_26) rfl rfl k) ?_
  show Go p e below _ (T7.setTop (mkF m 27 #[.val (.int p0), .val (.int (1 : Int32)), .val (.ref ob3)] [(.ref ob3), (.ref ob7), (.ref ob7)]))
  refine Go.of (fun _ k => XS.iconst X7.here hx rfl (hb hby d35_27) k) ?_
  show Go p e below _ (T7.setTop (mkF m 28 #[.val (.int p0), .val (.int (1 : Int32)), .val (.ref ob3)] [(.int (0 : Int32)), (.ref ob3), (.ref ob7), (.ref ob7)]))
  obtain ⟨_, _, ⟨T10, L10, k10, n10⟩, -, X10, ⟨Lc10, hQ10, l10, y10, z10⟩, st10⟩ := X7.specialBack hx (y := (⟨"java/lang/String", "<init>", "([BB)V"⟩ : MethodName)) rfl hown (mvT hZ (hw _ (List.mem_of_getElem? (i := 196) rfl))) (mvT hZ (hw _ (List.mem_of_getElem? (i := 197) rfl))) (mvT hZ (hw _ (List.mem_of_getElem? (i := 198) rfl))) (by decide) (backOf (W := 1) (rm36_1 l Z a0 hw [] ob7 ob3 .null (.int (0 : Int32)) h7 n0 Z7 A7 f8 g_ob7 f9) hZ (hw _ (List.mem_of_getElem? (i := 198) rfl)) (hw _ (List.mem_of_getElem? (i := 38) rfl)) (by decide) (by decide)) (g := (mkF m 28 #[.val (.int p0), .val (.int (1 : Int32)), .val (.ref ob3)] [(.int (0 : Int32)), (.ref ob3), (.ref ob7), (.ref ob7)])) rfl (by rw [hml]; rfl) (Steps.refl _) (a := ob7) (argsL := [(.ref ob3), (.int (0 : Int32))]) (rest := [(.ref ob7)]) (lenOf pd_17 rfl) rfl (by show 2 * 0 + _ ≤ _; exact Nat.le_of_eq rfl) (hb hby d35_28) (fun _ _ => ⟨rfl, e7, (by decide : 2 + 0 ≤ _), (by decide : 5 + 0 ≤ _)⟩)
  dsimp only [Pt.U, Pt.locs, Pt.cells, Pt.slots] at X10 l10 y10 z10 st10 hQ10
  subst l10 y10 z10
  obtain ⟨rfl, Nq10, q10_0, q10_1, q10_2, q10_3⟩ := hQ10
  have N10 := Fr.app N4 Nq10
  refine Go.tr st10 ?_
  have K10 : Keep h0 T10.heap [] := (K7).trans q10_0 (allS (Or.inr sz_ob7) all0)
  have Z10 : n0 ≤ T10.heap.size := Nat.le_trans Z7 q10_0.1
  show Go p e below _ (T10.setTop (mkF m 31 #[.val (.int p0), .val (.int (1 : Int32)), .val (.ref ob3)] [(.ref ob7)]))
  have c12 : Arv Z h7 ob3 k3 .byte (1 : Int32) [(.int e83_18.toInt8.toInt32)] (.int (0 : Int32)) := (q4_1.ext E7)
  have c13 : Arv Z T10.heap ob3 k3 .byte (1 : Int32) [(.int e83_18.toInt8.toInt32)] (.int (0 : Int32)) := (c12.keep q10_0 (ninS (Nat.ne_of_lt (Nat.lt_of_lt_of_le q4_1.lt (Nat.le_of_eq g7.symm))) nin0))
  obtain ⟨fs, hr, hrun, hended, hW, hsame⟩ := X10.leave (v := some (.ref ob7)) (fun h => by rw [Bd.returns] at h; cases h)
  refine Go.mk _ _ ?_ hrun hended ⟨_, _, rfl, ?_, ⟨_, rfl⟩, hW, hsame.mono (by decide) (by decide)⟩
  · exact retOut X10 hx Bd.returns rfl (Or.inr (Or.inr (Or.inr (Or.inr ⟨rfl, rfl, rfl⟩)))) (hb hby d35_31) hr
  · show Q35_1 Z p0 w_COMPACT_STRINGS e83_18 w_DigitOnes cl_w_DigitOnes h0 n0 _ T10.heap _
    exact ⟨ob7, ob3, k3, rfl, N10, K10, ⟨sz_ob7, g_ob7⟩, q10_1, q10_2, q10_3, ⟨sz_ob3, g_ob3⟩, c13⟩
def Q36_2 (Z : State) (o0 : Addr) (o1 : Addr) (u_o0_value : Value) (u_o0_coder : Value) (h0 : Heap) (n0 : Nat) (v : Option Value) (h : Heap) (L : List Loc) : Prop := v = none ∧ Fr n0 L ∧ Keep h0 h [o0] ∧ Exa Z h o0 "java/lang/String" ∧ Fld Z h o0 "java/lang/String" "coder" "B" (.int (0 : Int32)) ∧ Fld Z h o0 "java/lang/String" "value" "[B" (.ref o1)
set_option maxRecDepth 65536 in
set_option maxHeartbeats 40000000 in
theorem rm36_2 (l : Launch) (Z : State) (a0 : Array Value) (hw : ∀ d ∈ tables_1, d.before a0 Z = true) (ws : List Jvm.Cond) (o0 : Addr) (o1 : Addr) (u_o0_value : Value) (u_o0_coder : Value) (h0 : Heap) (n0 : Nat) (Z0 : n0 ≤ h0.size) (E_o0 : Exa Z h0 o0 "java/lang/String") (F_o0_value : Fld Z h0 o0 "java/lang/String" "value" "[B" u_o0_value) (g_o0 : n0 ≤ o0) (F_o0_coder : Fld Z h0 o0 "java/lang/String" "coder" "B" u_o0_coder) :
    MetFree l (⟨"java/lang/String", "<init>", "([BB)V"⟩ : MethodName) (head1 (Jvm.Cond.code (⟨"java/lang/String", "<init>", "([BB)V"⟩ : MethodName) jdk_42_method_151_code 3 none :: ws) ({ frames := 1, cells := 0, slots := 0, locals := 12 } : Room)) (fun a U => a = #[(.ref o0), (.ref o1), (.int (0 : Int32))] ∧ Z.Warmed39 U.vm ∧ U.heap = h0) (fun _ _ _ _ _ => True) (fun _ U o U' => ∃ v L, o = .returned v ∧ Q36_2 Z o0 o1 u_o0_value u_o0_coder h0 n0 v U'.heap L ∧ FrameEnd U o U' L ({ frames := 1, cells := 0, slots := 0, locals := 12 } : Room).cells ({ frames := 1, cells := 0, slots := 0, locals := 12 } : Room).slots) := by
  refine MetFree.of_bodySF (plainFor_of_name pn_java_lang_String) hisR ?_
  intro p e s m args below meth c s₁ Bd hml0 hP hK
  obtain ⟨rfl, hZ, hh⟩ := hP
  have hx := Bd.exec
  have hby := Bd.bytes
  have hml : c.maxLocals = 3 := hml0
  have hown : s.vm.findClass "java/lang/String" = some m.cls := findClass_of_methodNamed Bd.named
  have hnm := (name_of_methodNamed Bd.named Bd.method).1
  have X0 : Stand p l e ({ frames := 1, cells := 0, slots := 0, locals := 12 } : Room) s m #[(.ref o0), (.ref o1), (.int (0 : Int32))] below meth c s₁ [] 0 0 := Stand.of_body Bd
  have e0 : s₁.heap = h0 := by rw [← hh, Bd.state]; rfl
  have N0 := Fr.nil n0
  show Go p e below (fun o U' => ∃ v L, o = .returned v ∧ Q36_2 Z o0 o1 u_o0_value u_o0_coder h0 n0 v U'.heap L ∧ FrameEnd s o U' L ({ frames := 1, cells := 0, slots := 0, locals := 12 } : Room).cells ({ frames := 1, cells := 0, slots := 0, locals := 12 } : Room).slots) (s₁.setTop (entryFrame m #[(.ref o0), (.ref o1), (.int (0 : Int32))] 3))
  refine Go.of (fun _ k => castTop (ef_36l2_0 m o0 o1) k) ?_
  show Go p e below _ (s₁.setTop (mkF m 0 #[.val (.ref o0), .val (.ref o1), .val (.int (0 : Int32))] []))
  refine Go.of (fun _ k => XS.aloadN X0.here hx rfl (hb hby d36_0) rfl rfl k) ?_
  show Go p e below _ (s₁.setTop (mkF m 1 #[.val (.ref o0), .val (.ref o1), .val (.int (0 : Int32))] [(.ref o0)]))
  obtain ⟨T1, X1, e1, st1⟩ := initO X0 hx hZ hown (hw _ (List.mem_of_getElem? (i := 135) rfl)) (hw _ (List.mem_of_getElem? (i := 13) rfl)) (hw _ (List.mem_of_getElem? (i := 14) rfl)) e0 (g := (mkF m 1 #[.val (.ref o0), .val (.ref o1), .val (.int (0 : Int32))] [(.ref o0)])) rfl (by rw [hml]; rfl) rfl (hb hby d36_1) (by decide) (W := 0) (by show 2 * 0 + _ ≤ _; exact Nat.le_of_eq rfl) (by decide)
  refine Go.of st1 ?_
  show Go p e below _ (T1.setTop (mkF m 4 #[.val (.ref o0), .val (.ref o1), .val (.int (0 : Int32))] []))
  refine Go.of (fun _ k => XS.aloadN X1.here hx rfl (hb hby d36_4) rfl rfl k) ?_
  show Go p e below _ (T1.setTop (mkF m 5 #[.val (.ref o0), .val (.ref o1), .val (.int (0 : Int32))] [(.ref o0)]))
  refine Go.of (fun _ k => XS.aloadN X1.here hx rfl (hb hby d36_5) rfl rfl k) ?_
  show Go p e below _ (T1.setTop (mkF m 6 #[.val (.ref o0), .val (.ref o1), .val (.int (0 : Int32))] [(.ref o1), (.ref o0)]))
  obtain ⟨T2, h2, X2, e2, W2, st2⟩ := putF X1 hx hZ hown (host := "") (Or.inl (hw _ (List.mem_of_getElem? (i := 94) rfl))) Via.refl e1 F_o0_value E_o0 (Or.inr ⟨(hw _ (List.mem_of_getElem? (i := 76) rfl)), rfl, hnm⟩) (hw _ (List.mem_of_getElem? (i := 75) rfl)) (ty := (.array .byte)) (by decide) rfl rfl (g := (mkF m 6 #[.val (.ref o0), .val (.ref o1), .val (.int (0 : Int32))] [(.ref o1), (.ref o0)])) rfl rfl (hb hby d36_6)
  refine Go.of st2 ?_
  have N2 := Fr.snoc X2 N0 g_o0
  have K2 : Keep h0 h2 [o0] := ((Keep.refl h0 [o0])).wr W2 (Or.inl (List.mem_of_getElem? (i := 0) rfl))
  have Z2 : n0 ≤ h2.size := Nat.le_trans Z0 (Keep.of_wr W2).1
  have f3 : Fld Z h2 o0 "java/lang/String" "value" "[B" (.ref o1) := Fld.same W2 F_o0_value
  show Go p e below _ (T2.setTop (mkF m 9 #[.val (.ref o0), .val (.ref o1), .val (.int (0 : Int32))] []))
  refine Go.of (fun _ k => XS.aloadN X2.here hx rfl (hb hby d36_9) rfl rfl k) ?_
  show Go p e below _ (T2.setTop (mkF m 10 #[.val (.ref o0), .val (.ref o1), .val (.int (0 : Int32))] [(.ref o0)]))
  refine Go.of (fun _ k => XS.iloadN X2.here hx rfl (hb hby d36_10) rfl  k) ?_
  show Go p e below _ (T2.setTop (mkF m 11 #[.val (.ref o0), .val (.ref o1), .val (.int (0 : Int32))] [(.int (0 : Int32)), (.ref o0)]))
  have c4 : Fld Z h2 o0 "java/lang/String" "coder" "B" u_o0_coder := (Fld.other W2 F_o0_coder (Or.inr (slot_ne (Or.inr (hw _ (List.mem_of_getElem? (i := 77) rfl))) (Or.inr (hw _ (List.mem_of_getElem? (i := 76) rfl))) (by decide) (t := .byte) (t' := (.array .byte)) (by decide) (by decide))))
  have c5 : Exa Z h2 o0 "java/lang/String" := (Exa.wr W2 E_o0)
  obtain ⟨T6, h6, X6, e6, W6, st6⟩ := putFN X2 hx hZ hown (hw _ (List.mem_of_getElem? (i := 101) rfl)) Via.refl e2 c4 c5 (Or.inr ⟨(hw _ (List.mem_of_getElem? (i := 77) rfl)), rfl, hnm⟩) (hw _ (List.mem_of_getElem? (i := 75) rfl)) (ty := .byte) (v' := .int (0 : Int32)) (by decide) rfl rfl (g := (mkF m 11 #[.val (.ref o0), .val (.ref o1), .val (.int (0 : Int32))] [(.int (0 : Int32)), (.ref o0)])) rfl rfl (hb hby d36_11)
  refine Go.of st6 ?_
  have N6 := Fr.snoc X6 N2 g_o0
  have K6 : Keep h0 h6 [o0] := (K2).wr W6 (Or.inl (List.mem_of_getElem? (i := 0) rfl))
  have Z6 : n0 ≤ h6.size := Nat.le_trans Z2 (Keep.of_wr W6).1
  have f7 : Fld Z h6 o0 "java/lang/String" "coder" "B" (.int (0 : Int32)) := Fld.same W6 c4
  show Go p e below _ (T6.setTop (mkF m 14 #[.val (.ref o0), .val (.ref o1), .val (.int (0 : Int32))] []))
  have c9 : Exa Z h6 o0 "java/lang/String" := (Exa.wr W6 c5)
  have c10 : Fld Z h6 o0 "java/lang/String" "value" "[B" (.ref o1) := (Fld.other W6 f3 (Or.inr (slot_ne (Or.inr (hw _ (List.mem_of_getElem? (i := 76) rfl))) (Or.inr (hw _ (List.mem_of_getElem? (i := 77) rfl))) (by decide) (t := (.array .byte)) (t' := .byte) (by decide) (by decide))))
  obtain ⟨fs, hr, hrun, hended, hW, hsame⟩ := X6.leave (v := none) (fun _ => rfl)
  refine Go.mk _ _ ?_ hrun hended ⟨_, _, rfl, ?_, ⟨_, rfl⟩, hW, hsame.mono (by decide) (by decide)⟩
  · exact X6.returnOut hx Bd.returns (hb hby d36_14) hr
  · show Q36_2 Z o0 o1 u_o0_value u_o0_coder h0 n0 _ T6.heap _
    rw [e6]
    exact ⟨rfl, N6, K6, c9, f7, c10⟩
def Q35_2 (Z : State) (p0 : Int32) (w_COMPACT_STRINGS : Int32) (e83_18 : Int32) (e102_18 : Int32) (w_DigitOnes : Addr) (cl_w_DigitOnes : Cell) (w_DigitTens : Addr) (cl_w_DigitTens : Cell) (h0 : Heap) (n0 : Nat) (v : Option Value) (h : Heap) (L : List Loc) : Prop := ∃ r : Addr, ∃ r1 : Addr, ∃ rk2 : ClassId, v = some (.ref r) ∧ Fr n0 L ∧ Keep h0 h [] ∧ (h0.size ≤ r ∧ n0 ≤ r) ∧ Exa Z h r "java/lang/String" ∧ Fld Z h r "java/lang/String" "coder" "B" (.int (0 : Int32)) ∧ Fld Z h r "java/lang/String" "value" "[B" (.ref r1) ∧ (h0.size ≤ r1 ∧ n0 ≤ r1) ∧ Arv Z h r1 rk2 .byte (2 : Int32) [(.int e102_18.toInt8.toInt32), (.int e83_18.toInt8.toInt32)] (.int (0 : Int32))
set_option maxRecDepth 65536 in
set_option maxHeartbeats 40000000 in
theorem rm35_2 (l : Launch) (Z : State) (a0 : Array Value) (hw : ∀ d ∈ tables_1, d.before a0 Z = true) (ws : List Jvm.Cond) (p0 : Int32) (w_COMPACT_STRINGS : Int32) (e83_18 : Int32) (e102_18 : Int32) (w_DigitOnes : Addr) (cl_w_DigitOnes : Cell) (w_DigitTens : Addr) (cl_w_DigitTens : Cell) (h0 : Heap) (n0 : Nat) (Z0 : n0 ≤ h0.size) (hc3_1 : ¬ (p0 < (0 : Int32))) (hc24_1 : ¬ ((-10 : Int32) < (-p0))) (hc24_1_1 : (-100 : Int32) < (-p0)) (S_COMPACT_STRINGS : Sta Z h0 "java/lang/String" "COMPACT_STRINGS" "Z" (.int w_COMPACT_STRINGS)) (hc8 : ¬ (w_COMPACT_STRINGS = (0 : Int32))) (S_DigitOnes : Sta Z h0 "java/lang/Integer" "DigitOnes" "[B" (.ref w_DigitOnes)) (Ar_w_DigitOnes : Arr Z h0 w_DigitOnes cl_w_DigitOnes .byte) (hin83_4 : ¬ ((-(-p0)) < 0 ∨ cl_w_DigitOnes.slots.size ≤ ((-(-p0))).toNatClampNeg)) (hat83_4 : cl_w_DigitOnes.slots[((-(-p0))).toNatClampNeg]? = some (.int e83_18)) (hc88_4 : (-p0) < (-9 : Int32)) (S_DigitTens : Sta Z h0 "java/lang/Integer" "DigitTens" "[B" (.ref w_DigitTens)) (Ar_w_DigitTens : Arr Z h0 w_DigitTens cl_w_DigitTens .byte) (hin102_4 : ¬ ((-(-p0)) < 0 ∨ cl_w_DigitTens.slots.size ≤ ((-(-p0))).toNatClampNeg)) (hat102_4 : cl_w_DigitTens.slots[((-(-p0))).toNatClampNeg]? = some (.int e102_18)) :
    MetFree l (⟨"java/lang/Integer", "toString", "(I)Ljava/lang/String;"⟩ : MethodName) (head1 (Jvm.Cond.code (⟨"java/lang/Integer", "toString", "(I)Ljava/lang/String;"⟩ : MethodName) jdk_33_method_10_code 3 (some (.object "java/lang/String")) :: ws) ({ frames := 2, cells := 2, slots := 6, locals := 27 } : Room)) (fun a U => a = #[(.int p0)] ∧ Z.Warmed39 U.vm ∧ U.heap = h0) (fun _ _ _ _ _ => True) (fun _ U o U' => ∃ v L, o = .returned v ∧ Q35_2 Z p0 w_COMPACT_STRINGS e83_18 e102_18 w_DigitOnes cl_w_DigitOnes w_DigitTens cl_w_DigitTens h0 n0 v U'.heap L ∧ FrameEnd U o U' L ({ frames := 2, cells := 2, slots := 6, locals := 27 } : Room).cells ({ frames := 2, cells := 2, slots := 6, locals := 27 } : Room).slots) := by
  refine MetFree.of_bodySF (plainFor_of_name pn_java_lang_Integer) hisR ?_
  intro p e s m args below meth c s₁ Bd hml0 hP hK
  obtain ⟨rfl, hZ, hh⟩ := hP
  have hx := Bd.exec
  have hby := Bd.bytes
  have hml : c.maxLocals = 3 := hml0
  have hown : s.vm.findClass "java/lang/Integer" = some m.cls := findClass_of_methodNamed Bd.named
  have hnm := (name_of_methodNamed Bd.named Bd.method).1
  have X0 : Stand p l e ({ frames := 2, cells := 2, slots := 6, locals := 27 } : Room) s m #[(.int p0)] below meth c s₁ [] 0 0 := Stand.of_body Bd
  have e0 : s₁.heap = h0 := by rw [← hh, Bd.state]; rfl
  have N0 := Fr.nil n0
  show Go p e below (fun o U' => ∃ v L, o = .returned v ∧ Q35_2 Z p0 w_COMPACT_STRINGS e83_18 e102_18 w_DigitOnes cl_w_DigitOnes w_DigitTens cl_w_DigitTens h0 n0 v U'.heap L ∧ FrameEnd s o U' L ({ frames := 2, cells := 2, slots := 6, locals := 27 } : Room).cells ({ frames := 2, cells := 2, slots := 6, locals := 27 } : Room).slots) (s₁.setTop (entryFrame m #[(.int p0)] 3))
  refine Go.of (fun _ k => castTop (ef_35 m p0) k) ?_
  show Go p e below _ (s₁.setTop (mkF m 0 #[.val (.int p0), .unset, .unset] []))
  refine Go.of (fun _ k => XS.iloadN X0.here hx rfl (hb hby d35_0) rfl  k) ?_
  show Go p e below _ (s₁.setTop (mkF m 1 #[.val (.int p0), .unset, .unset] [(.int p0)]))
  obtain ⟨_, _, ⟨T1, L1, k1, n1⟩, -, X1, ⟨Lc1, hQ1, l1, y1, z1⟩, st1⟩ := Jvm.LawKit.callS X0 hx (y := (⟨"java/lang/Integer", "stringSize", "(I)I"⟩ : MethodName)) hown (mvT hZ (hw _ (List.mem_of_getElem? (i := 192) rfl))) (mvT hZ (hw _ (List.mem_of_getElem? (i := 57) rfl))) (mvT hZ (hw _ (List.mem_of_getElem? (i := 58) rfl))) (mvT hZ (hw _ (List.mem_of_getElem? (i := 59) rfl))) (by decide) (backOf (W := 0) (rm9_2 l Z a0 hw [] p0 h0 n0 Z0 hc3_1 hc24_1 hc24_1_1) hZ (hw _ (List.mem_of_getElem? (i := 59) rfl)) (hw _ (List.mem_of_getElem? (i := 58) rfl)) (by decide) (by decide)) (g := (mkF m 1 #[.val (.int p0), .unset, .unset] [(.int p0)])) rfl (by rw [hml]; rfl) (argsL := [(.int p0)]) (rest := []) (lenOf pd_1 rfl) rfl (by show 2 * 0 + _ ≤ _; exact Nat.le_of_eq rfl) (hb hby d35_1) (fun _ _ => ⟨rfl, e0, (by decide : 0 + 0 ≤ _), (by decide : 0 + 0 ≤ _)⟩)
  dsimp only [Pt.U, Pt.locs, Pt.cells, Pt.slots] at X1 l1 y1 z1 st1 hQ1
  subst l1 y1 z1
  obtain ⟨rfl, Nq1, q1_0⟩ := hQ1
  have N1 := Fr.app N0 Nq1
  refine Go.of st1 ?_
  show Go p e below _ (T1.setTop (mkF m 4 #[.val (.int p0), .unset, .unset] [(.int (2 : Int32))]))
  refine Go.of (fun _ k => XS.istoreN X1.here hx rfl (hb hby d35_4) rfl (l' := #[.val (.int p0), .val (.int (2 : Int32)), .unset]) rfl k) ?_
  show Go p e below _ (T1.setTop (mkF m 5 #[.val (.int p0), .val (.int (2 : Int32)), .unset] []))
  obtain ⟨T2, X2, e2, st2⟩ := getS2 X1 hx hZ hown (host := "") (Or.inl (hw _ (List.mem_of_getElem? (i := 193) rfl))) Via.refl q1_0 S_COMPACT_STRINGS (g := (mkF m 5 #[.val (.int p0), .val (.int (2 : Int32)), .unset] [])) rfl (hb hby d35_5)
  refine Go.of st2 ?_
  show Go p e below _ (T2.setTop (mkF m 8 #[.val (.int p0), .val (.int (2 : Int32)), .unset] [(.int w_COMPACT_STRINGS)]))
  refine Go.of (fun _ k => XS.ifNo X2.here hx rfl (hb hby d35_8) rfl ((if0 _ _).trans (feq hc8).1) k) ?_
  show Go p e below _ (T2.setTop (mkF m 11 #[.val (.int p0), .val (.int (2 : Int32)), .unset] []))
  refine Go.of (fun _ k => XS.iloadN X2.here hx rfl (hb hby d35_11) rfl  k) ?_
  show Go p e below _ (T2.setTop (mkF m 12 #[.val (.int p0), .val (.int (2 : Int32)), .unset] [(.int (2 : Int32))]))
  obtain ⟨T3, h3, k3, X3, e3, E3, A3, st3⟩ := newP X2 hx hZ (hw _ (List.mem_of_getElem? (i := 39) rfl)) e2 (g := (mkF m 12 #[.val (.int p0), .val (.int (2 : Int32)), .unset] [(.int (2 : Int32))])) rfl (hb hby d35_12) rfl (by decide) (cap := 2) (by decide) (by decide) (by decide) (by decide)
  obtain ⟨ob3, g3⟩ : ∃ z, z = h0.size := ⟨_, rfl⟩
  rw [← g3] at A3 st3
  refine Go.of st3 ?_
  have g_ob3 : n0 ≤ ob3 := Nat.le_trans Z0 (Nat.le_of_eq g3.symm)
  have sz_ob3 : h0.size ≤ ob3 := Nat.le_trans ((Keep.refl h0 [])).1 (Nat.le_of_eq g3.symm)
  have K3 : Keep h0 h3 [] := ((Keep.refl h0 [])).ext E3
  have Z3 : n0 ≤ h3.size := Nat.le_trans Z0 E3.1
  have V3 : Arv Z h3 ob3 k3 .byte (2 : Int32) [(.int (0 : Int32)), (.int (0 : Int32))] (.int (0 : Int32)) := (Arv.new A3 (by decide)).pad (pad_rep [] (.int (0 : Int32)) 2)
  show Go p e below _ (T3.setTop (mkF m 14 #[.val (.int p0), .val (.int (2 : Int32)), .unset] [(.ref ob3)]))
  refine Go.of (fun _ k => XS.astoreN X3.here hx rfl (hb hby d35_14) rfl rfl (l' := #[.val (.int p0), .val (.int (2 : Int32)), .val (.ref ob3)]) rfl k) ?_
  show Go p e below _ (T3.setTop (mkF m 15 #[.val (.int p0), .val (.int (2 : Int32)), .val (.ref ob3)] []))
  refine Go.of (fun _ k => XS.iloadN X3.here hx rfl (hb hby d35_15) rfl  k) ?_
  show Go p e below _ (T3.setTop (mkF m 16 #[.val (.int p0), .val (.int (2 : Int32)), .val (.ref ob3)] [(.int p0)]))
  refine Go.of (fun _ k => XS.iloadN X3.here hx rfl (hb hby d35_16) rfl  k) ?_
  show Go p e below _ (T3.setTop (mkF m 17 #[.val (.int p0), .val (.int (2 : Int32)), .val (.ref ob3)] [(.int (2 : Int32)), (.int p0)]))
  refine Go.of (fun _ k => XS.aloadN X3.here hx rfl (hb hby d35_17) rfl rfl k) ?_
  show Go p e below _ (T3.setTop (mkF m 18 #[.val (.int p0), .val (.int (2 : Int32)), .val (.ref ob3)] [(.ref ob3), (.int (2 : Int32)), (.int p0)]))
  have c5 : Sta Z h3 "java/lang/Integer" "DigitOnes" "[B" (.ref w_DigitOnes) := (Sta.ext E3 S_DigitOnes)
  have c6 : Arr Z h3 w_DigitOnes cl_w_DigitOnes .byte := (Arr.ext E3 Ar_w_DigitOnes)
  have c7 : Sta Z h3 "java/lang/Integer" "DigitTens" "[B" (.ref w_DigitTens) := (Sta.ext E3 S_DigitTens)
  have c8 : Arr Z h3 w_DigitTens cl_w_DigitTens .byte := (Arr.ext E3 Ar_w_DigitTens)
  obtain ⟨_, _, ⟨T4, L4, k4, n4⟩, -, X4, ⟨Lc4, hQ4, l4, y4, z4⟩, st4⟩ := Jvm.LawKit.callS X3 hx (y := (⟨"java/lang/Integer", "getChars", "(II[B)I"⟩ : MethodName)) hown (mvT hZ (hw _ (List.mem_of_getElem? (i := 194) rfl))) (mvT hZ (hw _ (List.mem_of_getElem? (i := 71) rfl))) (mvT hZ (hw _ (List.mem_of_getElem? (i := 58) rfl))) (mvT hZ (hw _ (List.mem_of_getElem? (i := 72) rfl))) (by decide) (backOf (W := 0) (rm12_2n l Z a0 hw [] p0 ob3 w_DigitOnes cl_w_DigitOnes e83_18 k3 w_DigitTens cl_w_DigitTens e102_18 h3 n0 Z3 hc3_1 hc24_1_1 c5 c6 hin83_4 hat83_4 V3 g_ob3 hc88_4 c7 c8 (Ne.symm (Nat.ne_of_lt (Nat.lt_of_lt_of_le Ar_w_DigitTens.lt (Nat.le_of_eq g3.symm)))) hin102_4 hat102_4) hZ (hw _ (List.mem_of_getElem? (i := 72) rfl)) (hw _ (List.mem_of_getElem? (i := 58) rfl)) (by decide) (by decide)) (g := (mkF m 18 #[.val (.int p0), .val (.int (2 : Int32)), .val (.ref ob3)] [(.ref ob3), (.int (2 : Int32)), (.int p0)])) rfl (by rw [hml]; rfl) (argsL := [(.int p0), (.int (2 : Int32)), (.ref ob3)]) (rest := []) (lenOf pd_3 rfl) rfl (by show 2 * 0 + _ ≤ _; exact Nat.le_of_eq rfl) (hb hby d35_18) (fun _ _ => ⟨rfl, e3, (by decide : 1 + 0 ≤ _), (by decide : 2 + 0 ≤ _)⟩)
  dsimp only [Pt.U, Pt.locs, Pt.cells, Pt.slots] at X4 l4 y4 z4 st4 hQ4
  subst l4 y4 z4
  obtain ⟨rfl, Nq4, q4_0, q4_1⟩ := hQ4
  have N4 := Fr.app N1 Nq4
  refine Go.of st4 ?_
  have K4 : Keep h0 T4.heap [] := (K3).trans q4_0 (allS (Or.inr sz_ob3) all0)
  have Z4 : n0 ≤ T4.heap.size := Nat.le_trans Z3 q4_0.1
  show Go p e below _ (T4.setTop (mkF m 21 #[.val (.int p0), .val (.int (2 : Int32)), .val (.ref ob3)] [(.int (0 : Int32))]))
  refine Go.of (fun _ k => XS.pop X4.here hx rfl (hb hby d35_21) rfl rfl k) ?_
  show Go p e below _ (T4.setTop (mkF m 22 #[.val (.int p0), .val (.int (2 : Int32)), .val (.ref ob3)] []))
  obtain ⟨T9, h9, X9, e9, E9, A9, D9, -, st9⟩ := newO X4 hx hZ hown (hw _ (List.mem_of_getElem? (i := 195) rfl)) (hw _ (List.mem_of_getElem? (i := 75) rfl)) (hw _ (List.mem_of_getElem? (i := 38) rfl)) rfl (g := (mkF m 22 #[.val (.int p0), .val (.int (2 : Int32)), .val (.ref ob3)] [])) rfl (hb hby d35_22) (by decide) (by decide)
  obtain ⟨ob9, g9⟩ : ∃ z, z = T4.heap.size := ⟨_, rfl⟩
  rw [← g9] at A9 D9 st9
  refine Go.of st9 ?_
  have g_ob9 : n0 ≤ ob9 := Nat.le_trans Z4 (Nat.le_of_eq g9.symm)
  have sz_ob9 : h0.size ≤ ob9 := Nat.le_trans (K4).1 (Nat.le_of_eq g9.symm)
  have K9 : Keep h0 h9 [] := (K4).ext E9
  have Z9 : n0 ≤ h9.size := Nat.le_trans Z4 E9.1
  have f10 : Fld Z h9 ob9 "java/lang/String" "value" "[B" .null := D9 (Or.inr (hw _ (List.mem_of_getElem? (i := 76) rfl))) (ty := (.array .byte)) (by decide)
  have f11 : Fld Z h9 ob9 "java/lang/String" "coder" "B" (.int (0 : Int32)) := D9 (Or.inr (hw _ (List.mem_of_getElem? (i := 77) rfl))) (ty := .byte) (by decide)
  show Go p e below _ (T9.setTop (mkF m 25 #[.val (.int p0), .val (.int (2 : Int32)), .val (.ref ob3)] [(.ref ob9)]))
  refine Go.of (fun _ k => XS.dup X9.here hx rfl (hb hby d35_25) rfl rfl k) ?_
  show Go p e below _ (T9.setTop (mkF m 26 #[.val (.int p0), .val (.int (2 : Int32)), .val (.ref ob3)] [(.ref ob9), (.ref ob9)]))
  refine Go.of (fun _ k => XS.aloadN X9.here hx rfl (hb hby d35_26) rfl rfl k) ?_
  show Go p e below _ (T9.setTop (mkF m 27 #[.val (.int p0), .val (.int (2 : Int32)), .val (.ref ob3)] [(.ref ob3), (.ref ob9), (.ref ob9)]))
  refine Go.of (fun _ k => XS.iconst X9.here hx rfl (hb hby d35_27) k) ?_
  show Go p e below _ (T9.setTop (mkF m 28 #[.val (.int p0), .val (.int (2 : Int32)), .val (.ref ob3)] [(.int (0 : Int32)), (.ref ob3), (.ref ob9), (.ref ob9)]))
  obtain ⟨_, _, ⟨T12, L12, k12, n12⟩, -, X12, ⟨Lc12, hQ12, l12, y12, z12⟩, st12⟩ := X9.specialBack hx (y := (⟨"java/lang/String", "<init>", "([BB)V"⟩ : MethodName)) rfl hown (mvT hZ (hw _ (List.mem_of_getElem? (i := 196) rfl))) (mvT hZ (hw _ (List.mem_of_getElem? (i := 197) rfl))) (mvT hZ (hw _ (List.mem_of_getElem? (i := 198) rfl))) (by decide) (backOf (W := 1) (rm36_2 l Z a0 hw [] ob9 ob3 .null (.int (0 : Int32)) h9 n0 Z9 A9 f10 g_ob9 f11) hZ (hw _ (List.mem_of_getElem? (i := 198) rfl)) (hw _ (List.mem_of_getElem? (i := 38) rfl)) (by decide) (by decide)) (g := (mkF m 28 #[.val (.int p0), .val (.int (2 : Int32)), .val (.ref ob3)] [(.int (0 : Int32)), (.ref ob3), (.ref ob9), (.ref ob9)])) rfl (by rw [hml]; rfl) (Steps.refl _) (a := ob9) (argsL := [(.ref ob3), (.int (0 : Int32))]) (rest := [(.ref ob9)]) (lenOf pd_17 rfl) rfl (by show 2 * 0 + _ ≤ _; exact Nat.le_of_eq rfl) (hb hby d35_28) (fun _ _ => ⟨rfl, e9, (by decide : 2 + 0 ≤ _), (by decide : 6 + 0 ≤ _)⟩)
  dsimp only [Pt.U, Pt.locs, Pt.cells, Pt.slots] at X12 l12 y12 z12 st12 hQ12
  subst l12 y12 z12
  obtain ⟨rfl, Nq12, q12_0, q12_1, q12_2, q12_3⟩ := hQ12
  have N12 := Fr.app N4 Nq12
  refine Go.tr st12 ?_
  have K12 : Keep h0 T12.heap [] := (K9).trans q12_0 (allS (Or.inr sz_ob9) all0)
  have Z12 : n0 ≤ T12.heap.size := Nat.le_trans Z9 q12_0.1
  show Go p e below _ (T12.setTop (mkF m 31 #[.val (.int p0), .val (.int (2 : Int32)), .val (.ref ob3)] [(.ref ob9)]))
  have c14 : Arv Z h9 ob3 k3 .byte (2 : Int32) [(.int e102_18.toInt8.toInt32), (.int e83_18.toInt8.toInt32)] (.int (0 : Int32)) := (q4_1.ext E9)
  have c15 : Arv Z T12.heap ob3 k3 .byte (2 : Int32) [(.int e102_18.toInt8.toInt32), (.int e83_18.toInt8.toInt32)] (.int (0 : Int32)) := (c14.keep q12_0 (ninS (Nat.ne_of_lt (Nat.lt_of_lt_of_le q4_1.lt (Nat.le_of_eq g9.symm))) nin0))
  obtain ⟨fs, hr, hrun, hended, hW, hsame⟩ := X12.leave (v := some (.ref ob9)) (fun h => by rw [Bd.returns] at h; cases h)
  refine Go.mk _ _ ?_ hrun hended ⟨_, _, rfl, ?_, ⟨_, rfl⟩, hW, hsame.mono (by decide) (by decide)⟩
  · exact retOut X12 hx Bd.returns rfl (Or.inr (Or.inr (Or.inr (Or.inr ⟨rfl, rfl, rfl⟩)))) (hb hby d35_31) hr
  · show Q35_2 Z p0 w_COMPACT_STRINGS e83_18 e102_18 w_DigitOnes cl_w_DigitOnes w_DigitTens cl_w_DigitTens h0 n0 _ T12.heap _
    exact ⟨ob9, ob3, k3, rfl, N12, K12, ⟨sz_ob9, g_ob9⟩, q12_1, q12_2, q12_3, ⟨sz_ob3, g_ob3⟩, c15⟩
theorem d34_0 : decode jdk_41_method_11_code 0 = .ok (.iload_n 0, 1) := by decide +kernel
theorem d34_1 : decode jdk_41_method_11_code 1 = .ok (.ifCond .lt 8, 3) := by decide +kernel
theorem d34_4 : decode jdk_41_method_11_code 4 = .ok (.iload_n 0, 1) := by decide +kernel
theorem d34_5 : decode jdk_41_method_11_code 5 = .ok (.iload_n 1, 1) := by decide +kernel
theorem d34_6 : decode jdk_41_method_11_code 6 = .ok (.if_icmp .lt 10, 3) := by decide +kernel
theorem d34_16 : decode jdk_41_method_11_code 16 = .ok (.iload_n 0, 1) := by decide +kernel
theorem d34_17 : decode jdk_41_method_11_code 17 = .ok (.ireturn, 1) := by decide +kernel
theorem pn_jdk_internal_util_Preconditions : plainName "jdk/internal/util/Preconditions" = true := by first | (simp [plainName, overriddenIn]; done) | decide +kernel
theorem ef_34 (m : MethodId) (x0 : Int32) (x1 : Int32) (x2 : Addr) : entryFrame m #[(.int x0), (.int x1), (.ref x2)] 3 = mkF m 0 #[.val (.int x0), .val (.int x1), .val (.ref x2)] [] := by first | (simp [entryFrame, mkF, argsToLocals, Value.category]; done) | rfl
def Q34_r (Z : State) (p0 : Int32) (p1 : Int32) (o2 : Addr) (h0 : Heap) (n0 : Nat) (v : Option Value) (h : Heap) (L : List Loc) : Prop := v = some (.int p0) ∧ Fr n0 L ∧ h = h0
set_option maxRecDepth 65536 in
set_option maxHeartbeats 40000000 in
theorem rm34_r (l : Launch) (Z : State) (a0 : Array Value) (hw : ∀ d ∈ tables_1, d.before a0 Z = true) (ws : List Jvm.Cond) (p0 : Int32) (p1 : Int32) (o2 : Addr) (h0 : Heap) (n0 : Nat) (Z0 : n0 ≤ h0.size) (hc1 : ¬ (p0 < (0 : Int32))) (hc6 : p0 < p1) :
    MetFree l (⟨"jdk/internal/util/Preconditions", "checkIndex", "(IILjava/util/function/BiFunction;)I"⟩ : MethodName) (head1 (Jvm.Cond.code (⟨"jdk/internal/util/Preconditions", "checkIndex", "(IILjava/util/function/BiFunction;)I"⟩ : MethodName) jdk_41_method_11_code 3 (some .int) :: ws) ({ frames := 0, cells := 0, slots := 0, locals := 0 } : Room)) (fun a U => a = #[(.int p0), (.int p1), (.ref o2)] ∧ Z.Warmed39 U.vm ∧ U.heap = h0) (fun _ _ _ _ _ => True) (fun _ U o U' => ∃ v L, o = .returned v ∧ Q34_r Z p0 p1 o2 h0 n0 v U'.heap L ∧ FrameEnd U o U' L ({ frames := 0, cells := 0, slots := 0, locals := 0 } : Room).cells ({ frames := 0, cells := 0, slots := 0, locals := 0 } : Room).slots) := by
  refine MetFree.of_bodySF (plainFor_of_name pn_jdk_internal_util_Preconditions) hisR ?_
  intro p e s m args below meth c s₁ Bd hml0 hP hK
  obtain ⟨rfl, hZ, hh⟩ := hP
  have hx := Bd.exec
  have hby := Bd.bytes
  have hml : c.maxLocals = 3 := hml0
  have hown : s.vm.findClass "jdk/internal/util/Preconditions" = some m.cls := findClass_of_methodNamed Bd.named
  have hnm := (name_of_methodNamed Bd.named Bd.method).1
  have X0 : Stand p l e ({ frames := 0, cells := 0, slots := 0, locals := 0 } : Room) s m #[(.int p0), (.int p1), (.ref o2)] below meth c s₁ [] 0 0 := Stand.of_body Bd
  have e0 : s₁.heap = h0 := by rw [← hh, Bd.state]; rfl
  have N0 := Fr.nil n0
  show Go p e below (fun o U' => ∃ v L, o = .returned v ∧ Q34_r Z p0 p1 o2 h0 n0 v U'.heap L ∧ FrameEnd s o U' L ({ frames := 0, cells := 0, slots := 0, locals := 0 } : Room).cells ({ frames := 0, cells := 0, slots := 0, locals := 0 } : Room).slots) (s₁.setTop (entryFrame m #[(.int p0), (.int p1), (.ref o2)] 3))
  refine Go.of (fun _ k => castTop (ef_34 m p0 p1 o2) k) ?_
  show Go p e below _ (s₁.setTop (mkF m 0 #[.val (.int p0), .val (.int p1), .val (.ref o2)] []))
  refine Go.of (fun _ k => XS.iloadN X0.here hx rfl (hb hby d34_0) rfl  k) ?_
  show Go p e below _ (s₁.setTop (mkF m 1 #[.val (.int p0), .val (.int p1), .val (.ref o2)] [(.int p0)]))
  refine Go.of (fun _ k => XS.ifNo X0.here hx rfl (hb hby d34_1) rfl ((if0 _ _).trans (flt hc1).1) k) ?_
  show Go p e below _ (s₁.setTop (mkF m 4 #[.val (.int p0), .val (.int p1), .val (.ref o2)] []))
  refine Go.of (fun _ k => XS.iloadN X0.here hx rfl (hb hby d34_4) rfl  k) ?_
  show Go p e below _ (s₁.setTop (mkF m 5 #[.val (.int p0), .val (.int p1), .val (.ref o2)] [(.int p0)]))
  refine Go.of (fun _ k => XS.iloadN X0.here hx rfl (hb hby d34_5) rfl  k) ?_
  show Go p e below _ (s₁.setTop (mkF m 6 #[.val (.int p0), .val (.int p1), .val (.ref o2)] [(.int p1), (.int p0)]))
  refine Go.of (fun _ k => XS.icmpYes X0.here hx rfl (pc0 := 6) (pc' := 16) rfl (hb hby d34_6) rfl (tlt hc6).1 (by decide) (by decide) k) ?_
  show Go p e below _ (s₁.setTop (mkF m 16 #[.val (.int p0), .val (.int p1), .val (.ref o2)] []))
  refine Go.of (fun _ k => XS.iloadN X0.here hx rfl (hb hby d34_16) rfl  k) ?_
  show Go p e below _ (s₁.setTop (mkF m 17 #[.val (.int p0), .val (.int p1), .val (.ref o2)] [(.int p0)]))
  obtain ⟨fs, hr, hrun, hended, hW, hsame⟩ := X0.leave (v := some (.int p0)) (fun h => by rw [Bd.returns] at h; cases h)
  refine Go.mk _ _ ?_ hrun hended ⟨_, _, rfl, ?_, ⟨_, rfl⟩, hW, hsame.mono (by decide) (by decide)⟩
  · exact retI X0 hx Bd.returns (hb hby d34_17) hr
  · show Q34_r Z p0 p1 o2 h0 n0 _ s₁.heap _
    rw [e0]
    exact ⟨rfl, N0, rfl⟩
theorem ef_34n3 (m : MethodId) (x0 : Int32) (x1 : Int32) : entryFrame m #[(.int x0), (.int x1), .null] 3 = mkF m 0 #[.val (.int x0), .val (.int x1), .val .null] [] := by first | (simp [entryFrame, mkF, argsToLocals, Value.category]; done) | rfl
def Q34_n (Z : State) (p0 : Int32) (p1 : Int32) (h0 : Heap) (n0 : Nat) (v : Option Value) (h : Heap) (L : List Loc) : Prop := v = some (.int p0) ∧ Fr n0 L ∧ h = h0
set_option maxRecDepth 65536 in
set_option maxHeartbeats 40000000 in
theorem rm34_n (l : Launch) (Z : State) (a0 : Array Value) (hw : ∀ d ∈ tables_1, d.before a0 Z = true) (ws : List Jvm.Cond) (p0 : Int32) (p1 : Int32) (h0 : Heap) (n0 : Nat) (Z0 : n0 ≤ h0.size) (hc1 : ¬ (p0 < (0 : Int32))) (hc6 : p0 < p1) :
    MetFree l (⟨"jdk/internal/util/Preconditions", "checkIndex", "(IILjava/util/function/BiFunction;)I"⟩ : MethodName) (head1 (Jvm.Cond.code (⟨"jdk/internal/util/Preconditions", "checkIndex", "(IILjava/util/function/BiFunction;)I"⟩ : MethodName) jdk_41_method_11_code 3 (some .int) :: ws) ({ frames := 0, cells := 0, slots := 0, locals := 0 } : Room)) (fun a U => a = #[(.int p0), (.int p1), .null] ∧ Z.Warmed39 U.vm ∧ U.heap = h0) (fun _ _ _ _ _ => True) (fun _ U o U' => ∃ v L, o = .returned v ∧ Q34_n Z p0 p1 h0 n0 v U'.heap L ∧ FrameEnd U o U' L ({ frames := 0, cells := 0, slots := 0, locals := 0 } : Room).cells ({ frames := 0, cells := 0, slots := 0, locals := 0 } : Room).slots) := by
  refine MetFree.of_bodySF (plainFor_of_name pn_jdk_internal_util_Preconditions) hisR ?_
  intro p e s m args below meth c s₁ Bd hml0 hP hK
  obtain ⟨rfl, hZ, hh⟩ := hP
  have hx := Bd.exec
  have hby := Bd.bytes
  have hml : c.maxLocals = 3 := hml0
  have hown : s.vm.findClass "jdk/internal/util/Preconditions" = some m.cls := findClass_of_methodNamed Bd.named
  have hnm := (name_of_methodNamed Bd.named Bd.method).1
  have X0 : Stand p l e ({ frames := 0, cells := 0, slots := 0, locals := 0 } : Room) s m #[(.int p0), (.int p1), .null] below meth c s₁ [] 0 0 := Stand.of_body Bd
  have e0 : s₁.heap = h0 := by rw [← hh, Bd.state]; rfl
  have N0 := Fr.nil n0
  show Go p e below (fun o U' => ∃ v L, o = .returned v ∧ Q34_n Z p0 p1 h0 n0 v U'.heap L ∧ FrameEnd s o U' L ({ frames := 0, cells := 0, slots := 0, locals := 0 } : Room).cells ({ frames := 0, cells := 0, slots := 0, locals := 0 } : Room).slots) (s₁.setTop (entryFrame m #[(.int p0), (.int p1), .null] 3))
  refine Go.of (fun _ k => castTop (ef_34n3 m p0 p1) k) ?_
  show Go p e below _ (s₁.setTop (mkF m 0 #[.val (.int p0), .val (.int p1), .val .null] []))
  refine Go.of (fun _ k => XS.iloadN X0.here hx rfl (hb hby d34_0) rfl  k) ?_
  show Go p e below _ (s₁.setTop (mkF m 1 #[.val (.int p0), .val (.int p1), .val .null] [(.int p0)]))
  refine Go.of (fun _ k => XS.ifNo X0.here hx rfl (hb hby d34_1) rfl ((if0 _ _).trans (flt hc1).1) k) ?_
  show Go p e below _ (s₁.setTop (mkF m 4 #[.val (.int p0), .val (.int p1), .val .null] []))
  refine Go.of (fun _ k => XS.iloadN X0.here hx rfl (hb hby d34_4) rfl  k) ?_
  show Go p e below _ (s₁.setTop (mkF m 5 #[.val (.int p0), .val (.int p1), .val .null] [(.int p0)]))
  refine Go.of (fun _ k => XS.iloadN X0.here hx rfl (hb hby d34_5) rfl  k) ?_
  show Go p e below _ (s₁.setTop (mkF m 6 #[.val (.int p0), .val (.int p1), .val .null] [(.int p1), (.int p0)]))
  refine Go.of (fun _ k => XS.icmpYes X0.here hx rfl (pc0 := 6) (pc' := 16) rfl (hb hby d34_6) rfl (tlt hc6).1 (by decide) (by decide) k) ?_
  show Go p e below _ (s₁.setTop (mkF m 16 #[.val (.int p0), .val (.int p1), .val .null] []))
  refine Go.of (fun _ k => XS.iloadN X0.here hx rfl (hb hby d34_16) rfl  k) ?_
  show Go p e below _ (s₁.setTop (mkF m 17 #[.val (.int p0), .val (.int p1), .val .null] [(.int p0)]))
  obtain ⟨fs, hr, hrun, hended, hW, hsame⟩ := X0.leave (v := some (.int p0)) (fun h => by rw [Bd.returns] at h; cases h)
  refine Go.mk _ _ ?_ hrun hended ⟨_, _, rfl, ?_, ⟨_, rfl⟩, hW, hsame.mono (by decide) (by decide)⟩
  · exact retI X0 hx Bd.returns (hb hby d34_17) hr
  · show Q34_n Z p0 p1 h0 n0 _ s₁.heap _
    rw [e0]
    exact ⟨rfl, N0, rfl⟩
theorem d33_0 : decode jdk_42_method_155_code 0 = .ok (.iload_n 0, 1) := by decide +kernel
theorem d33_1 : decode jdk_42_method_155_code 1 = .ok (.iload_n 1, 1) := by decide +kernel
theorem d33_2 : decode jdk_42_method_155_code 2 = .ok (.getstatic 1053, 3) := by decide +kernel
theorem d33_5 : decode jdk_42_method_155_code 5 = .ok (.invokestatic 1059, 3) := by decide +kernel
theorem pd_18 : parseMethodDescriptor "(IILjava/util/function/BiFunction;)I" = some ⟨[.int, .int, (.object "java/util/function/BiFunction")], some .int⟩ := by decide +kernel
theorem d33_8 : decode jdk_42_method_155_code 8 = .ok (.pop, 1) := by decide +kernel
theorem d33_9 : decode jdk_42_method_155_code 9 = .ok (.return_, 1) := by decide +kernel
theorem ef_33 (m : MethodId) (x0 : Int32) (x1 : Int32) : entryFrame m #[(.int x0), (.int x1)] 2 = mkF m 0 #[.val (.int x0), .val (.int x1)] [] := by first | (simp [entryFrame, mkF, argsToLocals, Value.category]; done) | rfl
def Q33 (Z : State) (p0 : Int32) (p1 : Int32) (v_SIOOBE_FORMATTER : Value) (h0 : Heap) (n0 : Nat) (v : Option Value) (h : Heap) (L : List Loc) : Prop := v = none ∧ Fr n0 L ∧ h = h0
set_option maxRecDepth 65536 in
set_option maxHeartbeats 40000000 in
theorem rm33 (l : Launch) (Z : State) (a0 : Array Value) (hw : ∀ d ∈ tables_1, d.before a0 Z = true) (ws : List Jvm.Cond) (p0 : Int32) (p1 : Int32) (v_SIOOBE_FORMATTER : Value) (h0 : Heap) (n0 : Nat) (Z0 : n0 ≤ h0.size) (S_SIOOBE_FORMATTER : Sta Z h0 "jdk/internal/util/Preconditions" "SIOOBE_FORMATTER" "Ljava/util/function/BiFunction;" v_SIOOBE_FORMATTER) (hr_v_SIOOBE_FORMATTER : v_SIOOBE_FORMATTER.isRef = true) (hc1_4 : ¬ (p0 < (0 : Int32))) (hc6_4 : p0 < p1) :
    MetFree l (⟨"java/lang/String", "checkIndex", "(II)V"⟩ : MethodName) (head1 (Jvm.Cond.code (⟨"java/lang/String", "checkIndex", "(II)V"⟩ : MethodName) jdk_42_method_155_code 2 none :: ws) ({ frames := 1, cells := 0, slots := 0, locals := 14 } : Room)) (fun a U => a = #[(.int p0), (.int p1)] ∧ Z.Warmed39 U.vm ∧ U.heap = h0) (fun _ _ _ _ _ => True) (fun _ U o U' => ∃ v L, o = .returned v ∧ Q33 Z p0 p1 v_SIOOBE_FORMATTER h0 n0 v U'.heap L ∧ FrameEnd U o U' L ({ frames := 1, cells := 0, slots := 0, locals := 14 } : Room).cells ({ frames := 1, cells := 0, slots := 0, locals := 14 } : Room).slots) := by
  refine MetFree.of_bodySF (plainFor_of_name pn_java_lang_String) hisR ?_
  intro p e s m args below meth c s₁ Bd hml0 hP hK
  obtain ⟨rfl, hZ, hh⟩ := hP
  have hx := Bd.exec
  have hby := Bd.bytes
  have hml : c.maxLocals = 2 := hml0
  have hown : s.vm.findClass "java/lang/String" = some m.cls := findClass_of_methodNamed Bd.named
  have hnm := (name_of_methodNamed Bd.named Bd.method).1
  have X0 : Stand p l e ({ frames := 1, cells := 0, slots := 0, locals := 14 } : Room) s m #[(.int p0), (.int p1)] below meth c s₁ [] 0 0 := Stand.of_body Bd
  have e0 : s₁.heap = h0 := by rw [← hh, Bd.state]; rfl
  have N0 := Fr.nil n0
  show Go p e below (fun o U' => ∃ v L, o = .returned v ∧ Q33 Z p0 p1 v_SIOOBE_FORMATTER h0 n0 v U'.heap L ∧ FrameEnd s o U' L ({ frames := 1, cells := 0, slots := 0, locals := 14 } : Room).cells ({ frames := 1, cells := 0, slots := 0, locals := 14 } : Room).slots) (s₁.setTop (entryFrame m #[(.int p0), (.int p1)] 2))
  refine Go.of (fun _ k => castTop (ef_33 m p0 p1) k) ?_
  show Go p e below _ (s₁.setTop (mkF m 0 #[.val (.int p0), .val (.int p1)] []))
  refine Go.of (fun _ k => XS.iloadN X0.here hx rfl (hb hby d33_0) rfl  k) ?_
  show Go p e below _ (s₁.setTop (mkF m 1 #[.val (.int p0), .val (.int p1)] [(.int p0)]))
  refine Go.of (fun _ k => XS.iloadN X0.here hx rfl (hb hby d33_1) rfl  k) ?_
  show Go p e below _ (s₁.setTop (mkF m 2 #[.val (.int p0), .val (.int p1)] [(.int p1), (.int p0)]))
  rcases ref_cases hr_v_SIOOBE_FORMATTER with hv1 | ⟨w_hv1, hv1⟩
  ·
    have S2 : Sta Z h0 "jdk/internal/util/Preconditions" "SIOOBE_FORMATTER" "Ljava/util/function/BiFunction;" .null := hv1 ▸ S_SIOOBE_FORMATTER
    show Go p e below _ (s₁.setTop (mkF m 2 #[.val (.int p0), .val (.int p1)] [(.int p1), (.int p0)]))
    obtain ⟨T3, X3, e3, st3⟩ := getS2 X0 hx hZ hown (host := "") (Or.inl (hw _ (List.mem_of_getElem? (i := 183) rfl))) Via.refl e0 S2 (g := (mkF m 2 #[.val (.int p0), .val (.int p1)] [(.int p1), (.int p0)])) rfl (hb hby d33_2)
    refine Go.of st3 ?_
    show Go p e below _ (T3.setTop (mkF m 5 #[.val (.int p0), .val (.int p1)] [.null, (.int p1), (.int p0)]))
    obtain ⟨_, _, ⟨T4, L4, k4, n4⟩, -, X4, ⟨Lc4, hQ4, l4, y4, z4⟩, st4⟩ := Jvm.LawKit.callS X3 hx (y := (⟨"jdk/internal/util/Preconditions", "checkIndex", "(IILjava/util/function/BiFunction;)I"⟩ : MethodName)) hown (mvT hZ (hw _ (List.mem_of_getElem? (i := 185) rfl))) (mvT hZ (hw _ (List.mem_of_getElem? (i := 186) rfl))) (mvT hZ (hw _ (List.mem_of_getElem? (i := 184) rfl))) (mvT hZ (hw _ (List.mem_of_getElem? (i := 187) rfl))) (by decide) (backOf (W := 0) (rm34_n l Z a0 hw [] p0 p1 h0 n0 Z0 hc1_4 hc6_4) hZ (hw _ (List.mem_of_getElem? (i := 187) rfl)) (hw _ (List.mem_of_getElem? (i := 184) rfl)) (by decide) (by decide)) (g := (mkF m 5 #[.val (.int p0), .val (.int p1)] [.null, (.int p1), (.int p0)])) rfl (by rw [hml]; rfl) (argsL := [(.int p0), (.int p1), .null]) (rest := []) (lenOf pd_18 rfl) rfl (by show 2 * 0 + _ ≤ _; exact Nat.le_of_eq rfl) (hb hby d33_5) (fun _ _ => ⟨rfl, e3, (by decide : 0 + 0 ≤ _), (by decide : 0 + 0 ≤ _)⟩)
    dsimp only [Pt.U, Pt.locs, Pt.cells, Pt.slots] at X4 l4 y4 z4 st4 hQ4
    subst l4 y4 z4
    obtain ⟨rfl, Nq4, q4_0⟩ := hQ4
    have N4 := Fr.app N0 Nq4
    refine Go.of st4 ?_
    show Go p e below _ (T4.setTop (mkF m 8 #[.val (.int p0), .val (.int p1)] [(.int p0)]))
    refine Go.of (fun _ k => XS.pop X4.here hx rfl (hb hby d33_8) rfl rfl k) ?_
    show Go p e below _ (T4.setTop (mkF m 9 #[.val (.int p0), .val (.int p1)] []))
    obtain ⟨fs, hr, hrun, hended, hW, hsame⟩ := X4.leave (v := none) (fun _ => rfl)
    refine Go.mk _ _ ?_ hrun hended ⟨_, _, rfl, ?_, ⟨_, rfl⟩, hW, hsame.mono (by decide) (by decide)⟩
    · exact X4.returnOut hx Bd.returns (hb hby d33_9) hr
    · show Q33 Z p0 p1 v_SIOOBE_FORMATTER h0 n0 _ T4.heap _
      rw [q4_0]
      exact ⟨rfl, N4, rfl⟩
  ·
    have S6 : Sta Z h0 "jdk/internal/util/Preconditions" "SIOOBE_FORMATTER" "Ljava/util/function/BiFunction;" (.ref w_hv1) := hv1 ▸ S_SIOOBE_FORMATTER
    show Go p e below _ (s₁.setTop (mkF m 2 #[.val (.int p0), .val (.int p1)] [(.int p1), (.int p0)]))
    obtain ⟨T7, X7, e7, st7⟩ := getS2 X0 hx hZ hown (host := "") (Or.inl (hw _ (List.mem_of_getElem? (i := 183) rfl))) Via.refl e0 S6 (g := (mkF m 2 #[.val (.int p0), .val (.int p1)] [(.int p1), (.int p0)])) rfl (hb hby d33_2)
    refine Go.of st7 ?_
    show Go p e below _ (T7.setTop (mkF m 5 #[.val (.int p0), .val (.int p1)] [(.ref w_hv1), (.int p1), (.int p0)]))
    obtain ⟨_, _, ⟨T8, L8, k8, n8⟩, -, X8, ⟨Lc8, hQ8, l8, y8, z8⟩, st8⟩ := Jvm.LawKit.callS X7 hx (y := (⟨"jdk/internal/util/Preconditions", "checkIndex", "(IILjava/util/function/BiFunction;)I"⟩ : MethodName)) hown (mvT hZ (hw _ (List.mem_of_getElem? (i := 185) rfl))) (mvT hZ (hw _ (List.mem_of_getElem? (i := 186) rfl))) (mvT hZ (hw _ (List.mem_of_getElem? (i := 184) rfl))) (mvT hZ (hw _ (List.mem_of_getElem? (i := 187) rfl))) (by decide) (backOf (W := 0) (rm34_r l Z a0 hw [] p0 p1 w_hv1 h0 n0 Z0 hc1_4 hc6_4) hZ (hw _ (List.mem_of_getElem? (i := 187) rfl)) (hw _ (List.mem_of_getElem? (i := 184) rfl)) (by decide) (by decide)) (g := (mkF m 5 #[.val (.int p0), .val (.int p1)] [(.ref w_hv1), (.int p1), (.int p0)])) rfl (by rw [hml]; rfl) (argsL := [(.int p0), (.int p1), (.ref w_hv1)]) (rest := []) (lenOf pd_18 rfl) rfl (by show 2 * 0 + _ ≤ _; exact Nat.le_of_eq rfl) (hb hby d33_5) (fun _ _ => ⟨rfl, e7, (by decide : 0 + 0 ≤ _), (by decide : 0 + 0 ≤ _)⟩)
    dsimp only [Pt.U, Pt.locs, Pt.cells, Pt.slots] at X8 l8 y8 z8 st8 hQ8
    subst l8 y8 z8
    obtain ⟨rfl, Nq8, q8_0⟩ := hQ8
    have N8 := Fr.app N0 Nq8
    refine Go.of st8 ?_
    show Go p e below _ (T8.setTop (mkF m 8 #[.val (.int p0), .val (.int p1)] [(.int p0)]))
    refine Go.of (fun _ k => XS.pop X8.here hx rfl (hb hby d33_8) rfl rfl k) ?_
    show Go p e below _ (T8.setTop (mkF m 9 #[.val (.int p0), .val (.int p1)] []))
    obtain ⟨fs, hr, hrun, hended, hW, hsame⟩ := X8.leave (v := none) (fun _ => rfl)
    refine Go.mk _ _ ?_ hrun hended ⟨_, _, rfl, ?_, ⟨_, rfl⟩, hW, hsame.mono (by decide) (by decide)⟩
    · exact X8.returnOut hx Bd.returns (hb hby d33_9) hr
    · show Q33 Z p0 p1 v_SIOOBE_FORMATTER h0 n0 _ T8.heap _
      rw [q8_0]
      exact ⟨rfl, N8, rfl⟩
theorem d31_0 : decode jdk_42_method_154_code 0 = .ok (.getstatic 38, 3) := by decide +kernel
theorem d31_3 : decode jdk_42_method_154_code 3 = .ok (.ifCond .eq 14, 3) := by decide +kernel
theorem d31_6 : decode jdk_42_method_154_code 6 = .ok (.aload_n 0, 1) := by decide +kernel
theorem d31_7 : decode jdk_42_method_154_code 7 = .ok (.getfield 15, 3) := by decide +kernel
theorem d31_10 : decode jdk_42_method_154_code 10 = .ok (.ifCond .ne 7, 3) := by decide +kernel
theorem d31_13 : decode jdk_42_method_154_code 13 = .ok (.iconst 1, 1) := by decide +kernel
theorem d31_14 : decode jdk_42_method_154_code 14 = .ok (.goto 4, 3) := by decide +kernel
theorem d31_18 : decode jdk_42_method_154_code 18 = .ok (.ireturn, 1) := by decide +kernel
theorem ef_31 (m : MethodId) (x0 : Addr) : entryFrame m #[(.ref x0)] 1 = mkF m 0 #[.val (.ref x0)] [] := by first | (simp [entryFrame, mkF, argsToLocals, Value.category]; done) | rfl
def Q31 (Z : State) (o0 : Addr) (w_COMPACT_STRINGS : Int32) (h0 : Heap) (n0 : Nat) (v : Option Value) (h : Heap) (L : List Loc) : Prop := v = some (.int (1 : Int32)) ∧ Fr n0 L ∧ h = h0
set_option maxRecDepth 65536 in
set_option maxHeartbeats 40000000 in
theorem rm31 (l : Launch) (Z : State) (a0 : Array Value) (hw : ∀ d ∈ tables_1, d.before a0 Z = true) (ws : List Jvm.Cond) (o0 : Addr) (w_COMPACT_STRINGS : Int32) (h0 : Heap) (n0 : Nat) (Z0 : n0 ≤ h0.size) (S_COMPACT_STRINGS : Sta Z h0 "java/lang/String" "COMPACT_STRINGS" "Z" (.int w_COMPACT_STRINGS)) (hc3 : ¬ (w_COMPACT_STRINGS = (0 : Int32))) (F_o0_coder : Fld Z h0 o0 "java/lang/String" "coder" "B" (.int (0 : Int32))) :
    MetFree l (⟨"java/lang/String", "isLatin1", "()Z"⟩ : MethodName) (head1 (Jvm.Cond.code (⟨"java/lang/String", "isLatin1", "()Z"⟩ : MethodName) jdk_42_method_154_code 1 (some .boolean) :: ws) ({ frames := 0, cells := 0, slots := 0, locals := 0 } : Room)) (fun a U => a = #[(.ref o0)] ∧ Z.Warmed39 U.vm ∧ U.heap = h0) (fun _ _ _ _ _ => True) (fun _ U o U' => ∃ v L, o = .returned v ∧ Q31 Z o0 w_COMPACT_STRINGS h0 n0 v U'.heap L ∧ FrameEnd U o U' L ({ frames := 0, cells := 0, slots := 0, locals := 0 } : Room).cells ({ frames := 0, cells := 0, slots := 0, locals := 0 } : Room).slots) := by
  refine MetFree.of_bodySF (plainFor_of_name pn_java_lang_String) hisR ?_
  intro p e s m args below meth c s₁ Bd hml0 hP hK
  obtain ⟨rfl, hZ, hh⟩ := hP
  have hx := Bd.exec
  have hby := Bd.bytes
  have hml : c.maxLocals = 1 := hml0
  have hown : s.vm.findClass "java/lang/String" = some m.cls := findClass_of_methodNamed Bd.named
  have hnm := (name_of_methodNamed Bd.named Bd.method).1
  have X0 : Stand p l e ({ frames := 0, cells := 0, slots := 0, locals := 0 } : Room) s m #[(.ref o0)] below meth c s₁ [] 0 0 := Stand.of_body Bd
  have e0 : s₁.heap = h0 := by rw [← hh, Bd.state]; rfl
  have N0 := Fr.nil n0
  show Go p e below (fun o U' => ∃ v L, o = .returned v ∧ Q31 Z o0 w_COMPACT_STRINGS h0 n0 v U'.heap L ∧ FrameEnd s o U' L ({ frames := 0, cells := 0, slots := 0, locals := 0 } : Room).cells ({ frames := 0, cells := 0, slots := 0, locals := 0 } : Room).slots) (s₁.setTop (entryFrame m #[(.ref o0)] 1))
  refine Go.of (fun _ k => castTop (ef_31 m o0) k) ?_
  show Go p e below _ (s₁.setTop (mkF m 0 #[.val (.ref o0)] []))
  obtain ⟨T1, X1, e1, st1⟩ := getS2 X0 hx hZ hown (host := "") (Or.inl (hw _ (List.mem_of_getElem? (i := 100) rfl))) Via.refl e0 S_COMPACT_STRINGS (g := (mkF m 0 #[.val (.ref o0)] [])) rfl (hb hby d31_0)
  refine Go.of st1 ?_
  show Go p e below _ (T1.setTop (mkF m 3 #[.val (.ref o0)] [(.int w_COMPACT_STRINGS)]))
  refine Go.of (fun _ k => XS.ifNo X1.here hx rfl (hb hby d31_3) rfl ((if0 _ _).trans (feq hc3).1) k) ?_
  show Go p e below _ (T1.setTop (mkF m 6 #[.val (.ref o0)] []))
  refine Go.of (fun _ k => XS.aloadN X1.here hx rfl (hb hby d31_6) rfl rfl k) ?_
  show Go p e below _ (T1.setTop (mkF m 7 #[.val (.ref o0)] [(.ref o0)]))
  obtain ⟨T2, X2, e2, st2⟩ := getF X1 hx hZ hown (host := "") (Or.inl (hw _ (List.mem_of_getElem? (i := 101) rfl))) Via.refl e1 F_o0_coder (g := (mkF m 7 #[.val (.ref o0)] [(.ref o0)])) rfl rfl (hb hby d31_7)
  refine Go.of st2 ?_
  show Go p e below _ (T2.setTop (mkF m 10 #[.val (.ref o0)] [(.int (0 : Int32))]))
  refine Go.of (fun _ k => XS.ifNo X2.here hx rfl (hb hby d31_10) rfl ((if0 _ _).trans (teq (by decide : (0 : Int32) = (0 : Int32))).2) k) ?_
  show Go p e below _ (T2.setTop (mkF m 13 #[.val (.ref o0)] []))
  refine Go.of (fun _ k => XS.iconst X2.here hx rfl (hb hby d31_13) k) ?_
  show Go p e below _ (T2.setTop (mkF m 14 #[.val (.ref o0)] [(.int (1 : Int32))]))
  refine Go.of (fun _ k => XS.goto X2.here hx rfl (pc0 := 14) (pc' := 18) rfl (hb hby d31_14) (by decide) (by decide) k) ?_
  show Go p e below _ (T2.setTop (mkF m 18 #[.val (.ref o0)] [(.int (1 : Int32))]))
  obtain ⟨fs, hr, hrun, hended, hW, hsame⟩ := X2.leave (v := some (.int (1 : Int32))) (fun h => by rw [Bd.returns] at h; cases h)
  refine Go.mk _ _ ?_ hrun hended ⟨_, _, rfl, ?_, ⟨_, rfl⟩, hW, hsame.mono (by decide) (by decide)⟩
  · exact retN X2 hx (t := .boolean) Bd.returns (by simp) (hb hby d31_18) hr
  · show Q31 Z o0 w_COMPACT_STRINGS h0 n0 _ T2.heap _
    rw [e2]
    exact ⟨rfl, N0, rfl⟩
theorem d32_0 : decode jdk_43_method_2_code 0 = .ok (.iload_n 1, 1) := by decide +kernel
theorem d32_1 : decode jdk_43_method_2_code 1 = .ok (.aload_n 0, 1) := by decide +kernel
theorem d32_2 : decode jdk_43_method_2_code 2 = .ok (.arraylength, 1) := by decide +kernel
theorem d32_3 : decode jdk_43_method_2_code 3 = .ok (.invokestatic 9, 3) := by decide +kernel
theorem d32_6 : decode jdk_43_method_2_code 6 = .ok (.aload_n 0, 1) := by decide +kernel
theorem d32_7 : decode jdk_43_method_2_code 7 = .ok (.iload_n 1, 1) := by decide +kernel
theorem d32_8 : decode jdk_43_method_2_code 8 = .ok (.baload, 1) := by decide +kernel
theorem d32_9 : decode jdk_43_method_2_code 9 = .ok (.sipush 255, 3) := by decide +kernel
theorem d32_12 : decode jdk_43_method_2_code 12 = .ok (.iand, 1) := by decide +kernel
theorem d32_13 : decode jdk_43_method_2_code 13 = .ok (.i2c, 1) := by decide +kernel
theorem d32_14 : decode jdk_43_method_2_code 14 = .ok (.ireturn, 1) := by decide +kernel
theorem pn_java_lang_StringLatin1 : plainName "java/lang/StringLatin1" = true := by first | (simp [plainName, overriddenIn]; done) | decide +kernel
theorem ef_32l2_0 (m : MethodId) (x0 : Addr) : entryFrame m #[(.ref x0), (.int (0 : Int32))] 2 = mkF m 0 #[.val (.ref x0), .val (.int (0 : Int32))] [] := by first | (simp [entryFrame, mkF, argsToLocals, Value.category]; done) | rfl
def Q32_10 (Z : State) (o0 : Addr) (cb0 : Int32) (kv : ClassId) (v_SIOOBE_FORMATTER : Value) (h0 : Heap) (n0 : Nat) (v : Option Value) (h : Heap) (L : List Loc) : Prop := v = some (.int (nar .char ((cb0 &&& (255 : Int32)).toUInt32.toUInt16.toUInt32.toInt32))) ∧ Fr n0 L ∧ h = h0
set_option maxRecDepth 65536 in
set_option maxHeartbeats 40000000 in
theorem rm32_10 (l : Launch) (Z : State) (a0 : Array Value) (hw : ∀ d ∈ tables_1, d.before a0 Z = true) (ws : List Jvm.Cond) (o0 : Addr) (cb0 : Int32) (kv : ClassId) (v_SIOOBE_FORMATTER : Value) (h0 : Heap) (n0 : Nat) (Z0 : n0 ≤ h0.size) (V_o0 : Arv Z h0 o0 kv .byte (1 : Int32) [(.int cb0)] (.int (0 : Int32))) (S_SIOOBE_FORMATTER : Sta Z h0 "jdk/internal/util/Preconditions" "SIOOBE_FORMATTER" "Ljava/util/function/BiFunction;" v_SIOOBE_FORMATTER) (hr_v_SIOOBE_FORMATTER : v_SIOOBE_FORMATTER.isRef = true) :
    MetFree l (⟨"java/lang/StringLatin1", "charAt", "([BI)C"⟩ : MethodName) (head1 (Jvm.Cond.code (⟨"java/lang/StringLatin1", "charAt", "([BI)C"⟩ : MethodName) jdk_43_method_2_code 2 (some .char) :: ws) ({ frames := 2, cells := 0, slots := 0, locals := 27 } : Room)) (fun a U => a = #[(.ref o0), (.int (0 : Int32))] ∧ Z.Warmed39 U.vm ∧ U.heap = h0) (fun _ _ _ _ _ => True) (fun _ U o U' => ∃ v L, o = .returned v ∧ Q32_10 Z o0 cb0 kv v_SIOOBE_FORMATTER h0 n0 v U'.heap L ∧ FrameEnd U o U' L ({ frames := 2, cells := 0, slots := 0, locals := 27 } : Room).cells ({ frames := 2, cells := 0, slots := 0, locals := 27 } : Room).slots) := by
  refine MetFree.of_bodySF (plainFor_of_name pn_java_lang_StringLatin1) hisR ?_
  intro p e s m args below meth c s₁ Bd hml0 hP hK
  obtain ⟨rfl, hZ, hh⟩ := hP
  have hx := Bd.exec
  have hby := Bd.bytes
  have hml : c.maxLocals = 2 := hml0
  have hown : s.vm.findClass "java/lang/StringLatin1" = some m.cls := findClass_of_methodNamed Bd.named
  have hnm := (name_of_methodNamed Bd.named Bd.method).1
  have X0 : Stand p l e ({ frames := 2, cells := 0, slots := 0, locals := 27 } : Room) s m #[(.ref o0), (.int (0 : Int32))] below meth c s₁ [] 0 0 := Stand.of_body Bd
  have e0 : s₁.heap = h0 := by rw [← hh, Bd.state]; rfl
  have N0 := Fr.nil n0
  show Go p e below (fun o U' => ∃ v L, o = .returned v ∧ Q32_10 Z o0 cb0 kv v_SIOOBE_FORMATTER h0 n0 v U'.heap L ∧ FrameEnd s o U' L ({ frames := 2, cells := 0, slots := 0, locals := 27 } : Room).cells ({ frames := 2, cells := 0, slots := 0, locals := 27 } : Room).slots) (s₁.setTop (entryFrame m #[(.ref o0), (.int (0 : Int32))] 2))
  refine Go.of (fun _ k => castTop (ef_32l2_0 m o0) k) ?_
  show Go p e below _ (s₁.setTop (mkF m 0 #[.val (.ref o0), .val (.int (0 : Int32))] []))
  refine Go.of (fun _ k => XS.iloadN X0.here hx rfl (hb hby d32_0) rfl  k) ?_
  show Go p e below _ (s₁.setTop (mkF m 1 #[.val (.ref o0), .val (.int (0 : Int32))] [(.int (0 : Int32))]))
  refine Go.of (fun _ k => XS.aloadN X0.here hx rfl (hb hby d32_1) rfl rfl k) ?_
  show Go p e below _ (s₁.setTop (mkF m 2 #[.val (.ref o0), .val (.int (0 : Int32))] [(.ref o0), (.int (0 : Int32))]))
  obtain ⟨clt1, Art1, qt1, st1, nt1, Ht1, Gt1⟩ := id V_o0
  refine Go.of (fun _ k => X0.arraylength hx (by rw [e0]; exact Art1.1) (State.isArrayOf_alike hZ.alike Art1.2.1) (g := (mkF m 2 #[.val (.ref o0), .val (.int (0 : Int32))] [(.ref o0), (.int (0 : Int32))])) rfl rfl (hb hby d32_2) _ k) ?_
  rw [len_of st1 nt1]
  show Go p e below _ (s₁.setTop (mkF m 3 #[.val (.ref o0), .val (.int (0 : Int32))] [(.int (1 : Int32)), (.int (0 : Int32))]))
  obtain ⟨_, _, ⟨T2, L2, k2, n2⟩, -, X2, ⟨Lc2, hQ2, l2, y2, z2⟩, st2⟩ := Jvm.LawKit.callS X0 hx (y := (⟨"java/lang/String", "checkIndex", "(II)V"⟩ : MethodName)) hown (mvT hZ (hw _ (List.mem_of_getElem? (i := 180) rfl))) (mvT hZ (hw _ (List.mem_of_getElem? (i := 181) rfl))) (mvT hZ (hw _ (List.mem_of_getElem? (i := 38) rfl))) (mvT hZ (hw _ (List.mem_of_getElem? (i := 182) rfl))) (by decide) (backOf (W := 0) (rm33 l Z a0 hw [] (0 : Int32) (1 : Int32) v_SIOOBE_FORMATTER h0 n0 Z0 S_SIOOBE_FORMATTER hr_v_SIOOBE_FORMATTER (by decide : ¬ ((0 : Int32) < (0 : Int32))) (by decide : (0 : Int32) < (1 : Int32))) hZ (hw _ (List.mem_of_getElem? (i := 182) rfl)) (hw _ (List.mem_of_getElem? (i := 38) rfl)) (by decide) (by decide)) (g := (mkF m 3 #[.val (.ref o0), .val (.int (0 : Int32))] [(.int (1 : Int32)), (.int (0 : Int32))])) rfl (by rw [hml]; rfl) (argsL := [(.int (0 : Int32)), (.int (1 : Int32))]) (rest := []) (lenOf pd_11 rfl) rfl (by show 2 * 0 + _ ≤ _; exact Nat.le_of_eq rfl) (hb hby d32_3) (fun _ _ => ⟨rfl, e0, (by decide : 0 + 0 ≤ _), (by decide : 0 + 0 ≤ _)⟩)
  dsimp only [Pt.U, Pt.locs, Pt.cells, Pt.slots] at X2 l2 y2 z2 st2 hQ2
  subst l2 y2 z2
  obtain ⟨rfl, Nq2, q2_0⟩ := hQ2
  have N2 := Fr.app N0 Nq2
  refine Go.of st2 ?_
  show Go p e below _ (T2.setTop (mkF m 6 #[.val (.ref o0), .val (.int (0 : Int32))] []))
  refine Go.of (fun _ k => XS.aloadN X2.here hx rfl (hb hby d32_6) rfl rfl k) ?_
  show Go p e below _ (T2.setTop (mkF m 7 #[.val (.ref o0), .val (.int (0 : Int32))] [(.ref o0)]))
  refine Go.of (fun _ k => XS.iloadN X2.here hx rfl (hb hby d32_7) rfl  k) ?_
  show Go p e below _ (T2.setTop (mkF m 8 #[.val (.ref o0), .val (.int (0 : Int32))] [(.int (0 : Int32)), (.ref o0)]))
  obtain ⟨clt3, Art3, qt3, st3, nt3, Ht3, Gt3⟩ := id V_o0
  have hint3 : ¬ ((0 : Int32) < 0 ∨ clt3.slots.size ≤ ((0 : Int32)).toNatClampNeg) := inb_of st3 ⟨by decide, by decide⟩
  refine Go.of (fun _ k => X2.baloadBytes hx (j := (0 : Int32)) (v := (.int cb0)) (by rw [q2_0]; exact Art3.1) (State.isArrayOf_alike hZ.alike Art3.2.1) Art3.2.2 hint3 (Ht3.at hint3 rfl) (g := (mkF m 8 #[.val (.ref o0), .val (.int (0 : Int32))] [(.int (0 : Int32)), (.ref o0)])) rfl rfl (hb hby d32_8) _ k) ?_
  show Go p e below _ (T2.setTop (mkF m 9 #[.val (.ref o0), .val (.int (0 : Int32))] [(.int cb0)]))
  refine Go.of (fun _ k => XS.sipush X2.here hx rfl (hb hby d32_9) k) ?_
  show Go p e below _ (T2.setTop (mkF m 12 #[.val (.ref o0), .val (.int (0 : Int32))] [(.int (255 : Int32)), (.int cb0)]))
  refine Go.of (fun _ k => XS.iand X2.here hx rfl (hb hby d32_12) rfl k) ?_
  show Go p e below _ (T2.setTop (mkF m 13 #[.val (.ref o0), .val (.int (0 : Int32))] [(.int (cb0 &&& (255 : Int32)))]))
  refine Go.of (fun _ k => XS.i2c X2.here hx rfl (hb hby d32_13) rfl k) ?_
  show Go p e below _ (T2.setTop (mkF m 14 #[.val (.ref o0), .val (.int (0 : Int32))] [(.int ((cb0 &&& (255 : Int32)).toUInt32.toUInt16.toUInt32.toInt32))]))
  obtain ⟨fs, hr, hrun, hended, hW, hsame⟩ := X2.leave (v := some (.int (nar .char ((cb0 &&& (255 : Int32)).toUInt32.toUInt16.toUInt32.toInt32)))) (fun h => by rw [Bd.returns] at h; cases h)
  refine Go.mk _ _ ?_ hrun hended ⟨_, _, rfl, ?_, ⟨_, rfl⟩, hW, hsame.mono (by decide) (by decide)⟩
  · exact retN X2 hx (t := .char) Bd.returns (by simp) (hb hby d32_14) hr
  · show Q32_10 Z o0 cb0 kv v_SIOOBE_FORMATTER h0 n0 _ T2.heap _
    rw [q2_0]
    exact ⟨rfl, N2, rfl⟩
theorem d30_0 : decode jdk_42_method_56_code 0 = .ok (.aload_n 0, 1) := by decide +kernel
theorem d30_1 : decode jdk_42_method_56_code 1 = .ok (.invokevirtual 492, 3) := by decide +kernel
theorem d30_4 : decode jdk_42_method_56_code 4 = .ok (.ifCond .eq 12, 3) := by decide +kernel
theorem d30_7 : decode jdk_42_method_56_code 7 = .ok (.aload_n 0, 1) := by decide +kernel
theorem d30_8 : decode jdk_42_method_56_code 8 = .ok (.getfield 9, 3) := by decide +kernel
theorem d30_11 : decode jdk_42_method_56_code 11 = .ok (.iload_n 1, 1) := by decide +kernel
theorem d30_12 : decode jdk_42_method_56_code 12 = .ok (.invokestatic 495, 3) := by decide +kernel
theorem pd_19 : parseMethodDescriptor "([BI)C" = some ⟨[(.array .byte), .int], some .char⟩ := by decide +kernel
theorem d30_15 : decode jdk_42_method_56_code 15 = .ok (.ireturn, 1) := by decide +kernel
theorem ef_30l1_0 (m : MethodId) (x0 : Addr) : entryFrame m #[(.ref x0), (.int (0 : Int32))] 2 = mkF m 0 #[.val (.ref x0), .val (.int (0 : Int32))] [] := by first | (simp [entryFrame, mkF, argsToLocals, Value.category]; done) | rfl
def Q30_10 (Z : State) (o0 : Addr) (cb0 : Int32) (w_COMPACT_STRINGS : Int32) (f_o0_value : Addr) (kv : ClassId) (v_SIOOBE_FORMATTER : Value) (h0 : Heap) (n0 : Nat) (v : Option Value) (h : Heap) (L : List Loc) : Prop := v = some (.int (nar .char (nar .char ((cb0 &&& (255 : Int32)).toUInt32.toUInt16.toUInt32.toInt32)))) ∧ Fr n0 L ∧ h = h0
set_option maxRecDepth 65536 in
set_option maxHeartbeats 40000000 in
theorem rm30_10 (l : Launch) (Z : State) (a0 : Array Value) (hw : ∀ d ∈ tables_1, d.before a0 Z = true) (ws : List Jvm.Cond) (o0 : Addr) (cb0 : Int32) (w_COMPACT_STRINGS : Int32) (f_o0_value : Addr) (kv : ClassId) (v_SIOOBE_FORMATTER : Value) (h0 : Heap) (n0 : Nat) (Z0 : n0 ≤ h0.size) (S_COMPACT_STRINGS : Sta Z h0 "java/lang/String" "COMPACT_STRINGS" "Z" (.int w_COMPACT_STRINGS)) (hc3_1 : ¬ (w_COMPACT_STRINGS = (0 : Int32))) (F_o0_coder : Fld Z h0 o0 "java/lang/String" "coder" "B" (.int (0 : Int32))) (E_o0 : Exa Z h0 o0 "java/lang/String") (F_o0_value : Fld Z h0 o0 "java/lang/String" "value" "[B" (.ref f_o0_value)) (V_f_o0_value : Arv Z h0 f_o0_value kv .byte (1 : Int32) [(.int cb0)] (.int (0 : Int32))) (S_SIOOBE_FORMATTER : Sta Z h0 "jdk/internal/util/Preconditions" "SIOOBE_FORMATTER" "Ljava/util/function/BiFunction;" v_SIOOBE_FORMATTER) (hr_v_SIOOBE_FORMATTER : v_SIOOBE_FORMATTER.isRef = true) :
    MetFree l (⟨"java/lang/String", "charAt", "(I)C"⟩ : MethodName) (head1 (Jvm.Cond.code (⟨"java/lang/String", "charAt", "(I)C"⟩ : MethodName) jdk_42_method_56_code 2 (some .char) :: ws) ({ frames := 3, cells := 0, slots := 0, locals := 40 } : Room)) (fun a U => a = #[(.ref o0), (.int (0 : Int32))] ∧ Z.Warmed39 U.vm ∧ U.heap = h0) (fun _ _ _ _ _ => True) (fun _ U o U' => ∃ v L, o = .returned v ∧ Q30_10 Z o0 cb0 w_COMPACT_STRINGS f_o0_value kv v_SIOOBE_FORMATTER h0 n0 v U'.heap L ∧ FrameEnd U o U' L ({ frames := 3, cells := 0, slots := 0, locals := 40 } : Room).cells ({ frames := 3, cells := 0, slots := 0, locals := 40 } : Room).slots) := by
  refine MetFree.of_bodySF (plainFor_of_name pn_java_lang_String) hisR ?_
  intro p e s m args below meth c s₁ Bd hml0 hP hK
  obtain ⟨rfl, hZ, hh⟩ := hP
  have hx := Bd.exec
  have hby := Bd.bytes
  have hml : c.maxLocals = 2 := hml0
  have hown : s.vm.findClass "java/lang/String" = some m.cls := findClass_of_methodNamed Bd.named
  have hnm := (name_of_methodNamed Bd.named Bd.method).1
  have X0 : Stand p l e ({ frames := 3, cells := 0, slots := 0, locals := 40 } : Room) s m #[(.ref o0), (.int (0 : Int32))] below meth c s₁ [] 0 0 := Stand.of_body Bd
  have e0 : s₁.heap = h0 := by rw [← hh, Bd.state]; rfl
  have N0 := Fr.nil n0
  show Go p e below (fun o U' => ∃ v L, o = .returned v ∧ Q30_10 Z o0 cb0 w_COMPACT_STRINGS f_o0_value kv v_SIOOBE_FORMATTER h0 n0 v U'.heap L ∧ FrameEnd s o U' L ({ frames := 3, cells := 0, slots := 0, locals := 40 } : Room).cells ({ frames := 3, cells := 0, slots := 0, locals := 40 } : Room).slots) (s₁.setTop (entryFrame m #[(.ref o0), (.int (0 : Int32))] 2))
  refine Go.of (fun _ k => castTop (ef_30l1_0 m o0) k) ?_
  show Go p e below _ (s₁.setTop (mkF m 0 #[.val (.ref o0), .val (.int (0 : Int32))] []))
  refine Go.of (fun _ k => XS.aloadN X0.here hx rfl (hb hby d30_0) rfl rfl k) ?_
  show Go p e below _ (s₁.setTop (mkF m 1 #[.val (.ref o0), .val (.int (0 : Int32))] [(.ref o0)]))
  obtain ⟨cq1, kq1, q1a, q1b, q1c⟩ := isOf hZ e0 E_o0
  obtain ⟨_, _, ⟨T1, L1, k1, n1⟩, -, X1, ⟨Lc1, hQ1, l1, y1, z1⟩, st1⟩ := X0.virtualBack hx (y := (⟨"java/lang/String", "isLatin1", "()Z"⟩ : MethodName)) (z := (⟨"java/lang/String", "isLatin1", "()Z"⟩ : MethodName)) hown (mvT hZ (hw _ (List.mem_of_getElem? (i := 171) rfl))) (mvT hZ (hw _ (List.mem_of_getElem? (i := 172) rfl))) (notFace_of_selects (args := #[]) (mvT hZ (hw _ (List.mem_of_getElem? (i := 174) rfl)))) (mvT hZ (hw _ (List.mem_of_getElem? (i := 174) rfl))) (mvT hZ (hw _ (List.mem_of_getElem? (i := 173) rfl))) (by decide) (backOf (W := 0) (rm31 l Z a0 hw [] o0 w_COMPACT_STRINGS h0 n0 Z0 S_COMPACT_STRINGS hc3_1 F_o0_coder) hZ (hw _ (List.mem_of_getElem? (i := 175) rfl)) (hw _ (List.mem_of_getElem? (i := 38) rfl)) (by decide) (by decide)) q1a q1c (g := (mkF m 1 #[.val (.ref o0), .val (.int (0 : Int32))] [(.ref o0)])) rfl (by rw [hml]; rfl) (Steps.refl _) (argsL := []) (rest := []) (lenOf pd_2 rfl) rfl (by show 2 * 0 + _ ≤ _; exact Nat.le_of_eq rfl) (hb hby d30_1) (fun _ _ => ⟨rfl, e0, (by decide : 0 + 0 ≤ _), (by decide : 0 + 0 ≤ _)⟩)
  dsimp only [Pt.U, Pt.locs, Pt.cells, Pt.slots] at X1 l1 y1 z1 st1 hQ1
  subst l1 y1 z1
  obtain ⟨rfl, Nq1, q1_0⟩ := hQ1
  have N1 := Fr.app N0 Nq1
  refine Go.tr st1 ?_
  show Go p e below _ (T1.setTop (mkF m 4 #[.val (.ref o0), .val (.int (0 : Int32))] [(.int (1 : Int32))]))
  refine Go.of (fun _ k => XS.ifNo X1.here hx rfl (hb hby d30_4) rfl ((if0 _ _).trans (feq (by decide : ¬ ((1 : Int32) = (0 : Int32)))).1) k) ?_
  show Go p e below _ (T1.setTop (mkF m 7 #[.val (.ref o0), .val (.int (0 : Int32))] []))
  refine Go.of (fun _ k => XS.aloadN X1.here hx rfl (hb hby d30_7) rfl rfl k) ?_
  show Go p e below _ (T1.setTop (mkF m 8 #[.val (.ref o0), .val (.int (0 : Int32))] [(.ref o0)]))
  obtain ⟨T2, X2, e2, st2⟩ := getF X1 hx hZ hown (host := "") (Or.inl (hw _ (List.mem_of_getElem? (i := 94) rfl))) Via.refl q1_0 F_o0_value (g := (mkF m 8 #[.val (.ref o0), .val (.int (0 : Int32))] [(.ref o0)])) rfl rfl (hb hby d30_8)
  refine Go.of st2 ?_
  show Go p e below _ (T2.setTop (mkF m 11 #[.val (.ref o0), .val (.int (0 : Int32))] [(.ref f_o0_value)]))
  refine Go.of (fun _ k => XS.iloadN X2.here hx rfl (hb hby d30_11) rfl  k) ?_
  show Go p e below _ (T2.setTop (mkF m 12 #[.val (.ref o0), .val (.int (0 : Int32))] [(.int (0 : Int32)), (.ref f_o0_value)]))
  obtain ⟨_, _, ⟨T3, L3, k3, n3⟩, -, X3, ⟨Lc3, hQ3, l3, y3, z3⟩, st3⟩ := Jvm.LawKit.callS X2 hx (y := (⟨"java/lang/StringLatin1", "charAt", "([BI)C"⟩ : MethodName)) hown (mvT hZ (hw _ (List.mem_of_getElem? (i := 176) rfl))) (mvT hZ (hw _ (List.mem_of_getElem? (i := 177) rfl))) (mvT hZ (hw _ (List.mem_of_getElem? (i := 178) rfl))) (mvT hZ (hw _ (List.mem_of_getElem? (i := 179) rfl))) (by decide) (backOf (W := 0) (rm32_10 l Z a0 hw [] f_o0_value cb0 kv v_SIOOBE_FORMATTER h0 n0 Z0 V_f_o0_value S_SIOOBE_FORMATTER hr_v_SIOOBE_FORMATTER) hZ (hw _ (List.mem_of_getElem? (i := 179) rfl)) (hw _ (List.mem_of_getElem? (i := 178) rfl)) (by decide) (by decide)) (g := (mkF m 12 #[.val (.ref o0), .val (.int (0 : Int32))] [(.int (0 : Int32)), (.ref f_o0_value)])) rfl (by rw [hml]; rfl) (argsL := [(.ref f_o0_value), (.int (0 : Int32))]) (rest := []) (lenOf pd_19 rfl) rfl (by show 2 * 0 + _ ≤ _; exact Nat.le_of_eq rfl) (hb hby d30_12) (fun _ _ => ⟨rfl, e2, (by decide : 0 + 0 ≤ _), (by decide : 0 + 0 ≤ _)⟩)
  dsimp only [Pt.U, Pt.locs, Pt.cells, Pt.slots] at X3 l3 y3 z3 st3 hQ3
  subst l3 y3 z3
  obtain ⟨rfl, Nq3, q3_0⟩ := hQ3
  have N3 := Fr.app N1 Nq3
  refine Go.of st3 ?_
  show Go p e below _ (T3.setTop (mkF m 15 #[.val (.ref o0), .val (.int (0 : Int32))] [(.int (nar .char ((cb0 &&& (255 : Int32)).toUInt32.toUInt16.toUInt32.toInt32)))]))
  obtain ⟨fs, hr, hrun, hended, hW, hsame⟩ := X3.leave (v := some (.int (nar .char (nar .char ((cb0 &&& (255 : Int32)).toUInt32.toUInt16.toUInt32.toInt32))))) (fun h => by rw [Bd.returns] at h; cases h)
  refine Go.mk _ _ ?_ hrun hended ⟨_, _, rfl, ?_, ⟨_, rfl⟩, hW, hsame.mono (by decide) (by decide)⟩
  · exact retN X3 hx (t := .char) Bd.returns (by simp) (hb hby d30_15) hr
  · show Q30_10 Z o0 cb0 w_COMPACT_STRINGS f_o0_value kv v_SIOOBE_FORMATTER h0 n0 _ T3.heap _
    rw [q3_0]
    exact ⟨rfl, N3, rfl⟩
def Q32_20 (Z : State) (o0 : Addr) (cb0 : Int32) (cb1 : Int32) (kv : ClassId) (v_SIOOBE_FORMATTER : Value) (h0 : Heap) (n0 : Nat) (v : Option Value) (h : Heap) (L : List Loc) : Prop := v = some (.int (nar .char ((cb0 &&& (255 : Int32)).toUInt32.toUInt16.toUInt32.toInt32))) ∧ Fr n0 L ∧ h = h0
set_option maxRecDepth 65536 in
set_option maxHeartbeats 40000000 in
theorem rm32_20 (l : Launch) (Z : State) (a0 : Array Value) (hw : ∀ d ∈ tables_1, d.before a0 Z = true) (ws : List Jvm.Cond) (o0 : Addr) (cb0 : Int32) (cb1 : Int32) (kv : ClassId) (v_SIOOBE_FORMATTER : Value) (h0 : Heap) (n0 : Nat) (Z0 : n0 ≤ h0.size) (V_o0 : Arv Z h0 o0 kv .byte (2 : Int32) [(.int cb0), (.int cb1)] (.int (0 : Int32))) (S_SIOOBE_FORMATTER : Sta Z h0 "jdk/internal/util/Preconditions" "SIOOBE_FORMATTER" "Ljava/util/function/BiFunction;" v_SIOOBE_FORMATTER) (hr_v_SIOOBE_FORMATTER : v_SIOOBE_FORMATTER.isRef = true) :
    MetFree l (⟨"java/lang/StringLatin1", "charAt", "([BI)C"⟩ : MethodName) (head1 (Jvm.Cond.code (⟨"java/lang/StringLatin1", "charAt", "([BI)C"⟩ : MethodName) jdk_43_method_2_code 2 (some .char) :: ws) ({ frames := 2, cells := 0, slots := 0, locals := 27 } : Room)) (fun a U => a = #[(.ref o0), (.int (0 : Int32))] ∧ Z.Warmed39 U.vm ∧ U.heap = h0) (fun _ _ _ _ _ => True) (fun _ U o U' => ∃ v L, o = .returned v ∧ Q32_20 Z o0 cb0 cb1 kv v_SIOOBE_FORMATTER h0 n0 v U'.heap L ∧ FrameEnd U o U' L ({ frames := 2, cells := 0, slots := 0, locals := 27 } : Room).cells ({ frames := 2, cells := 0, slots := 0, locals := 27 } : Room).slots) := by
  refine MetFree.of_bodySF (plainFor_of_name pn_java_lang_StringLatin1) hisR ?_
  intro p e s m args below meth c s₁ Bd hml0 hP hK
  obtain ⟨rfl, hZ, hh⟩ := hP
  have hx := Bd.exec
  have hby := Bd.bytes
  have hml : c.maxLocals = 2 := hml0
  have hown : s.vm.findClass "java/lang/StringLatin1" = some m.cls := findClass_of_methodNamed Bd.named
  have hnm := (name_of_methodNamed Bd.named Bd.method).1
  have X0 : Stand p l e ({ frames := 2, cells := 0, slots := 0, locals := 27 } : Room) s m #[(.ref o0), (.int (0 : Int32))] below meth c s₁ [] 0 0 := Stand.of_body Bd
  have e0 : s₁.heap = h0 := by rw [← hh, Bd.state]; rfl
  have N0 := Fr.nil n0
  show Go p e below (fun o U' => ∃ v L, o = .returned v ∧ Q32_20 Z o0 cb0 cb1 kv v_SIOOBE_FORMATTER h0 n0 v U'.heap L ∧ FrameEnd s o U' L ({ frames := 2, cells := 0, slots := 0, locals := 27 } : Room).cells ({ frames := 2, cells := 0, slots := 0, locals := 27 } : Room).slots) (s₁.setTop (entryFrame m #[(.ref o0), (.int (0 : Int32))] 2))
  refine Go.of (fun _ k => castTop (ef_32l2_0 m o0) k) ?_
  show Go p e below _ (s₁.setTop (mkF m 0 #[.val (.ref o0), .val (.int (0 : Int32))] []))
  refine Go.of (fun _ k => XS.iloadN X0.here hx rfl (hb hby d32_0) rfl  k) ?_
  show Go p e below _ (s₁.setTop (mkF m 1 #[.val (.ref o0), .val (.int (0 : Int32))] [(.int (0 : Int32))]))
  refine Go.of (fun _ k => XS.aloadN X0.here hx rfl (hb hby d32_1) rfl rfl k) ?_
  show Go p e below _ (s₁.setTop (mkF m 2 #[.val (.ref o0), .val (.int (0 : Int32))] [(.ref o0), (.int (0 : Int32))]))
  obtain ⟨clt1, Art1, qt1, st1, nt1, Ht1, Gt1⟩ := id V_o0
  refine Go.of (fun _ k => X0.arraylength hx (by rw [e0]; exact Art1.1) (State.isArrayOf_alike hZ.alike Art1.2.1) (g := (mkF m 2 #[.val (.ref o0), .val (.int (0 : Int32))] [(.ref o0), (.int (0 : Int32))])) rfl rfl (hb hby d32_2) _ k) ?_
  rw [len_of st1 nt1]
  show Go p e below _ (s₁.setTop (mkF m 3 #[.val (.ref o0), .val (.int (0 : Int32))] [(.int (2 : Int32)), (.int (0 : Int32))]))
  obtain ⟨_, _, ⟨T2, L2, k2, n2⟩, -, X2, ⟨Lc2, hQ2, l2, y2, z2⟩, st2⟩ := Jvm.LawKit.callS X0 hx (y := (⟨"java/lang/String", "checkIndex", "(II)V"⟩ : MethodName)) hown (mvT hZ (hw _ (List.mem_of_getElem? (i := 180) rfl))) (mvT hZ (hw _ (List.mem_of_getElem? (i := 181) rfl))) (mvT hZ (hw _ (List.mem_of_getElem? (i := 38) rfl))) (mvT hZ (hw _ (List.mem_of_getElem? (i := 182) rfl))) (by decide) (backOf (W := 0) (rm33 l Z a0 hw [] (0 : Int32) (2 : Int32) v_SIOOBE_FORMATTER h0 n0 Z0 S_SIOOBE_FORMATTER hr_v_SIOOBE_FORMATTER (by decide : ¬ ((0 : Int32) < (0 : Int32))) (by decide : (0 : Int32) < (2 : Int32))) hZ (hw _ (List.mem_of_getElem? (i := 182) rfl)) (hw _ (List.mem_of_getElem? (i := 38) rfl)) (by decide) (by decide)) (g := (mkF m 3 #[.val (.ref o0), .val (.int (0 : Int32))] [(.int (2 : Int32)), (.int (0 : Int32))])) rfl (by rw [hml]; rfl) (argsL := [(.int (0 : Int32)), (.int (2 : Int32))]) (rest := []) (lenOf pd_11 rfl) rfl (by show 2 * 0 + _ ≤ _; exact Nat.le_of_eq rfl) (hb hby d32_3) (fun _ _ => ⟨rfl, e0, (by decide : 0 + 0 ≤ _), (by decide : 0 + 0 ≤ _)⟩)
  dsimp only [Pt.U, Pt.locs, Pt.cells, Pt.slots] at X2 l2 y2 z2 st2 hQ2
  subst l2 y2 z2
  obtain ⟨rfl, Nq2, q2_0⟩ := hQ2
  have N2 := Fr.app N0 Nq2
  refine Go.of st2 ?_
  show Go p e below _ (T2.setTop (mkF m 6 #[.val (.ref o0), .val (.int (0 : Int32))] []))
  refine Go.of (fun _ k => XS.aloadN X2.here hx rfl (hb hby d32_6) rfl rfl k) ?_
  show Go p e below _ (T2.setTop (mkF m 7 #[.val (.ref o0), .val (.int (0 : Int32))] [(.ref o0)]))
  refine Go.of (fun _ k => XS.iloadN X2.here hx rfl (hb hby d32_7) rfl  k) ?_
  show Go p e below _ (T2.setTop (mkF m 8 #[.val (.ref o0), .val (.int (0 : Int32))] [(.int (0 : Int32)), (.ref o0)]))
  obtain ⟨clt3, Art3, qt3, st3, nt3, Ht3, Gt3⟩ := id V_o0
  have hint3 : ¬ ((0 : Int32) < 0 ∨ clt3.slots.size ≤ ((0 : Int32)).toNatClampNeg) := inb_of st3 ⟨by decide, by decide⟩
  refine Go.of (fun _ k => X2.baloadBytes hx (j := (0 : Int32)) (v := (.int cb0)) (by rw [q2_0]; exact Art3.1) (State.isArrayOf_alike hZ.alike Art3.2.1) Art3.2.2 hint3 (Ht3.at hint3 rfl) (g := (mkF m 8 #[.val (.ref o0), .val (.int (0 : Int32))] [(.int (0 : Int32)), (.ref o0)])) rfl rfl (hb hby d32_8) _ k) ?_
  show Go p e below _ (T2.setTop (mkF m 9 #[.val (.ref o0), .val (.int (0 : Int32))] [(.int cb0)]))
  refine Go.of (fun _ k => XS.sipush X2.here hx rfl (hb hby d32_9) k) ?_
  show Go p e below _ (T2.setTop (mkF m 12 #[.val (.ref o0), .val (.int (0 : Int32))] [(.int (255 : Int32)), (.int cb0)]))
  refine Go.of (fun _ k => XS.iand X2.here hx rfl (hb hby d32_12) rfl k) ?_
  show Go p e below _ (T2.setTop (mkF m 13 #[.val (.ref o0), .val (.int (0 : Int32))] [(.int (cb0 &&& (255 : Int32)))]))
  refine Go.of (fun _ k => XS.i2c X2.here hx rfl (hb hby d32_13) rfl k) ?_
  show Go p e below _ (T2.setTop (mkF m 14 #[.val (.ref o0), .val (.int (0 : Int32))] [(.int ((cb0 &&& (255 : Int32)).toUInt32.toUInt16.toUInt32.toInt32))]))
  obtain ⟨fs, hr, hrun, hended, hW, hsame⟩ := X2.leave (v := some (.int (nar .char ((cb0 &&& (255 : Int32)).toUInt32.toUInt16.toUInt32.toInt32)))) (fun h => by rw [Bd.returns] at h; cases h)
  refine Go.mk _ _ ?_ hrun hended ⟨_, _, rfl, ?_, ⟨_, rfl⟩, hW, hsame.mono (by decide) (by decide)⟩
  · exact retN X2 hx (t := .char) Bd.returns (by simp) (hb hby d32_14) hr
  · show Q32_20 Z o0 cb0 cb1 kv v_SIOOBE_FORMATTER h0 n0 _ T2.heap _
    rw [q2_0]
    exact ⟨rfl, N2, rfl⟩
def Q30_20 (Z : State) (o0 : Addr) (cb0 : Int32) (cb1 : Int32) (w_COMPACT_STRINGS : Int32) (f_o0_value : Addr) (kv : ClassId) (v_SIOOBE_FORMATTER : Value) (h0 : Heap) (n0 : Nat) (v : Option Value) (h : Heap) (L : List Loc) : Prop := v = some (.int (nar .char (nar .char ((cb0 &&& (255 : Int32)).toUInt32.toUInt16.toUInt32.toInt32)))) ∧ Fr n0 L ∧ h = h0
set_option maxRecDepth 65536 in
set_option maxHeartbeats 40000000 in
theorem rm30_20 (l : Launch) (Z : State) (a0 : Array Value) (hw : ∀ d ∈ tables_1, d.before a0 Z = true) (ws : List Jvm.Cond) (o0 : Addr) (cb0 : Int32) (cb1 : Int32) (w_COMPACT_STRINGS : Int32) (f_o0_value : Addr) (kv : ClassId) (v_SIOOBE_FORMATTER : Value) (h0 : Heap) (n0 : Nat) (Z0 : n0 ≤ h0.size) (S_COMPACT_STRINGS : Sta Z h0 "java/lang/String" "COMPACT_STRINGS" "Z" (.int w_COMPACT_STRINGS)) (hc3_1 : ¬ (w_COMPACT_STRINGS = (0 : Int32))) (F_o0_coder : Fld Z h0 o0 "java/lang/String" "coder" "B" (.int (0 : Int32))) (E_o0 : Exa Z h0 o0 "java/lang/String") (F_o0_value : Fld Z h0 o0 "java/lang/String" "value" "[B" (.ref f_o0_value)) (V_f_o0_value : Arv Z h0 f_o0_value kv .byte (2 : Int32) [(.int cb0), (.int cb1)] (.int (0 : Int32))) (S_SIOOBE_FORMATTER : Sta Z h0 "jdk/internal/util/Preconditions" "SIOOBE_FORMATTER" "Ljava/util/function/BiFunction;" v_SIOOBE_FORMATTER) (hr_v_SIOOBE_FORMATTER : v_SIOOBE_FORMATTER.isRef = true) :
    MetFree l (⟨"java/lang/String", "charAt", "(I)C"⟩ : MethodName) (head1 (Jvm.Cond.code (⟨"java/lang/String", "charAt", "(I)C"⟩ : MethodName) jdk_42_method_56_code 2 (some .char) :: ws) ({ frames := 3, cells := 0, slots := 0, locals := 40 } : Room)) (fun a U => a = #[(.ref o0), (.int (0 : Int32))] ∧ Z.Warmed39 U.vm ∧ U.heap = h0) (fun _ _ _ _ _ => True) (fun _ U o U' => ∃ v L, o = .returned v ∧ Q30_20 Z o0 cb0 cb1 w_COMPACT_STRINGS f_o0_value kv v_SIOOBE_FORMATTER h0 n0 v U'.heap L ∧ FrameEnd U o U' L ({ frames := 3, cells := 0, slots := 0, locals := 40 } : Room).cells ({ frames := 3, cells := 0, slots := 0, locals := 40 } : Room).slots) := by
  refine MetFree.of_bodySF (plainFor_of_name pn_java_lang_String) hisR ?_
  intro p e s m args below meth c s₁ Bd hml0 hP hK
  obtain ⟨rfl, hZ, hh⟩ := hP
  have hx := Bd.exec
  have hby := Bd.bytes
  have hml : c.maxLocals = 2 := hml0
  have hown : s.vm.findClass "java/lang/String" = some m.cls := findClass_of_methodNamed Bd.named
  have hnm := (name_of_methodNamed Bd.named Bd.method).1
  have X0 : Stand p l e ({ frames := 3, cells := 0, slots := 0, locals := 40 } : Room) s m #[(.ref o0), (.int (0 : Int32))] below meth c s₁ [] 0 0 := Stand.of_body Bd
  have e0 : s₁.heap = h0 := by rw [← hh, Bd.state]; rfl
  have N0 := Fr.nil n0
  show Go p e below (fun o U' => ∃ v L, o = .returned v ∧ Q30_20 Z o0 cb0 cb1 w_COMPACT_STRINGS f_o0_value kv v_SIOOBE_FORMATTER h0 n0 v U'.heap L ∧ FrameEnd s o U' L ({ frames := 3, cells := 0, slots := 0, locals := 40 } : Room).cells ({ frames := 3, cells := 0, slots := 0, locals := 40 } : Room).slots) (s₁.setTop (entryFrame m #[(.ref o0), (.int (0 : Int32))] 2))
  refine Go.of (fun _ k => castTop (ef_30l1_0 m o0) k) ?_
  show Go p e below _ (s₁.setTop (mkF m 0 #[.val (.ref o0), .val (.int (0 : Int32))] []))
  refine Go.of (fun _ k => XS.aloadN X0.here hx rfl (hb hby d30_0) rfl rfl k) ?_
  show Go p e below _ (s₁.setTop (mkF m 1 #[.val (.ref o0), .val (.int (0 : Int32))] [(.ref o0)]))
  obtain ⟨cq1, kq1, q1a, q1b, q1c⟩ := isOf hZ e0 E_o0
  obtain ⟨_, _, ⟨T1, L1, k1, n1⟩, -, X1, ⟨Lc1, hQ1, l1, y1, z1⟩, st1⟩ := X0.virtualBack hx (y := (⟨"java/lang/String", "isLatin1", "()Z"⟩ : MethodName)) (z := (⟨"java/lang/String", "isLatin1", "()Z"⟩ : MethodName)) hown (mvT hZ (hw _ (List.mem_of_getElem? (i := 171) rfl))) (mvT hZ (hw _ (List.mem_of_getElem? (i := 172) rfl))) (notFace_of_selects (args := #[]) (mvT hZ (hw _ (List.mem_of_getElem? (i := 174) rfl)))) (mvT hZ (hw _ (List.mem_of_getElem? (i := 174) rfl))) (mvT hZ (hw _ (List.mem_of_getElem? (i := 173) rfl))) (by decide) (backOf (W := 0) (rm31 l Z a0 hw [] o0 w_COMPACT_STRINGS h0 n0 Z0 S_COMPACT_STRINGS hc3_1 F_o0_coder) hZ (hw _ (List.mem_of_getElem? (i := 175) rfl)) (hw _ (List.mem_of_getElem? (i := 38) rfl)) (by decide) (by decide)) q1a q1c (g := (mkF m 1 #[.val (.ref o0), .val (.int (0 : Int32))] [(.ref o0)])) rfl (by rw [hml]; rfl) (Steps.refl _) (argsL := []) (rest := []) (lenOf pd_2 rfl) rfl (by show 2 * 0 + _ ≤ _; exact Nat.le_of_eq rfl) (hb hby d30_1) (fun _ _ => ⟨rfl, e0, (by decide : 0 + 0 ≤ _), (by decide : 0 + 0 ≤ _)⟩)
  dsimp only [Pt.U, Pt.locs, Pt.cells, Pt.slots] at X1 l1 y1 z1 st1 hQ1
  subst l1 y1 z1
  obtain ⟨rfl, Nq1, q1_0⟩ := hQ1
  have N1 := Fr.app N0 Nq1
  refine Go.tr st1 ?_
  show Go p e below _ (T1.setTop (mkF m 4 #[.val (.ref o0), .val (.int (0 : Int32))] [(.int (1 : Int32))]))
  refine Go.of (fun _ k => XS.ifNo X1.here hx rfl (hb hby d30_4) rfl ((if0 _ _).trans (feq (by decide : ¬ ((1 : Int32) = (0 : Int32)))).1) k) ?_
  show Go p e below _ (T1.setTop (mkF m 7 #[.val (.ref o0), .val (.int (0 : Int32))] []))
  refine Go.of (fun _ k => XS.aloadN X1.here hx rfl (hb hby d30_7) rfl rfl k) ?_
  show Go p e below _ (T1.setTop (mkF m 8 #[.val (.ref o0), .val (.int (0 : Int32))] [(.ref o0)]))
  obtain ⟨T2, X2, e2, st2⟩ := getF X1 hx hZ hown (host := "") (Or.inl (hw _ (List.mem_of_getElem? (i := 94) rfl))) Via.refl q1_0 F_o0_value (g := (mkF m 8 #[.val (.ref o0), .val (.int (0 : Int32))] [(.ref o0)])) rfl rfl (hb hby d30_8)
  refine Go.of st2 ?_
  show Go p e below _ (T2.setTop (mkF m 11 #[.val (.ref o0), .val (.int (0 : Int32))] [(.ref f_o0_value)]))
  refine Go.of (fun _ k => XS.iloadN X2.here hx rfl (hb hby d30_11) rfl  k) ?_
  show Go p e below _ (T2.setTop (mkF m 12 #[.val (.ref o0), .val (.int (0 : Int32))] [(.int (0 : Int32)), (.ref f_o0_value)]))
  obtain ⟨_, _, ⟨T3, L3, k3, n3⟩, -, X3, ⟨Lc3, hQ3, l3, y3, z3⟩, st3⟩ := Jvm.LawKit.callS X2 hx (y := (⟨"java/lang/StringLatin1", "charAt", "([BI)C"⟩ : MethodName)) hown (mvT hZ (hw _ (List.mem_of_getElem? (i := 176) rfl))) (mvT hZ (hw _ (List.mem_of_getElem? (i := 177) rfl))) (mvT hZ (hw _ (List.mem_of_getElem? (i := 178) rfl))) (mvT hZ (hw _ (List.mem_of_getElem? (i := 179) rfl))) (by decide) (backOf (W := 0) (rm32_20 l Z a0 hw [] f_o0_value cb0 cb1 kv v_SIOOBE_FORMATTER h0 n0 Z0 V_f_o0_value S_SIOOBE_FORMATTER hr_v_SIOOBE_FORMATTER) hZ (hw _ (List.mem_of_getElem? (i := 179) rfl)) (hw _ (List.mem_of_getElem? (i := 178) rfl)) (by decide) (by decide)) (g := (mkF m 12 #[.val (.ref o0), .val (.int (0 : Int32))] [(.int (0 : Int32)), (.ref f_o0_value)])) rfl (by rw [hml]; rfl) (argsL := [(.ref f_o0_value), (.int (0 : Int32))]) (rest := []) (lenOf pd_19 rfl) rfl (by show 2 * 0 + _ ≤ _; exact Nat.le_of_eq rfl) (hb hby d30_12) (fun _ _ => ⟨rfl, e2, (by decide : 0 + 0 ≤ _), (by decide : 0 + 0 ≤ _)⟩)
  dsimp only [Pt.U, Pt.locs, Pt.cells, Pt.slots] at X3 l3 y3 z3 st3 hQ3
  subst l3 y3 z3
  obtain ⟨rfl, Nq3, q3_0⟩ := hQ3
  have N3 := Fr.app N1 Nq3
  refine Go.of st3 ?_
  show Go p e below _ (T3.setTop (mkF m 15 #[.val (.ref o0), .val (.int (0 : Int32))] [(.int (nar .char ((cb0 &&& (255 : Int32)).toUInt32.toUInt16.toUInt32.toInt32)))]))
  obtain ⟨fs, hr, hrun, hended, hW, hsame⟩ := X3.leave (v := some (.int (nar .char (nar .char ((cb0 &&& (255 : Int32)).toUInt32.toUInt16.toUInt32.toInt32))))) (fun h => by rw [Bd.returns] at h; cases h)
  refine Go.mk _ _ ?_ hrun hended ⟨_, _, rfl, ?_, ⟨_, rfl⟩, hW, hsame.mono (by decide) (by decide)⟩
  · exact retN X3 hx (t := .char) Bd.returns (by simp) (hb hby d30_15) hr
  · show Q30_20 Z o0 cb0 cb1 w_COMPACT_STRINGS f_o0_value kv v_SIOOBE_FORMATTER h0 n0 _ T3.heap _
    rw [q3_0]
    exact ⟨rfl, N3, rfl⟩
theorem ef_32l2_1 (m : MethodId) (x0 : Addr) : entryFrame m #[(.ref x0), (.int (1 : Int32))] 2 = mkF m 0 #[.val (.ref x0), .val (.int (1 : Int32))] [] := by first | (simp [entryFrame, mkF, argsToLocals, Value.category]; done) | rfl
def Q32_21 (Z : State) (o0 : Addr) (cb0 : Int32) (cb1 : Int32) (kv : ClassId) (v_SIOOBE_FORMATTER : Value) (h0 : Heap) (n0 : Nat) (v : Option Value) (h : Heap) (L : List Loc) : Prop := v = some (.int (nar .char ((cb1 &&& (255 : Int32)).toUInt32.toUInt16.toUInt32.toInt32))) ∧ Fr n0 L ∧ h = h0
set_option maxRecDepth 65536 in
set_option maxHeartbeats 40000000 in
theorem rm32_21 (l : Launch) (Z : State) (a0 : Array Value) (hw : ∀ d ∈ tables_1, d.before a0 Z = true) (ws : List Jvm.Cond) (o0 : Addr) (cb0 : Int32) (cb1 : Int32) (kv : ClassId) (v_SIOOBE_FORMATTER : Value) (h0 : Heap) (n0 : Nat) (Z0 : n0 ≤ h0.size) (V_o0 : Arv Z h0 o0 kv .byte (2 : Int32) [(.int cb0), (.int cb1)] (.int (0 : Int32))) (S_SIOOBE_FORMATTER : Sta Z h0 "jdk/internal/util/Preconditions" "SIOOBE_FORMATTER" "Ljava/util/function/BiFunction;" v_SIOOBE_FORMATTER) (hr_v_SIOOBE_FORMATTER : v_SIOOBE_FORMATTER.isRef = true) :
    MetFree l (⟨"java/lang/StringLatin1", "charAt", "([BI)C"⟩ : MethodName) (head1 (Jvm.Cond.code (⟨"java/lang/StringLatin1", "charAt", "([BI)C"⟩ : MethodName) jdk_43_method_2_code 2 (some .char) :: ws) ({ frames := 2, cells := 0, slots := 0, locals := 27 } : Room)) (fun a U => a = #[(.ref o0), (.int (1 : Int32))] ∧ Z.Warmed39 U.vm ∧ U.heap = h0) (fun _ _ _ _ _ => True) (fun _ U o U' => ∃ v L, o = .returned v ∧ Q32_21 Z o0 cb0 cb1 kv v_SIOOBE_FORMATTER h0 n0 v U'.heap L ∧ FrameEnd U o U' L ({ frames := 2, cells := 0, slots := 0, locals := 27 } : Room).cells ({ frames := 2, cells := 0, slots := 0, locals := 27 } : Room).slots) := by
  refine MetFree.of_bodySF (plainFor_of_name pn_java_lang_StringLatin1) hisR ?_
  intro p e s m args below meth c s₁ Bd hml0 hP hK
  obtain ⟨rfl, hZ, hh⟩ := hP
  have hx := Bd.exec
  have hby := Bd.bytes
  have hml : c.maxLocals = 2 := hml0
  have hown : s.vm.findClass "java/lang/StringLatin1" = some m.cls := findClass_of_methodNamed Bd.named
  have hnm := (name_of_methodNamed Bd.named Bd.method).1
  have X0 : Stand p l e ({ frames := 2, cells := 0, slots := 0, locals := 27 } : Room) s m #[(.ref o0), (.int (1 : Int32))] below meth c s₁ [] 0 0 := Stand.of_body Bd
  have e0 : s₁.heap = h0 := by rw [← hh, Bd.state]; rfl
  have N0 := Fr.nil n0
  show Go p e below (fun o U' => ∃ v L, o = .returned v ∧ Q32_21 Z o0 cb0 cb1 kv v_SIOOBE_FORMATTER h0 n0 v U'.heap L ∧ FrameEnd s o U' L ({ frames := 2, cells := 0, slots := 0, locals := 27 } : Room).cells ({ frames := 2, cells := 0, slots := 0, locals := 27 } : Room).slots) (s₁.setTop (entryFrame m #[(.ref o0), (.int (1 : Int32))] 2))
  refine Go.of (fun _ k => castTop (ef_32l2_1 m o0) k) ?_
  show Go p e below _ (s₁.setTop (mkF m 0 #[.val (.ref o0), .val (.int (1 : Int32))] []))
  refine Go.of (fun _ k => XS.iloadN X0.here hx rfl (hb hby d32_0) rfl  k) ?_
  show Go p e below _ (s₁.setTop (mkF m 1 #[.val (.ref o0), .val (.int (1 : Int32))] [(.int (1 : Int32))]))
  refine Go.of (fun _ k => XS.aloadN X0.here hx rfl (hb hby d32_1) rfl rfl k) ?_
  show Go p e below _ (s₁.setTop (mkF m 2 #[.val (.ref o0), .val (.int (1 : Int32))] [(.ref o0), (.int (1 : Int32))]))
  obtain ⟨clt1, Art1, qt1, st1, nt1, Ht1, Gt1⟩ := id V_o0
  refine Go.of (fun _ k => X0.arraylength hx (by rw [e0]; exact Art1.1) (State.isArrayOf_alike hZ.alike Art1.2.1) (g := (mkF m 2 #[.val (.ref o0), .val (.int (1 : Int32))] [(.ref o0), (.int (1 : Int32))])) rfl rfl (hb hby d32_2) _ k) ?_
  rw [len_of st1 nt1]
  show Go p e below _ (s₁.setTop (mkF m 3 #[.val (.ref o0), .val (.int (1 : Int32))] [(.int (2 : Int32)), (.int (1 : Int32))]))
  obtain ⟨_, _, ⟨T2, L2, k2, n2⟩, -, X2, ⟨Lc2, hQ2, l2, y2, z2⟩, st2⟩ := Jvm.LawKit.callS X0 hx (y := (⟨"java/lang/String", "checkIndex", "(II)V"⟩ : MethodName)) hown (mvT hZ (hw _ (List.mem_of_getElem? (i := 180) rfl))) (mvT hZ (hw _ (List.mem_of_getElem? (i := 181) rfl))) (mvT hZ (hw _ (List.mem_of_getElem? (i := 38) rfl))) (mvT hZ (hw _ (List.mem_of_getElem? (i := 182) rfl))) (by decide) (backOf (W := 0) (rm33 l Z a0 hw [] (1 : Int32) (2 : Int32) v_SIOOBE_FORMATTER h0 n0 Z0 S_SIOOBE_FORMATTER hr_v_SIOOBE_FORMATTER (by decide : ¬ ((1 : Int32) < (0 : Int32))) (by decide : (1 : Int32) < (2 : Int32))) hZ (hw _ (List.mem_of_getElem? (i := 182) rfl)) (hw _ (List.mem_of_getElem? (i := 38) rfl)) (by decide) (by decide)) (g := (mkF m 3 #[.val (.ref o0), .val (.int (1 : Int32))] [(.int (2 : Int32)), (.int (1 : Int32))])) rfl (by rw [hml]; rfl) (argsL := [(.int (1 : Int32)), (.int (2 : Int32))]) (rest := []) (lenOf pd_11 rfl) rfl (by show 2 * 0 + _ ≤ _; exact Nat.le_of_eq rfl) (hb hby d32_3) (fun _ _ => ⟨rfl, e0, (by decide : 0 + 0 ≤ _), (by decide : 0 + 0 ≤ _)⟩)
  dsimp only [Pt.U, Pt.locs, Pt.cells, Pt.slots] at X2 l2 y2 z2 st2 hQ2
  subst l2 y2 z2
  obtain ⟨rfl, Nq2, q2_0⟩ := hQ2
  have N2 := Fr.app N0 Nq2
  refine Go.of st2 ?_
  show Go p e below _ (T2.setTop (mkF m 6 #[.val (.ref o0), .val (.int (1 : Int32))] []))
  refine Go.of (fun _ k => XS.aloadN X2.here hx rfl (hb hby d32_6) rfl rfl k) ?_
  show Go p e below _ (T2.setTop (mkF m 7 #[.val (.ref o0), .val (.int (1 : Int32))] [(.ref o0)]))
  refine Go.of (fun _ k => XS.iloadN X2.here hx rfl (hb hby d32_7) rfl  k) ?_
  show Go p e below _ (T2.setTop (mkF m 8 #[.val (.ref o0), .val (.int (1 : Int32))] [(.int (1 : Int32)), (.ref o0)]))
  obtain ⟨clt3, Art3, qt3, st3, nt3, Ht3, Gt3⟩ := id V_o0
  have hint3 : ¬ ((1 : Int32) < 0 ∨ clt3.slots.size ≤ ((1 : Int32)).toNatClampNeg) := inb_of st3 ⟨by decide, by decide⟩
  refine Go.of (fun _ k => X2.baloadBytes hx (j := (1 : Int32)) (v := (.int cb1)) (by rw [q2_0]; exact Art3.1) (State.isArrayOf_alike hZ.alike Art3.2.1) Art3.2.2 hint3 (Ht3.at hint3 rfl) (g := (mkF m 8 #[.val (.ref o0), .val (.int (1 : Int32))] [(.int (1 : Int32)), (.ref o0)])) rfl rfl (hb hby d32_8) _ k) ?_
  show Go p e below _ (T2.setTop (mkF m 9 #[.val (.ref o0), .val (.int (1 : Int32))] [(.int cb1)]))
  refine Go.of (fun _ k => XS.sipush X2.here hx rfl (hb hby d32_9) k) ?_
  show Go p e below _ (T2.setTop (mkF m 12 #[.val (.ref o0), .val (.int (1 : Int32))] [(.int (255 : Int32)), (.int cb1)]))
  refine Go.of (fun _ k => XS.iand X2.here hx rfl (hb hby d32_12) rfl k) ?_
  show Go p e below _ (T2.setTop (mkF m 13 #[.val (.ref o0), .val (.int (1 : Int32))] [(.int (cb1 &&& (255 : Int32)))]))
  refine Go.of (fun _ k => XS.i2c X2.here hx rfl (hb hby d32_13) rfl k) ?_
  show Go p e below _ (T2.setTop (mkF m 14 #[.val (.ref o0), .val (.int (1 : Int32))] [(.int ((cb1 &&& (255 : Int32)).toUInt32.toUInt16.toUInt32.toInt32))]))
  obtain ⟨fs, hr, hrun, hended, hW, hsame⟩ := X2.leave (v := some (.int (nar .char ((cb1 &&& (255 : Int32)).toUInt32.toUInt16.toUInt32.toInt32)))) (fun h => by rw [Bd.returns] at h; cases h)
  refine Go.mk _ _ ?_ hrun hended ⟨_, _, rfl, ?_, ⟨_, rfl⟩, hW, hsame.mono (by decide) (by decide)⟩
  · exact retN X2 hx (t := .char) Bd.returns (by simp) (hb hby d32_14) hr
  · show Q32_21 Z o0 cb0 cb1 kv v_SIOOBE_FORMATTER h0 n0 _ T2.heap _
    rw [q2_0]
    exact ⟨rfl, N2, rfl⟩
theorem ef_30l1_1 (m : MethodId) (x0 : Addr) : entryFrame m #[(.ref x0), (.int (1 : Int32))] 2 = mkF m 0 #[.val (.ref x0), .val (.int (1 : Int32))] [] := by first | (simp [entryFrame, mkF, argsToLocals, Value.category]; done) | rfl
def Q30_21 (Z : State) (o0 : Addr) (cb0 : Int32) (cb1 : Int32) (w_COMPACT_STRINGS : Int32) (f_o0_value : Addr) (kv : ClassId) (v_SIOOBE_FORMATTER : Value) (h0 : Heap) (n0 : Nat) (v : Option Value) (h : Heap) (L : List Loc) : Prop := v = some (.int (nar .char (nar .char ((cb1 &&& (255 : Int32)).toUInt32.toUInt16.toUInt32.toInt32)))) ∧ Fr n0 L ∧ h = h0
set_option maxRecDepth 65536 in
set_option maxHeartbeats 40000000 in
theorem rm30_21 (l : Launch) (Z : State) (a0 : Array Value) (hw : ∀ d ∈ tables_1, d.before a0 Z = true) (ws : List Jvm.Cond) (o0 : Addr) (cb0 : Int32) (cb1 : Int32) (w_COMPACT_STRINGS : Int32) (f_o0_value : Addr) (kv : ClassId) (v_SIOOBE_FORMATTER : Value) (h0 : Heap) (n0 : Nat) (Z0 : n0 ≤ h0.size) (S_COMPACT_STRINGS : Sta Z h0 "java/lang/String" "COMPACT_STRINGS" "Z" (.int w_COMPACT_STRINGS)) (hc3_1 : ¬ (w_COMPACT_STRINGS = (0 : Int32))) (F_o0_coder : Fld Z h0 o0 "java/lang/String" "coder" "B" (.int (0 : Int32))) (E_o0 : Exa Z h0 o0 "java/lang/String") (F_o0_value : Fld Z h0 o0 "java/lang/String" "value" "[B" (.ref f_o0_value)) (V_f_o0_value : Arv Z h0 f_o0_value kv .byte (2 : Int32) [(.int cb0), (.int cb1)] (.int (0 : Int32))) (S_SIOOBE_FORMATTER : Sta Z h0 "jdk/internal/util/Preconditions" "SIOOBE_FORMATTER" "Ljava/util/function/BiFunction;" v_SIOOBE_FORMATTER) (hr_v_SIOOBE_FORMATTER : v_SIOOBE_FORMATTER.isRef = true) :
    MetFree l (⟨"java/lang/String", "charAt", "(I)C"⟩ : MethodName) (head1 (Jvm.Cond.code (⟨"java/lang/String", "charAt", "(I)C"⟩ : MethodName) jdk_42_method_56_code 2 (some .char) :: ws) ({ frames := 3, cells := 0, slots := 0, locals := 40 } : Room)) (fun a U => a = #[(.ref o0), (.int (1 : Int32))] ∧ Z.Warmed39 U.vm ∧ U.heap = h0) (fun _ _ _ _ _ => True) (fun _ U o U' => ∃ v L, o = .returned v ∧ Q30_21 Z o0 cb0 cb1 w_COMPACT_STRINGS f_o0_value kv v_SIOOBE_FORMATTER h0 n0 v U'.heap L ∧ FrameEnd U o U' L ({ frames := 3, cells := 0, slots := 0, locals := 40 } : Room).cells ({ frames := 3, cells := 0, slots := 0, locals := 40 } : Room).slots) := by
  refine MetFree.of_bodySF (plainFor_of_name pn_java_lang_String) hisR ?_
  intro p e s m args below meth c s₁ Bd hml0 hP hK
  obtain ⟨rfl, hZ, hh⟩ := hP
  have hx := Bd.exec
  have hby := Bd.bytes
  have hml : c.maxLocals = 2 := hml0
  have hown : s.vm.findClass "java/lang/String" = some m.cls := findClass_of_methodNamed Bd.named
  have hnm := (name_of_methodNamed Bd.named Bd.method).1
  have X0 : Stand p l e ({ frames := 3, cells := 0, slots := 0, locals := 40 } : Room) s m #[(.ref o0), (.int (1 : Int32))] below meth c s₁ [] 0 0 := Stand.of_body Bd
  have e0 : s₁.heap = h0 := by rw [← hh, Bd.state]; rfl
  have N0 := Fr.nil n0
  show Go p e below (fun o U' => ∃ v L, o = .returned v ∧ Q30_21 Z o0 cb0 cb1 w_COMPACT_STRINGS f_o0_value kv v_SIOOBE_FORMATTER h0 n0 v U'.heap L ∧ FrameEnd s o U' L ({ frames := 3, cells := 0, slots := 0, locals := 40 } : Room).cells ({ frames := 3, cells := 0, slots := 0, locals := 40 } : Room).slots) (s₁.setTop (entryFrame m #[(.ref o0), (.int (1 : Int32))] 2))
  refine Go.of (fun _ k => castTop (ef_30l1_1 m o0) k) ?_
  show Go p e below _ (s₁.setTop (mkF m 0 #[.val (.ref o0), .val (.int (1 : Int32))] []))
  refine Go.of (fun _ k => XS.aloadN X0.here hx rfl (hb hby d30_0) rfl rfl k) ?_
  show Go p e below _ (s₁.setTop (mkF m 1 #[.val (.ref o0), .val (.int (1 : Int32))] [(.ref o0)]))
  obtain ⟨cq1, kq1, q1a, q1b, q1c⟩ := isOf hZ e0 E_o0
  obtain ⟨_, _, ⟨T1, L1, k1, n1⟩, -, X1, ⟨Lc1, hQ1, l1, y1, z1⟩, st1⟩ := X0.virtualBack hx (y := (⟨"java/lang/String", "isLatin1", "()Z"⟩ : MethodName)) (z := (⟨"java/lang/String", "isLatin1", "()Z"⟩ : MethodName)) hown (mvT hZ (hw _ (List.mem_of_getElem? (i := 171) rfl))) (mvT hZ (hw _ (List.mem_of_getElem? (i := 172) rfl))) (notFace_of_selects (args := #[]) (mvT hZ (hw _ (List.mem_of_getElem? (i := 174) rfl)))) (mvT hZ (hw _ (List.mem_of_getElem? (i := 174) rfl))) (mvT hZ (hw _ (List.mem_of_getElem? (i := 173) rfl))) (by decide) (backOf (W := 0) (rm31 l Z a0 hw [] o0 w_COMPACT_STRINGS h0 n0 Z0 S_COMPACT_STRINGS hc3_1 F_o0_coder) hZ (hw _ (List.mem_of_getElem? (i := 175) rfl)) (hw _ (List.mem_of_getElem? (i := 38) rfl)) (by decide) (by decide)) q1a q1c (g := (mkF m 1 #[.val (.ref o0), .val (.int (1 : Int32))] [(.ref o0)])) rfl (by rw [hml]; rfl) (Steps.refl _) (argsL := []) (rest := []) (lenOf pd_2 rfl) rfl (by show 2 * 0 + _ ≤ _; exact Nat.le_of_eq rfl) (hb hby d30_1) (fun _ _ => ⟨rfl, e0, (by decide : 0 + 0 ≤ _), (by decide : 0 + 0 ≤ _)⟩)
  dsimp only [Pt.U, Pt.locs, Pt.cells, Pt.slots] at X1 l1 y1 z1 st1 hQ1
  subst l1 y1 z1
  obtain ⟨rfl, Nq1, q1_0⟩ := hQ1
  have N1 := Fr.app N0 Nq1
  refine Go.tr st1 ?_
  show Go p e below _ (T1.setTop (mkF m 4 #[.val (.ref o0), .val (.int (1 : Int32))] [(.int (1 : Int32))]))
  refine Go.of (fun _ k => XS.ifNo X1.here hx rfl (hb hby d30_4) rfl ((if0 _ _).trans (feq (by decide : ¬ ((1 : Int32) = (0 : Int32)))).1) k) ?_
  show Go p e below _ (T1.setTop (mkF m 7 #[.val (.ref o0), .val (.int (1 : Int32))] []))
  refine Go.of (fun _ k => XS.aloadN X1.here hx rfl (hb hby d30_7) rfl rfl k) ?_
  show Go p e below _ (T1.setTop (mkF m 8 #[.val (.ref o0), .val (.int (1 : Int32))] [(.ref o0)]))
  obtain ⟨T2, X2, e2, st2⟩ := getF X1 hx hZ hown (host := "") (Or.inl (hw _ (List.mem_of_getElem? (i := 94) rfl))) Via.refl q1_0 F_o0_value (g := (mkF m 8 #[.val (.ref o0), .val (.int (1 : Int32))] [(.ref o0)])) rfl rfl (hb hby d30_8)
  refine Go.of st2 ?_
  show Go p e below _ (T2.setTop (mkF m 11 #[.val (.ref o0), .val (.int (1 : Int32))] [(.ref f_o0_value)]))
  refine Go.of (fun _ k => XS.iloadN X2.here hx rfl (hb hby d30_11) rfl  k) ?_
  show Go p e below _ (T2.setTop (mkF m 12 #[.val (.ref o0), .val (.int (1 : Int32))] [(.int (1 : Int32)), (.ref f_o0_value)]))
  obtain ⟨_, _, ⟨T3, L3, k3, n3⟩, -, X3, ⟨Lc3, hQ3, l3, y3, z3⟩, st3⟩ := Jvm.LawKit.callS X2 hx (y := (⟨"java/lang/StringLatin1", "charAt", "([BI)C"⟩ : MethodName)) hown (mvT hZ (hw _ (List.mem_of_getElem? (i := 176) rfl))) (mvT hZ (hw _ (List.mem_of_getElem? (i := 177) rfl))) (mvT hZ (hw _ (List.mem_of_getElem? (i := 178) rfl))) (mvT hZ (hw _ (List.mem_of_getElem? (i := 179) rfl))) (by decide) (backOf (W := 0) (rm32_21 l Z a0 hw [] f_o0_value cb0 cb1 kv v_SIOOBE_FORMATTER h0 n0 Z0 V_f_o0_value S_SIOOBE_FORMATTER hr_v_SIOOBE_FORMATTER) hZ (hw _ (List.mem_of_getElem? (i := 179) rfl)) (hw _ (List.mem_of_getElem? (i := 178) rfl)) (by decide) (by decide)) (g := (mkF m 12 #[.val (.ref o0), .val (.int (1 : Int32))] [(.int (1 : Int32)), (.ref f_o0_value)])) rfl (by rw [hml]; rfl) (argsL := [(.ref f_o0_value), (.int (1 : Int32))]) (rest := []) (lenOf pd_19 rfl) rfl (by show 2 * 0 + _ ≤ _; exact Nat.le_of_eq rfl) (hb hby d30_12) (fun _ _ => ⟨rfl, e2, (by decide : 0 + 0 ≤ _), (by decide : 0 + 0 ≤ _)⟩)
  dsimp only [Pt.U, Pt.locs, Pt.cells, Pt.slots] at X3 l3 y3 z3 st3 hQ3
  subst l3 y3 z3
  obtain ⟨rfl, Nq3, q3_0⟩ := hQ3
  have N3 := Fr.app N1 Nq3
  refine Go.of st3 ?_
  show Go p e below _ (T3.setTop (mkF m 15 #[.val (.ref o0), .val (.int (1 : Int32))] [(.int (nar .char ((cb1 &&& (255 : Int32)).toUInt32.toUInt16.toUInt32.toInt32)))]))
  obtain ⟨fs, hr, hrun, hended, hW, hsame⟩ := X3.leave (v := some (.int (nar .char (nar .char ((cb1 &&& (255 : Int32)).toUInt32.toUInt16.toUInt32.toInt32))))) (fun h => by rw [Bd.returns] at h; cases h)
  refine Go.mk _ _ ?_ hrun hended ⟨_, _, rfl, ?_, ⟨_, rfl⟩, hW, hsame.mono (by decide) (by decide)⟩
  · exact retN X3 hx (t := .char) Bd.returns (by simp) (hb hby d30_15) hr
  · show Q30_21 Z o0 cb0 cb1 w_COMPACT_STRINGS f_o0_value kv v_SIOOBE_FORMATTER h0 n0 _ T3.heap _
    rw [q3_0]
    exact ⟨rfl, N3, rfl⟩
def Q32_30 (Z : State) (o0 : Addr) (cb0 : Int32) (cb1 : Int32) (cb2 : Int32) (kv : ClassId) (v_SIOOBE_FORMATTER : Value) (h0 : Heap) (n0 : Nat) (v : Option Value) (h : Heap) (L : List Loc) : Prop := v = some (.int (nar .char ((cb0 &&& (255 : Int32)).toUInt32.toUInt16.toUInt32.toInt32))) ∧ Fr n0 L ∧ h = h0
set_option maxRecDepth 65536 in
set_option maxHeartbeats 40000000 in
theorem rm32_30 (l : Launch) (Z : State) (a0 : Array Value) (hw : ∀ d ∈ tables_1, d.before a0 Z = true) (ws : List Jvm.Cond) (o0 : Addr) (cb0 : Int32) (cb1 : Int32) (cb2 : Int32) (kv : ClassId) (v_SIOOBE_FORMATTER : Value) (h0 : Heap) (n0 : Nat) (Z0 : n0 ≤ h0.size) (V_o0 : Arv Z h0 o0 kv .byte (3 : Int32) [(.int cb0), (.int cb1), (.int cb2)] (.int (0 : Int32))) (S_SIOOBE_FORMATTER : Sta Z h0 "jdk/internal/util/Preconditions" "SIOOBE_FORMATTER" "Ljava/util/function/BiFunction;" v_SIOOBE_FORMATTER) (hr_v_SIOOBE_FORMATTER : v_SIOOBE_FORMATTER.isRef = true) :
    MetFree l (⟨"java/lang/StringLatin1", "charAt", "([BI)C"⟩ : MethodName) (head1 (Jvm.Cond.code (⟨"java/lang/StringLatin1", "charAt", "([BI)C"⟩ : MethodName) jdk_43_method_2_code 2 (some .char) :: ws) ({ frames := 2, cells := 0, slots := 0, locals := 27 } : Room)) (fun a U => a = #[(.ref o0), (.int (0 : Int32))] ∧ Z.Warmed39 U.vm ∧ U.heap = h0) (fun _ _ _ _ _ => True) (fun _ U o U' => ∃ v L, o = .returned v ∧ Q32_30 Z o0 cb0 cb1 cb2 kv v_SIOOBE_FORMATTER h0 n0 v U'.heap L ∧ FrameEnd U o U' L ({ frames := 2, cells := 0, slots := 0, locals := 27 } : Room).cells ({ frames := 2, cells := 0, slots := 0, locals := 27 } : Room).slots) := by
  refine MetFree.of_bodySF (plainFor_of_name pn_java_lang_StringLatin1) hisR ?_
  intro p e s m args below meth c s₁ Bd hml0 hP hK
  obtain ⟨rfl, hZ, hh⟩ := hP
  have hx := Bd.exec
  have hby := Bd.bytes
  have hml : c.maxLocals = 2 := hml0
  have hown : s.vm.findClass "java/lang/StringLatin1" = some m.cls := findClass_of_methodNamed Bd.named
  have hnm := (name_of_methodNamed Bd.named Bd.method).1
  have X0 : Stand p l e ({ frames := 2, cells := 0, slots := 0, locals := 27 } : Room) s m #[(.ref o0), (.int (0 : Int32))] below meth c s₁ [] 0 0 := Stand.of_body Bd
  have e0 : s₁.heap = h0 := by rw [← hh, Bd.state]; rfl
  have N0 := Fr.nil n0
  show Go p e below (fun o U' => ∃ v L, o = .returned v ∧ Q32_30 Z o0 cb0 cb1 cb2 kv v_SIOOBE_FORMATTER h0 n0 v U'.heap L ∧ FrameEnd s o U' L ({ frames := 2, cells := 0, slots := 0, locals := 27 } : Room).cells ({ frames := 2, cells := 0, slots := 0, locals := 27 } : Room).slots) (s₁.setTop (entryFrame m #[(.ref o0), (.int (0 : Int32))] 2))
  refine Go.of (fun _ k => castTop (ef_32l2_0 m o0) k) ?_
  show Go p e below _ (s₁.setTop (mkF m 0 #[.val (.ref o0), .val (.int (0 : Int32))] []))
  refine Go.of (fun _ k => XS.iloadN X0.here hx rfl (hb hby d32_0) rfl  k) ?_
  show Go p e below _ (s₁.setTop (mkF m 1 #[.val (.ref o0), .val (.int (0 : Int32))] [(.int (0 : Int32))]))
  refine Go.of (fun _ k => XS.aloadN X0.here hx rfl (hb hby d32_1) rfl rfl k) ?_
  show Go p e below _ (s₁.setTop (mkF m 2 #[.val (.ref o0), .val (.int (0 : Int32))] [(.ref o0), (.int (0 : Int32))]))
  obtain ⟨clt1, Art1, qt1, st1, nt1, Ht1, Gt1⟩ := id V_o0
  refine Go.of (fun _ k => X0.arraylength hx (by rw [e0]; exact Art1.1) (State.isArrayOf_alike hZ.alike Art1.2.1) (g := (mkF m 2 #[.val (.ref o0), .val (.int (0 : Int32))] [(.ref o0), (.int (0 : Int32))])) rfl rfl (hb hby d32_2) _ k) ?_
  rw [len_of st1 nt1]
  show Go p e below _ (s₁.setTop (mkF m 3 #[.val (.ref o0), .val (.int (0 : Int32))] [(.int (3 : Int32)), (.int (0 : Int32))]))
  obtain ⟨_, _, ⟨T2, L2, k2, n2⟩, -, X2, ⟨Lc2, hQ2, l2, y2, z2⟩, st2⟩ := Jvm.LawKit.callS X0 hx (y := (⟨"java/lang/String", "checkIndex", "(II)V"⟩ : MethodName)) hown (mvT hZ (hw _ (List.mem_of_getElem? (i := 180) rfl))) (mvT hZ (hw _ (List.mem_of_getElem? (i := 181) rfl))) (mvT hZ (hw _ (List.mem_of_getElem? (i := 38) rfl))) (mvT hZ (hw _ (List.mem_of_getElem? (i := 182) rfl))) (by decide) (backOf (W := 0) (rm33 l Z a0 hw [] (0 : Int32) (3 : Int32) v_SIOOBE_FORMATTER h0 n0 Z0 S_SIOOBE_FORMATTER hr_v_SIOOBE_FORMATTER (by decide : ¬ ((0 : Int32) < (0 : Int32))) (by decide : (0 : Int32) < (3 : Int32))) hZ (hw _ (List.mem_of_getElem? (i := 182) rfl)) (hw _ (List.mem_of_getElem? (i := 38) rfl)) (by decide) (by decide)) (g := (mkF m 3 #[.val (.ref o0), .val (.int (0 : Int32))] [(.int (3 : Int32)), (.int (0 : Int32))])) rfl (by rw [hml]; rfl) (argsL := [(.int (0 : Int32)), (.int (3 : Int32))]) (rest := []) (lenOf pd_11 rfl) rfl (by show 2 * 0 + _ ≤ _; exact Nat.le_of_eq rfl) (hb hby d32_3) (fun _ _ => ⟨rfl, e0, (by decide : 0 + 0 ≤ _), (by decide : 0 + 0 ≤ _)⟩)
  dsimp only [Pt.U, Pt.locs, Pt.cells, Pt.slots] at X2 l2 y2 z2 st2 hQ2
  subst l2 y2 z2
  obtain ⟨rfl, Nq2, q2_0⟩ := hQ2
  have N2 := Fr.app N0 Nq2
  refine Go.of st2 ?_
  show Go p e below _ (T2.setTop (mkF m 6 #[.val (.ref o0), .val (.int (0 : Int32))] []))
  refine Go.of (fun _ k => XS.aloadN X2.here hx rfl (hb hby d32_6) rfl rfl k) ?_
  show Go p e below _ (T2.setTop (mkF m 7 #[.val (.ref o0), .val (.int (0 : Int32))] [(.ref o0)]))
  refine Go.of (fun _ k => XS.iloadN X2.here hx rfl (hb hby d32_7) rfl  k) ?_
  show Go p e below _ (T2.setTop (mkF m 8 #[.val (.ref o0), .val (.int (0 : Int32))] [(.int (0 : Int32)), (.ref o0)]))
  obtain ⟨clt3, Art3, qt3, st3, nt3, Ht3, Gt3⟩ := id V_o0
  have hint3 : ¬ ((0 : Int32) < 0 ∨ clt3.slots.size ≤ ((0 : Int32)).toNatClampNeg) := inb_of st3 ⟨by decide, by decide⟩
  refine Go.of (fun _ k => X2.baloadBytes hx (j := (0 : Int32)) (v := (.int cb0)) (by rw [q2_0]; exact Art3.1) (State.isArrayOf_alike hZ.alike Art3.2.1) Art3.2.2 hint3 (Ht3.at hint3 rfl) (g := (mkF m 8 #[.val (.ref o0), .val (.int (0 : Int32))] [(.int (0 : Int32)), (.ref o0)])) rfl rfl (hb hby d32_8) _ k) ?_
  show Go p e below _ (T2.setTop (mkF m 9 #[.val (.ref o0), .val (.int (0 : Int32))] [(.int cb0)]))
  refine Go.of (fun _ k => XS.sipush X2.here hx rfl (hb hby d32_9) k) ?_
  show Go p e below _ (T2.setTop (mkF m 12 #[.val (.ref o0), .val (.int (0 : Int32))] [(.int (255 : Int32)), (.int cb0)]))
  refine Go.of (fun _ k => XS.iand X2.here hx rfl (hb hby d32_12) rfl k) ?_
  show Go p e below _ (T2.setTop (mkF m 13 #[.val (.ref o0), .val (.int (0 : Int32))] [(.int (cb0 &&& (255 : Int32)))]))
  refine Go.of (fun _ k => XS.i2c X2.here hx rfl (hb hby d32_13) rfl k) ?_
  show Go p e below _ (T2.setTop (mkF m 14 #[.val (.ref o0), .val (.int (0 : Int32))] [(.int ((cb0 &&& (255 : Int32)).toUInt32.toUInt16.toUInt32.toInt32))]))
  obtain ⟨fs, hr, hrun, hended, hW, hsame⟩ := X2.leave (v := some (.int (nar .char ((cb0 &&& (255 : Int32)).toUInt32.toUInt16.toUInt32.toInt32)))) (fun h => by rw [Bd.returns] at h; cases h)
  refine Go.mk _ _ ?_ hrun hended ⟨_, _, rfl, ?_, ⟨_, rfl⟩, hW, hsame.mono (by decide) (by decide)⟩
  · exact retN X2 hx (t := .char) Bd.returns (by simp) (hb hby d32_14) hr
  · show Q32_30 Z o0 cb0 cb1 cb2 kv v_SIOOBE_FORMATTER h0 n0 _ T2.heap _
    rw [q2_0]
    exact ⟨rfl, N2, rfl⟩
def Q30_30 (Z : State) (o0 : Addr) (cb0 : Int32) (cb1 : Int32) (cb2 : Int32) (w_COMPACT_STRINGS : Int32) (f_o0_value : Addr) (kv : ClassId) (v_SIOOBE_FORMATTER : Value) (h0 : Heap) (n0 : Nat) (v : Option Value) (h : Heap) (L : List Loc) : Prop := v = some (.int (nar .char (nar .char ((cb0 &&& (255 : Int32)).toUInt32.toUInt16.toUInt32.toInt32)))) ∧ Fr n0 L ∧ h = h0
set_option maxRecDepth 65536 in
set_option maxHeartbeats 40000000 in
theorem rm30_30 (l : Launch) (Z : State) (a0 : Array Value) (hw : ∀ d ∈ tables_1, d.before a0 Z = true) (ws : List Jvm.Cond) (o0 : Addr) (cb0 : Int32) (cb1 : Int32) (cb2 : Int32) (w_COMPACT_STRINGS : Int32) (f_o0_value : Addr) (kv : ClassId) (v_SIOOBE_FORMATTER : Value) (h0 : Heap) (n0 : Nat) (Z0 : n0 ≤ h0.size) (S_COMPACT_STRINGS : Sta Z h0 "java/lang/String" "COMPACT_STRINGS" "Z" (.int w_COMPACT_STRINGS)) (hc3_1 : ¬ (w_COMPACT_STRINGS = (0 : Int32))) (F_o0_coder : Fld Z h0 o0 "java/lang/String" "coder" "B" (.int (0 : Int32))) (E_o0 : Exa Z h0 o0 "java/lang/String") (F_o0_value : Fld Z h0 o0 "java/lang/String" "value" "[B" (.ref f_o0_value)) (V_f_o0_value : Arv Z h0 f_o0_value kv .byte (3 : Int32) [(.int cb0), (.int cb1), (.int cb2)] (.int (0 : Int32))) (S_SIOOBE_FORMATTER : Sta Z h0 "jdk/internal/util/Preconditions" "SIOOBE_FORMATTER" "Ljava/util/function/BiFunction;" v_SIOOBE_FORMATTER) (hr_v_SIOOBE_FORMATTER : v_SIOOBE_FORMATTER.isRef = true) :
    MetFree l (⟨"java/lang/String", "charAt", "(I)C"⟩ : MethodName) (head1 (Jvm.Cond.code (⟨"java/lang/String", "charAt", "(I)C"⟩ : MethodName) jdk_42_method_56_code 2 (some .char) :: ws) ({ frames := 3, cells := 0, slots := 0, locals := 40 } : Room)) (fun a U => a = #[(.ref o0), (.int (0 : Int32))] ∧ Z.Warmed39 U.vm ∧ U.heap = h0) (fun _ _ _ _ _ => True) (fun _ U o U' => ∃ v L, o = .returned v ∧ Q30_30 Z o0 cb0 cb1 cb2 w_COMPACT_STRINGS f_o0_value kv v_SIOOBE_FORMATTER h0 n0 v U'.heap L ∧ FrameEnd U o U' L ({ frames := 3, cells := 0, slots := 0, locals := 40 } : Room).cells ({ frames := 3, cells := 0, slots := 0, locals := 40 } : Room).slots) := by
  refine MetFree.of_bodySF (plainFor_of_name pn_java_lang_String) hisR ?_
  intro p e s m args below meth c s₁ Bd hml0 hP hK
  obtain ⟨rfl, hZ, hh⟩ := hP
  have hx := Bd.exec
  have hby := Bd.bytes
  have hml : c.maxLocals = 2 := hml0
  have hown : s.vm.findClass "java/lang/String" = some m.cls := findClass_of_methodNamed Bd.named
  have hnm := (name_of_methodNamed Bd.named Bd.method).1
  have X0 : Stand p l e ({ frames := 3, cells := 0, slots := 0, locals := 40 } : Room) s m #[(.ref o0), (.int (0 : Int32))] below meth c s₁ [] 0 0 := Stand.of_body Bd
  have e0 : s₁.heap = h0 := by rw [← hh, Bd.state]; rfl
  have N0 := Fr.nil n0
  show Go p e below (fun o U' => ∃ v L, o = .returned v ∧ Q30_30 Z o0 cb0 cb1 cb2 w_COMPACT_STRINGS f_o0_value kv v_SIOOBE_FORMATTER h0 n0 v U'.heap L ∧ FrameEnd s o U' L ({ frames := 3, cells := 0, slots := 0, locals := 40 } : Room).cells ({ frames := 3, cells := 0, slots := 0, locals := 40 } : Room).slots) (s₁.setTop (entryFrame m #[(.ref o0), (.int (0 : Int32))] 2))
  refine Go.of (fun _ k => castTop (ef_30l1_0 m o0) k) ?_
  show Go p e below _ (s₁.setTop (mkF m 0 #[.val (.ref o0), .val (.int (0 : Int32))] []))
  refine Go.of (fun _ k => XS.aloadN X0.here hx rfl (hb hby d30_0) rfl rfl k) ?_
  show Go p e below _ (s₁.setTop (mkF m 1 #[.val (.ref o0), .val (.int (0 : Int32))] [(.ref o0)]))
  obtain ⟨cq1, kq1, q1a, q1b, q1c⟩ := isOf hZ e0 E_o0
  obtain ⟨_, _, ⟨T1, L1, k1, n1⟩, -, X1, ⟨Lc1, hQ1, l1, y1, z1⟩, st1⟩ := X0.virtualBack hx (y := (⟨"java/lang/String", "isLatin1", "()Z"⟩ : MethodName)) (z := (⟨"java/lang/String", "isLatin1", "()Z"⟩ : MethodName)) hown (mvT hZ (hw _ (List.mem_of_getElem? (i := 171) rfl))) (mvT hZ (hw _ (List.mem_of_getElem? (i := 172) rfl))) (notFace_of_selects (args := #[]) (mvT hZ (hw _ (List.mem_of_getElem? (i := 174) rfl)))) (mvT hZ (hw _ (List.mem_of_getElem? (i := 174) rfl))) (mvT hZ (hw _ (List.mem_of_getElem? (i := 173) rfl))) (by decide) (backOf (W := 0) (rm31 l Z a0 hw [] o0 w_COMPACT_STRINGS h0 n0 Z0 S_COMPACT_STRINGS hc3_1 F_o0_coder) hZ (hw _ (List.mem_of_getElem? (i := 175) rfl)) (hw _ (List.mem_of_getElem? (i := 38) rfl)) (by decide) (by decide)) q1a q1c (g := (mkF m 1 #[.val (.ref o0), .val (.int (0 : Int32))] [(.ref o0)])) rfl (by rw [hml]; rfl) (Steps.refl _) (argsL := []) (rest := []) (lenOf pd_2 rfl) rfl (by show 2 * 0 + _ ≤ _; exact Nat.le_of_eq rfl) (hb hby d30_1) (fun _ _ => ⟨rfl, e0, (by decide : 0 + 0 ≤ _), (by decide : 0 + 0 ≤ _)⟩)
  dsimp only [Pt.U, Pt.locs, Pt.cells, Pt.slots] at X1 l1 y1 z1 st1 hQ1
  subst l1 y1 z1
  obtain ⟨rfl, Nq1, q1_0⟩ := hQ1
  have N1 := Fr.app N0 Nq1
  refine Go.tr st1 ?_
  show Go p e below _ (T1.setTop (mkF m 4 #[.val (.ref o0), .val (.int (0 : Int32))] [(.int (1 : Int32))]))
  refine Go.of (fun _ k => XS.ifNo X1.here hx rfl (hb hby d30_4) rfl ((if0 _ _).trans (feq (by decide : ¬ ((1 : Int32) = (0 : Int32)))).1) k) ?_
  show Go p e below _ (T1.setTop (mkF m 7 #[.val (.ref o0), .val (.int (0 : Int32))] []))
  refine Go.of (fun _ k => XS.aloadN X1.here hx rfl (hb hby d30_7) rfl rfl k) ?_
  show Go p e below _ (T1.setTop (mkF m 8 #[.val (.ref o0), .val (.int (0 : Int32))] [(.ref o0)]))
  obtain ⟨T2, X2, e2, st2⟩ := getF X1 hx hZ hown (host := "") (Or.inl (hw _ (List.mem_of_getElem? (i := 94) rfl))) Via.refl q1_0 F_o0_value (g := (mkF m 8 #[.val (.ref o0), .val (.int (0 : Int32))] [(.ref o0)])) rfl rfl (hb hby d30_8)
  refine Go.of st2 ?_
  show Go p e below _ (T2.setTop (mkF m 11 #[.val (.ref o0), .val (.int (0 : Int32))] [(.ref f_o0_value)]))
  refine Go.of (fun _ k => XS.iloadN X2.here hx rfl (hb hby d30_11) rfl  k) ?_
  show Go p e below _ (T2.setTop (mkF m 12 #[.val (.ref o0), .val (.int (0 : Int32))] [(.int (0 : Int32)), (.ref f_o0_value)]))
  obtain ⟨_, _, ⟨T3, L3, k3, n3⟩, -, X3, ⟨Lc3, hQ3, l3, y3, z3⟩, st3⟩ := Jvm.LawKit.callS X2 hx (y := (⟨"java/lang/StringLatin1", "charAt", "([BI)C"⟩ : MethodName)) hown (mvT hZ (hw _ (List.mem_of_getElem? (i := 176) rfl))) (mvT hZ (hw _ (List.mem_of_getElem? (i := 177) rfl))) (mvT hZ (hw _ (List.mem_of_getElem? (i := 178) rfl))) (mvT hZ (hw _ (List.mem_of_getElem? (i := 179) rfl))) (by decide) (backOf (W := 0) (rm32_30 l Z a0 hw [] f_o0_value cb0 cb1 cb2 kv v_SIOOBE_FORMATTER h0 n0 Z0 V_f_o0_value S_SIOOBE_FORMATTER hr_v_SIOOBE_FORMATTER) hZ (hw _ (List.mem_of_getElem? (i := 179) rfl)) (hw _ (List.mem_of_getElem? (i := 178) rfl)) (by decide) (by decide)) (g := (mkF m 12 #[.val (.ref o0), .val (.int (0 : Int32))] [(.int (0 : Int32)), (.ref f_o0_value)])) rfl (by rw [hml]; rfl) (argsL := [(.ref f_o0_value), (.int (0 : Int32))]) (rest := []) (lenOf pd_19 rfl) rfl (by show 2 * 0 + _ ≤ _; exact Nat.le_of_eq rfl) (hb hby d30_12) (fun _ _ => ⟨rfl, e2, (by decide : 0 + 0 ≤ _), (by decide : 0 + 0 ≤ _)⟩)
  dsimp only [Pt.U, Pt.locs, Pt.cells, Pt.slots] at X3 l3 y3 z3 st3 hQ3
  subst l3 y3 z3
  obtain ⟨rfl, Nq3, q3_0⟩ := hQ3
  have N3 := Fr.app N1 Nq3
  refine Go.of st3 ?_
  show Go p e below _ (T3.setTop (mkF m 15 #[.val (.ref o0), .val (.int (0 : Int32))] [(.int (nar .char ((cb0 &&& (255 : Int32)).toUInt32.toUInt16.toUInt32.toInt32)))]))
  obtain ⟨fs, hr, hrun, hended, hW, hsame⟩ := X3.leave (v := some (.int (nar .char (nar .char ((cb0 &&& (255 : Int32)).toUInt32.toUInt16.toUInt32.toInt32))))) (fun h => by rw [Bd.returns] at h; cases h)
  refine Go.mk _ _ ?_ hrun hended ⟨_, _, rfl, ?_, ⟨_, rfl⟩, hW, hsame.mono (by decide) (by decide)⟩
  · exact retN X3 hx (t := .char) Bd.returns (by simp) (hb hby d30_15) hr
  · show Q30_30 Z o0 cb0 cb1 cb2 w_COMPACT_STRINGS f_o0_value kv v_SIOOBE_FORMATTER h0 n0 _ T3.heap _
    rw [q3_0]
    exact ⟨rfl, N3, rfl⟩
def Q32_31 (Z : State) (o0 : Addr) (cb0 : Int32) (cb1 : Int32) (cb2 : Int32) (kv : ClassId) (v_SIOOBE_FORMATTER : Value) (h0 : Heap) (n0 : Nat) (v : Option Value) (h : Heap) (L : List Loc) : Prop := v = some (.int (nar .char ((cb1 &&& (255 : Int32)).toUInt32.toUInt16.toUInt32.toInt32))) ∧ Fr n0 L ∧ h = h0
set_option maxRecDepth 65536 in
set_option maxHeartbeats 40000000 in
theorem rm32_31 (l : Launch) (Z : State) (a0 : Array Value) (hw : ∀ d ∈ tables_1, d.before a0 Z = true) (ws : List Jvm.Cond) (o0 : Addr) (cb0 : Int32) (cb1 : Int32) (cb2 : Int32) (kv : ClassId) (v_SIOOBE_FORMATTER : Value) (h0 : Heap) (n0 : Nat) (Z0 : n0 ≤ h0.size) (V_o0 : Arv Z h0 o0 kv .byte (3 : Int32) [(.int cb0), (.int cb1), (.int cb2)] (.int (0 : Int32))) (S_SIOOBE_FORMATTER : Sta Z h0 "jdk/internal/util/Preconditions" "SIOOBE_FORMATTER" "Ljava/util/function/BiFunction;" v_SIOOBE_FORMATTER) (hr_v_SIOOBE_FORMATTER : v_SIOOBE_FORMATTER.isRef = true) :
    MetFree l (⟨"java/lang/StringLatin1", "charAt", "([BI)C"⟩ : MethodName) (head1 (Jvm.Cond.code (⟨"java/lang/StringLatin1", "charAt", "([BI)C"⟩ : MethodName) jdk_43_method_2_code 2 (some .char) :: ws) ({ frames := 2, cells := 0, slots := 0, locals := 27 } : Room)) (fun a U => a = #[(.ref o0), (.int (1 : Int32))] ∧ Z.Warmed39 U.vm ∧ U.heap = h0) (fun _ _ _ _ _ => True) (fun _ U o U' => ∃ v L, o = .returned v ∧ Q32_31 Z o0 cb0 cb1 cb2 kv v_SIOOBE_FORMATTER h0 n0 v U'.heap L ∧ FrameEnd U o U' L ({ frames := 2, cells := 0, slots := 0, locals := 27 } : Room).cells ({ frames := 2, cells := 0, slots := 0, locals := 27 } : Room).slots) := by
  refine MetFree.of_bodySF (plainFor_of_name pn_java_lang_StringLatin1) hisR ?_
  intro p e s m args below meth c s₁ Bd hml0 hP hK
  obtain ⟨rfl, hZ, hh⟩ := hP
  have hx := Bd.exec
  have hby := Bd.bytes
  have hml : c.maxLocals = 2 := hml0
  have hown : s.vm.findClass "java/lang/StringLatin1" = some m.cls := findClass_of_methodNamed Bd.named
  have hnm := (name_of_methodNamed Bd.named Bd.method).1
  have X0 : Stand p l e ({ frames := 2, cells := 0, slots := 0, locals := 27 } : Room) s m #[(.ref o0), (.int (1 : Int32))] below meth c s₁ [] 0 0 := Stand.of_body Bd
  have e0 : s₁.heap = h0 := by rw [← hh, Bd.state]; rfl
  have N0 := Fr.nil n0
  show Go p e below (fun o U' => ∃ v L, o = .returned v ∧ Q32_31 Z o0 cb0 cb1 cb2 kv v_SIOOBE_FORMATTER h0 n0 v U'.heap L ∧ FrameEnd s o U' L ({ frames := 2, cells := 0, slots := 0, locals := 27 } : Room).cells ({ frames := 2, cells := 0, slots := 0, locals := 27 } : Room).slots) (s₁.setTop (entryFrame m #[(.ref o0), (.int (1 : Int32))] 2))
  refine Go.of (fun _ k => castTop (ef_32l2_1 m o0) k) ?_
  show Go p e below _ (s₁.setTop (mkF m 0 #[.val (.ref o0), .val (.int (1 : Int32))] []))
  refine Go.of (fun _ k => XS.iloadN X0.here hx rfl (hb hby d32_0) rfl  k) ?_
  show Go p e below _ (s₁.setTop (mkF m 1 #[.val (.ref o0), .val (.int (1 : Int32))] [(.int (1 : Int32))]))
  refine Go.of (fun _ k => XS.aloadN X0.here hx rfl (hb hby d32_1) rfl rfl k) ?_
  show Go p e below _ (s₁.setTop (mkF m 2 #[.val (.ref o0), .val (.int (1 : Int32))] [(.ref o0), (.int (1 : Int32))]))
  obtain ⟨clt1, Art1, qt1, st1, nt1, Ht1, Gt1⟩ := id V_o0
  refine Go.of (fun _ k => X0.arraylength hx (by rw [e0]; exact Art1.1) (State.isArrayOf_alike hZ.alike Art1.2.1) (g := (mkF m 2 #[.val (.ref o0), .val (.int (1 : Int32))] [(.ref o0), (.int (1 : Int32))])) rfl rfl (hb hby d32_2) _ k) ?_
  rw [len_of st1 nt1]
  show Go p e below _ (s₁.setTop (mkF m 3 #[.val (.ref o0), .val (.int (1 : Int32))] [(.int (3 : Int32)), (.int (1 : Int32))]))
  obtain ⟨_, _, ⟨T2, L2, k2, n2⟩, -, X2, ⟨Lc2, hQ2, l2, y2, z2⟩, st2⟩ := Jvm.LawKit.callS X0 hx (y := (⟨"java/lang/String", "checkIndex", "(II)V"⟩ : MethodName)) hown (mvT hZ (hw _ (List.mem_of_getElem? (i := 180) rfl))) (mvT hZ (hw _ (List.mem_of_getElem? (i := 181) rfl))) (mvT hZ (hw _ (List.mem_of_getElem? (i := 38) rfl))) (mvT hZ (hw _ (List.mem_of_getElem? (i := 182) rfl))) (by decide) (backOf (W := 0) (rm33 l Z a0 hw [] (1 : Int32) (3 : Int32) v_SIOOBE_FORMATTER h0 n0 Z0 S_SIOOBE_FORMATTER hr_v_SIOOBE_FORMATTER (by decide : ¬ ((1 : Int32) < (0 : Int32))) (by decide : (1 : Int32) < (3 : Int32))) hZ (hw _ (List.mem_of_getElem? (i := 182) rfl)) (hw _ (List.mem_of_getElem? (i := 38) rfl)) (by decide) (by decide)) (g := (mkF m 3 #[.val (.ref o0), .val (.int (1 : Int32))] [(.int (3 : Int32)), (.int (1 : Int32))])) rfl (by rw [hml]; rfl) (argsL := [(.int (1 : Int32)), (.int (3 : Int32))]) (rest := []) (lenOf pd_11 rfl) rfl (by show 2 * 0 + _ ≤ _; exact Nat.le_of_eq rfl) (hb hby d32_3) (fun _ _ => ⟨rfl, e0, (by decide : 0 + 0 ≤ _), (by decide : 0 + 0 ≤ _)⟩)
  dsimp only [Pt.U, Pt.locs, Pt.cells, Pt.slots] at X2 l2 y2 z2 st2 hQ2
  subst l2 y2 z2
  obtain ⟨rfl, Nq2, q2_0⟩ := hQ2
  have N2 := Fr.app N0 Nq2
  refine Go.of st2 ?_
  show Go p e below _ (T2.setTop (mkF m 6 #[.val (.ref o0), .val (.int (1 : Int32))] []))
  refine Go.of (fun _ k => XS.aloadN X2.here hx rfl (hb hby d32_6) rfl rfl k) ?_
  show Go p e below _ (T2.setTop (mkF m 7 #[.val (.ref o0), .val (.int (1 : Int32))] [(.ref o0)]))
  refine Go.of (fun _ k => XS.iloadN X2.here hx rfl (hb hby d32_7) rfl  k) ?_
  show Go p e below _ (T2.setTop (mkF m 8 #[.val (.ref o0), .val (.int (1 : Int32))] [(.int (1 : Int32)), (.ref o0)]))
  obtain ⟨clt3, Art3, qt3, st3, nt3, Ht3, Gt3⟩ := id V_o0
  have hint3 : ¬ ((1 : Int32) < 0 ∨ clt3.slots.size ≤ ((1 : Int32)).toNatClampNeg) := inb_of st3 ⟨by decide, by decide⟩
  refine Go.of (fun _ k => X2.baloadBytes hx (j := (1 : Int32)) (v := (.int cb1)) (by rw [q2_0]; exact Art3.1) (State.isArrayOf_alike hZ.alike Art3.2.1) Art3.2.2 hint3 (Ht3.at hint3 rfl) (g := (mkF m 8 #[.val (.ref o0), .val (.int (1 : Int32))] [(.int (1 : Int32)), (.ref o0)])) rfl rfl (hb hby d32_8) _ k) ?_
  show Go p e below _ (T2.setTop (mkF m 9 #[.val (.ref o0), .val (.int (1 : Int32))] [(.int cb1)]))
  refine Go.of (fun _ k => XS.sipush X2.here hx rfl (hb hby d32_9) k) ?_
  show Go p e below _ (T2.setTop (mkF m 12 #[.val (.ref o0), .val (.int (1 : Int32))] [(.int (255 : Int32)), (.int cb1)]))
  refine Go.of (fun _ k => XS.iand X2.here hx rfl (hb hby d32_12) rfl k) ?_
  show Go p e below _ (T2.setTop (mkF m 13 #[.val (.ref o0), .val (.int (1 : Int32))] [(.int (cb1 &&& (255 : Int32)))]))
  refine Go.of (fun _ k => XS.i2c X2.here hx rfl (hb hby d32_13) rfl k) ?_
  show Go p e below _ (T2.setTop (mkF m 14 #[.val (.ref o0), .val (.int (1 : Int32))] [(.int ((cb1 &&& (255 : Int32)).toUInt32.toUInt16.toUInt32.toInt32))]))
  obtain ⟨fs, hr, hrun, hended, hW, hsame⟩ := X2.leave (v := some (.int (nar .char ((cb1 &&& (255 : Int32)).toUInt32.toUInt16.toUInt32.toInt32)))) (fun h => by rw [Bd.returns] at h; cases h)
  refine Go.mk _ _ ?_ hrun hended ⟨_, _, rfl, ?_, ⟨_, rfl⟩, hW, hsame.mono (by decide) (by decide)⟩
  · exact retN X2 hx (t := .char) Bd.returns (by simp) (hb hby d32_14) hr
  · show Q32_31 Z o0 cb0 cb1 cb2 kv v_SIOOBE_FORMATTER h0 n0 _ T2.heap _
    rw [q2_0]
    exact ⟨rfl, N2, rfl⟩
def Q30_31 (Z : State) (o0 : Addr) (cb0 : Int32) (cb1 : Int32) (cb2 : Int32) (w_COMPACT_STRINGS : Int32) (f_o0_value : Addr) (kv : ClassId) (v_SIOOBE_FORMATTER : Value) (h0 : Heap) (n0 : Nat) (v : Option Value) (h : Heap) (L : List Loc) : Prop := v = some (.int (nar .char (nar .char ((cb1 &&& (255 : Int32)).toUInt32.toUInt16.toUInt32.toInt32)))) ∧ Fr n0 L ∧ h = h0
set_option maxRecDepth 65536 in
set_option maxHeartbeats 40000000 in
theorem rm30_31 (l : Launch) (Z : State) (a0 : Array Value) (hw : ∀ d ∈ tables_1, d.before a0 Z = true) (ws : List Jvm.Cond) (o0 : Addr) (cb0 : Int32) (cb1 : Int32) (cb2 : Int32) (w_COMPACT_STRINGS : Int32) (f_o0_value : Addr) (kv : ClassId) (v_SIOOBE_FORMATTER : Value) (h0 : Heap) (n0 : Nat) (Z0 : n0 ≤ h0.size) (S_COMPACT_STRINGS : Sta Z h0 "java/lang/String" "COMPACT_STRINGS" "Z" (.int w_COMPACT_STRINGS)) (hc3_1 : ¬ (w_COMPACT_STRINGS = (0 : Int32))) (F_o0_coder : Fld Z h0 o0 "java/lang/String" "coder" "B" (.int (0 : Int32))) (E_o0 : Exa Z h0 o0 "java/lang/String") (F_o0_value : Fld Z h0 o0 "java/lang/String" "value" "[B" (.ref f_o0_value)) (V_f_o0_value : Arv Z h0 f_o0_value kv .byte (3 : Int32) [(.int cb0), (.int cb1), (.int cb2)] (.int (0 : Int32))) (S_SIOOBE_FORMATTER : Sta Z h0 "jdk/internal/util/Preconditions" "SIOOBE_FORMATTER" "Ljava/util/function/BiFunction;" v_SIOOBE_FORMATTER) (hr_v_SIOOBE_FORMATTER : v_SIOOBE_FORMATTER.isRef = true) :
    MetFree l (⟨"java/lang/String", "charAt", "(I)C"⟩ : MethodName) (head1 (Jvm.Cond.code (⟨"java/lang/String", "charAt", "(I)C"⟩ : MethodName) jdk_42_method_56_code 2 (some .char) :: ws) ({ frames := 3, cells := 0, slots := 0, locals := 40 } : Room)) (fun a U => a = #[(.ref o0), (.int (1 : Int32))] ∧ Z.Warmed39 U.vm ∧ U.heap = h0) (fun _ _ _ _ _ => True) (fun _ U o U' => ∃ v L, o = .returned v ∧ Q30_31 Z o0 cb0 cb1 cb2 w_COMPACT_STRINGS f_o0_value kv v_SIOOBE_FORMATTER h0 n0 v U'.heap L ∧ FrameEnd U o U' L ({ frames := 3, cells := 0, slots := 0, locals := 40 } : Room).cells ({ frames := 3, cells := 0, slots := 0, locals := 40 } : Room).slots) := by
  refine MetFree.of_bodySF (plainFor_of_name pn_java_lang_String) hisR ?_
  intro p e s m args below meth c s₁ Bd hml0 hP hK
  obtain ⟨rfl, hZ, hh⟩ := hP
  have hx := Bd.exec
  have hby := Bd.bytes
  have hml : c.maxLocals = 2 := hml0
  have hown : s.vm.findClass "java/lang/String" = some m.cls := findClass_of_methodNamed Bd.named
  have hnm := (name_of_methodNamed Bd.named Bd.method).1
  have X0 : Stand p l e ({ frames := 3, cells := 0, slots := 0, locals := 40 } : Room) s m #[(.ref o0), (.int (1 : Int32))] below meth c s₁ [] 0 0 := Stand.of_body Bd
  have e0 : s₁.heap = h0 := by rw [← hh, Bd.state]; rfl
  have N0 := Fr.nil n0
  show Go p e below (fun o U' => ∃ v L, o = .returned v ∧ Q30_31 Z o0 cb0 cb1 cb2 w_COMPACT_STRINGS f_o0_value kv v_SIOOBE_FORMATTER h0 n0 v U'.heap L ∧ FrameEnd s o U' L ({ frames := 3, cells := 0, slots := 0, locals := 40 } : Room).cells ({ frames := 3, cells := 0, slots := 0, locals := 40 } : Room).slots) (s₁.setTop (entryFrame m #[(.ref o0), (.int (1 : Int32))] 2))
  refine Go.of (fun _ k => castTop (ef_30l1_1 m o0) k) ?_
  show Go p e below _ (s₁.setTop (mkF m 0 #[.val (.ref o0), .val (.int (1 : Int32))] []))
  refine Go.of (fun _ k => XS.aloadN X0.here hx rfl (hb hby d30_0) rfl rfl k) ?_
  show Go p e below _ (s₁.setTop (mkF m 1 #[.val (.ref o0), .val (.int (1 : Int32))] [(.ref o0)]))
  obtain ⟨cq1, kq1, q1a, q1b, q1c⟩ := isOf hZ e0 E_o0
  obtain ⟨_, _, ⟨T1, L1, k1, n1⟩, -, X1, ⟨Lc1, hQ1, l1, y1, z1⟩, st1⟩ := X0.virtualBack hx (y := (⟨"java/lang/String", "isLatin1", "()Z"⟩ : MethodName)) (z := (⟨"java/lang/String", "isLatin1", "()Z"⟩ : MethodName)) hown (mvT hZ (hw _ (List.mem_of_getElem? (i := 171) rfl))) (mvT hZ (hw _ (List.mem_of_getElem? (i := 172) rfl))) (notFace_of_selects (args := #[]) (mvT hZ (hw _ (List.mem_of_getElem? (i := 174) rfl)))) (mvT hZ (hw _ (List.mem_of_getElem? (i := 174) rfl))) (mvT hZ (hw _ (List.mem_of_getElem? (i := 173) rfl))) (by decide) (backOf (W := 0) (rm31 l Z a0 hw [] o0 w_COMPACT_STRINGS h0 n0 Z0 S_COMPACT_STRINGS hc3_1 F_o0_coder) hZ (hw _ (List.mem_of_getElem? (i := 175) rfl)) (hw _ (List.mem_of_getElem? (i := 38) rfl)) (by decide) (by decide)) q1a q1c (g := (mkF m 1 #[.val (.ref o0), .val (.int (1 : Int32))] [(.ref o0)])) rfl (by rw [hml]; rfl) (Steps.refl _) (argsL := []) (rest := []) (lenOf pd_2 rfl) rfl (by show 2 * 0 + _ ≤ _; exact Nat.le_of_eq rfl) (hb hby d30_1) (fun _ _ => ⟨rfl, e0, (by decide : 0 + 0 ≤ _), (by decide : 0 + 0 ≤ _)⟩)
  dsimp only [Pt.U, Pt.locs, Pt.cells, Pt.slots] at X1 l1 y1 z1 st1 hQ1
  subst l1 y1 z1
  obtain ⟨rfl, Nq1, q1_0⟩ := hQ1
  have N1 := Fr.app N0 Nq1
  refine Go.tr st1 ?_
  show Go p e below _ (T1.setTop (mkF m 4 #[.val (.ref o0), .val (.int (1 : Int32))] [(.int (1 : Int32))]))
  refine Go.of (fun _ k => XS.ifNo X1.here hx rfl (hb hby d30_4) rfl ((if0 _ _).trans (feq (by decide : ¬ ((1 : Int32) = (0 : Int32)))).1) k) ?_
  show Go p e below _ (T1.setTop (mkF m 7 #[.val (.ref o0), .val (.int (1 : Int32))] []))
  refine Go.of (fun _ k => XS.aloadN X1.here hx rfl (hb hby d30_7) rfl rfl k) ?_
  show Go p e below _ (T1.setTop (mkF m 8 #[.val (.ref o0), .val (.int (1 : Int32))] [(.ref o0)]))
  obtain ⟨T2, X2, e2, st2⟩ := getF X1 hx hZ hown (host := "") (Or.inl (hw _ (List.mem_of_getElem? (i := 94) rfl))) Via.refl q1_0 F_o0_value (g := (mkF m 8 #[.val (.ref o0), .val (.int (1 : Int32))] [(.ref o0)])) rfl rfl (hb hby d30_8)
  refine Go.of st2 ?_
  show Go p e below _ (T2.setTop (mkF m 11 #[.val (.ref o0), .val (.int (1 : Int32))] [(.ref f_o0_value)]))
  refine Go.of (fun _ k => XS.iloadN X2.here hx rfl (hb hby d30_11) rfl  k) ?_
  show Go p e below _ (T2.setTop (mkF m 12 #[.val (.ref o0), .val (.int (1 : Int32))] [(.int (1 : Int32)), (.ref f_o0_value)]))
  obtain ⟨_, _, ⟨T3, L3, k3, n3⟩, -, X3, ⟨Lc3, hQ3, l3, y3, z3⟩, st3⟩ := Jvm.LawKit.callS X2 hx (y := (⟨"java/lang/StringLatin1", "charAt", "([BI)C"⟩ : MethodName)) hown (mvT hZ (hw _ (List.mem_of_getElem? (i := 176) rfl))) (mvT hZ (hw _ (List.mem_of_getElem? (i := 177) rfl))) (mvT hZ (hw _ (List.mem_of_getElem? (i := 178) rfl))) (mvT hZ (hw _ (List.mem_of_getElem? (i := 179) rfl))) (by decide) (backOf (W := 0) (rm32_31 l Z a0 hw [] f_o0_value cb0 cb1 cb2 kv v_SIOOBE_FORMATTER h0 n0 Z0 V_f_o0_value S_SIOOBE_FORMATTER hr_v_SIOOBE_FORMATTER) hZ (hw _ (List.mem_of_getElem? (i := 179) rfl)) (hw _ (List.mem_of_getElem? (i := 178) rfl)) (by decide) (by decide)) (g := (mkF m 12 #[.val (.ref o0), .val (.int (1 : Int32))] [(.int (1 : Int32)), (.ref f_o0_value)])) rfl (by rw [hml]; rfl) (argsL := [(.ref f_o0_value), (.int (1 : Int32))]) (rest := []) (lenOf pd_19 rfl) rfl (by show 2 * 0 + _ ≤ _; exact Nat.le_of_eq rfl) (hb hby d30_12) (fun _ _ => ⟨rfl, e2, (by decide : 0 + 0 ≤ _), (by decide : 0 + 0 ≤ _)⟩)
  dsimp only [Pt.U, Pt.locs, Pt.cells, Pt.slots] at X3 l3 y3 z3 st3 hQ3
  subst l3 y3 z3
  obtain ⟨rfl, Nq3, q3_0⟩ := hQ3
  have N3 := Fr.app N1 Nq3
  refine Go.of st3 ?_
  show Go p e below _ (T3.setTop (mkF m 15 #[.val (.ref o0), .val (.int (1 : Int32))] [(.int (nar .char ((cb1 &&& (255 : Int32)).toUInt32.toUInt16.toUInt32.toInt32)))]))
  obtain ⟨fs, hr, hrun, hended, hW, hsame⟩ := X3.leave (v := some (.int (nar .char (nar .char ((cb1 &&& (255 : Int32)).toUInt32.toUInt16.toUInt32.toInt32))))) (fun h => by rw [Bd.returns] at h; cases h)
  refine Go.mk _ _ ?_ hrun hended ⟨_, _, rfl, ?_, ⟨_, rfl⟩, hW, hsame.mono (by decide) (by decide)⟩
  · exact retN X3 hx (t := .char) Bd.returns (by simp) (hb hby d30_15) hr
  · show Q30_31 Z o0 cb0 cb1 cb2 w_COMPACT_STRINGS f_o0_value kv v_SIOOBE_FORMATTER h0 n0 _ T3.heap _
    rw [q3_0]
    exact ⟨rfl, N3, rfl⟩
theorem ef_32l2_2 (m : MethodId) (x0 : Addr) : entryFrame m #[(.ref x0), (.int (2 : Int32))] 2 = mkF m 0 #[.val (.ref x0), .val (.int (2 : Int32))] [] := by first | (simp [entryFrame, mkF, argsToLocals, Value.category]; done) | rfl
def Q32_32 (Z : State) (o0 : Addr) (cb0 : Int32) (cb1 : Int32) (cb2 : Int32) (kv : ClassId) (v_SIOOBE_FORMATTER : Value) (h0 : Heap) (n0 : Nat) (v : Option Value) (h : Heap) (L : List Loc) : Prop := v = some (.int (nar .char ((cb2 &&& (255 : Int32)).toUInt32.toUInt16.toUInt32.toInt32))) ∧ Fr n0 L ∧ h = h0
set_option maxRecDepth 65536 in
set_option maxHeartbeats 40000000 in
theorem rm32_32 (l : Launch) (Z : State) (a0 : Array Value) (hw : ∀ d ∈ tables_1, d.before a0 Z = true) (ws : List Jvm.Cond) (o0 : Addr) (cb0 : Int32) (cb1 : Int32) (cb2 : Int32) (kv : ClassId) (v_SIOOBE_FORMATTER : Value) (h0 : Heap) (n0 : Nat) (Z0 : n0 ≤ h0.size) (V_o0 : Arv Z h0 o0 kv .byte (3 : Int32) [(.int cb0), (.int cb1), (.int cb2)] (.int (0 : Int32))) (S_SIOOBE_FORMATTER : Sta Z h0 "jdk/internal/util/Preconditions" "SIOOBE_FORMATTER" "Ljava/util/function/BiFunction;" v_SIOOBE_FORMATTER) (hr_v_SIOOBE_FORMATTER : v_SIOOBE_FORMATTER.isRef = true) :
    MetFree l (⟨"java/lang/StringLatin1", "charAt", "([BI)C"⟩ : MethodName) (head1 (Jvm.Cond.code (⟨"java/lang/StringLatin1", "charAt", "([BI)C"⟩ : MethodName) jdk_43_method_2_code 2 (some .char) :: ws) ({ frames := 2, cells := 0, slots := 0, locals := 27 } : Room)) (fun a U => a = #[(.ref o0), (.int (2 : Int32))] ∧ Z.Warmed39 U.vm ∧ U.heap = h0) (fun _ _ _ _ _ => True) (fun _ U o U' => ∃ v L, o = .returned v ∧ Q32_32 Z o0 cb0 cb1 cb2 kv v_SIOOBE_FORMATTER h0 n0 v U'.heap L ∧ FrameEnd U o U' L ({ frames := 2, cells := 0, slots := 0, locals := 27 } : Room).cells ({ frames := 2, cells := 0, slots := 0, locals := 27 } : Room).slots) := by
  refine MetFree.of_bodySF (plainFor_of_name pn_java_lang_StringLatin1) hisR ?_
  intro p e s m args below meth c s₁ Bd hml0 hP hK
  obtain ⟨rfl, hZ, hh⟩ := hP
  have hx := Bd.exec
  have hby := Bd.bytes
  have hml : c.maxLocals = 2 := hml0
  have hown : s.vm.findClass "java/lang/StringLatin1" = some m.cls := findClass_of_methodNamed Bd.named
  have hnm := (name_of_methodNamed Bd.named Bd.method).1
  have X0 : Stand p l e ({ frames := 2, cells := 0, slots := 0, locals := 27 } : Room) s m #[(.ref o0), (.int (2 : Int32))] below meth c s₁ [] 0 0 := Stand.of_body Bd
  have e0 : s₁.heap = h0 := by rw [← hh, Bd.state]; rfl
  have N0 := Fr.nil n0
  show Go p e below (fun o U' => ∃ v L, o = .returned v ∧ Q32_32 Z o0 cb0 cb1 cb2 kv v_SIOOBE_FORMATTER h0 n0 v U'.heap L ∧ FrameEnd s o U' L ({ frames := 2, cells := 0, slots := 0, locals := 27 } : Room).cells ({ frames := 2, cells := 0, slots := 0, locals := 27 } : Room).slots) (s₁.setTop (entryFrame m #[(.ref o0), (.int (2 : Int32))] 2))
  refine Go.of (fun _ k => castTop (ef_32l2_2 m o0) k) ?_
  show Go p e below _ (s₁.setTop (mkF m 0 #[.val (.ref o0), .val (.int (2 : Int32))] []))
  refine Go.of (fun _ k => XS.iloadN X0.here hx rfl (hb hby d32_0) rfl  k) ?_
  show Go p e below _ (s₁.setTop (mkF m 1 #[.val (.ref o0), .val (.int (2 : Int32))] [(.int (2 : Int32))]))
  refine Go.of (fun _ k => XS.aloadN X0.here hx rfl (hb hby d32_1) rfl rfl k) ?_
  show Go p e below _ (s₁.setTop (mkF m 2 #[.val (.ref o0), .val (.int (2 : Int32))] [(.ref o0), (.int (2 : Int32))]))
  obtain ⟨clt1, Art1, qt1, st1, nt1, Ht1, Gt1⟩ := id V_o0
  refine Go.of (fun _ k => X0.arraylength hx (by rw [e0]; exact Art1.1) (State.isArrayOf_alike hZ.alike Art1.2.1) (g := (mkF m 2 #[.val (.ref o0), .val (.int (2 : Int32))] [(.ref o0), (.int (2 : Int32))])) rfl rfl (hb hby d32_2) _ k) ?_
  rw [len_of st1 nt1]
  show Go p e below _ (s₁.setTop (mkF m 3 #[.val (.ref o0), .val (.int (2 : Int32))] [(.int (3 : Int32)), (.int (2 : Int32))]))
  obtain ⟨_, _, ⟨T2, L2, k2, n2⟩, -, X2, ⟨Lc2, hQ2, l2, y2, z2⟩, st2⟩ := Jvm.LawKit.callS X0 hx (y := (⟨"java/lang/String", "checkIndex", "(II)V"⟩ : MethodName)) hown (mvT hZ (hw _ (List.mem_of_getElem? (i := 180) rfl))) (mvT hZ (hw _ (List.mem_of_getElem? (i := 181) rfl))) (mvT hZ (hw _ (List.mem_of_getElem? (i := 38) rfl))) (mvT hZ (hw _ (List.mem_of_getElem? (i := 182) rfl))) (by decide) (backOf (W := 0) (rm33 l Z a0 hw [] (2 : Int32) (3 : Int32) v_SIOOBE_FORMATTER h0 n0 Z0 S_SIOOBE_FORMATTER hr_v_SIOOBE_FORMATTER (by decide : ¬ ((2 : Int32) < (0 : Int32))) (by decide : (2 : Int32) < (3 : Int32))) hZ (hw _ (List.mem_of_getElem? (i := 182) rfl)) (hw _ (List.mem_of_getElem? (i := 38) rfl)) (by decide) (by decide)) (g := (mkF m 3 #[.val (.ref o0), .val (.int (2 : Int32))] [(.int (3 : Int32)), (.int (2 : Int32))])) rfl (by rw [hml]; rfl) (argsL := [(.int (2 : Int32)), (.int (3 : Int32))]) (rest := []) (lenOf pd_11 rfl) rfl (by show 2 * 0 + _ ≤ _; exact Nat.le_of_eq rfl) (hb hby d32_3) (fun _ _ => ⟨rfl, e0, (by decide : 0 + 0 ≤ _), (by decide : 0 + 0 ≤ _)⟩)
  dsimp only [Pt.U, Pt.locs, Pt.cells, Pt.slots] at X2 l2 y2 z2 st2 hQ2
  subst l2 y2 z2
  obtain ⟨rfl, Nq2, q2_0⟩ := hQ2
  have N2 := Fr.app N0 Nq2
  refine Go.of st2 ?_
  show Go p e below _ (T2.setTop (mkF m 6 #[.val (.ref o0), .val (.int (2 : Int32))] []))
  refine Go.of (fun _ k => XS.aloadN X2.here hx rfl (hb hby d32_6) rfl rfl k) ?_
  show Go p e below _ (T2.setTop (mkF m 7 #[.val (.ref o0), .val (.int (2 : Int32))] [(.ref o0)]))
  refine Go.of (fun _ k => XS.iloadN X2.here hx rfl (hb hby d32_7) rfl  k) ?_
  show Go p e below _ (T2.setTop (mkF m 8 #[.val (.ref o0), .val (.int (2 : Int32))] [(.int (2 : Int32)), (.ref o0)]))
  obtain ⟨clt3, Art3, qt3, st3, nt3, Ht3, Gt3⟩ := id V_o0
  have hint3 : ¬ ((2 : Int32) < 0 ∨ clt3.slots.size ≤ ((2 : Int32)).toNatClampNeg) := inb_of st3 ⟨by decide, by decide⟩
  refine Go.of (fun _ k => X2.baloadBytes hx (j := (2 : Int32)) (v := (.int cb2)) (by rw [q2_0]; exact Art3.1) (State.isArrayOf_alike hZ.alike Art3.2.1) Art3.2.2 hint3 (Ht3.at hint3 rfl) (g := (mkF m 8 #[.val (.ref o0), .val (.int (2 : Int32))] [(.int (2 : Int32)), (.ref o0)])) rfl rfl (hb hby d32_8) _ k) ?_
  show Go p e below _ (T2.setTop (mkF m 9 #[.val (.ref o0), .val (.int (2 : Int32))] [(.int cb2)]))
  refine Go.of (fun _ k => XS.sipush X2.here hx rfl (hb hby d32_9) k) ?_
  show Go p e below _ (T2.setTop (mkF m 12 #[.val (.ref o0), .val (.int (2 : Int32))] [(.int (255 : Int32)), (.int cb2)]))
  refine Go.of (fun _ k => XS.iand X2.here hx rfl (hb hby d32_12) rfl k) ?_
  show Go p e below _ (T2.setTop (mkF m 13 #[.val (.ref o0), .val (.int (2 : Int32))] [(.int (cb2 &&& (255 : Int32)))]))
  refine Go.of (fun _ k => XS.i2c X2.here hx rfl (hb hby d32_13) rfl k) ?_
  show Go p e below _ (T2.setTop (mkF m 14 #[.val (.ref o0), .val (.int (2 : Int32))] [(.int ((cb2 &&& (255 : Int32)).toUInt32.toUInt16.toUInt32.toInt32))]))
  obtain ⟨fs, hr, hrun, hended, hW, hsame⟩ := X2.leave (v := some (.int (nar .char ((cb2 &&& (255 : Int32)).toUInt32.toUInt16.toUInt32.toInt32)))) (fun h => by rw [Bd.returns] at h; cases h)
  refine Go.mk _ _ ?_ hrun hended ⟨_, _, rfl, ?_, ⟨_, rfl⟩, hW, hsame.mono (by decide) (by decide)⟩
  · exact retN X2 hx (t := .char) Bd.returns (by simp) (hb hby d32_14) hr
  · show Q32_32 Z o0 cb0 cb1 cb2 kv v_SIOOBE_FORMATTER h0 n0 _ T2.heap _
    rw [q2_0]
    exact ⟨rfl, N2, rfl⟩
theorem ef_30l1_2 (m : MethodId) (x0 : Addr) : entryFrame m #[(.ref x0), (.int (2 : Int32))] 2 = mkF m 0 #[.val (.ref x0), .val (.int (2 : Int32))] [] := by first | (simp [entryFrame, mkF, argsToLocals, Value.category]; done) | rfl
def Q30_32 (Z : State) (o0 : Addr) (cb0 : Int32) (cb1 : Int32) (cb2 : Int32) (w_COMPACT_STRINGS : Int32) (f_o0_value : Addr) (kv : ClassId) (v_SIOOBE_FORMATTER : Value) (h0 : Heap) (n0 : Nat) (v : Option Value) (h : Heap) (L : List Loc) : Prop := v = some (.int (nar .char (nar .char ((cb2 &&& (255 : Int32)).toUInt32.toUInt16.toUInt32.toInt32)))) ∧ Fr n0 L ∧ h = h0
set_option maxRecDepth 65536 in
set_option maxHeartbeats 40000000 in
theorem rm30_32 (l : Launch) (Z : State) (a0 : Array Value) (hw : ∀ d ∈ tables_1, d.before a0 Z = true) (ws : List Jvm.Cond) (o0 : Addr) (cb0 : Int32) (cb1 : Int32) (cb2 : Int32) (w_COMPACT_STRINGS : Int32) (f_o0_value : Addr) (kv : ClassId) (v_SIOOBE_FORMATTER : Value) (h0 : Heap) (n0 : Nat) (Z0 : n0 ≤ h0.size) (S_COMPACT_STRINGS : Sta Z h0 "java/lang/String" "COMPACT_STRINGS" "Z" (.int w_COMPACT_STRINGS)) (hc3_1 : ¬ (w_COMPACT_STRINGS = (0 : Int32))) (F_o0_coder : Fld Z h0 o0 "java/lang/String" "coder" "B" (.int (0 : Int32))) (E_o0 : Exa Z h0 o0 "java/lang/String") (F_o0_value : Fld Z h0 o0 "java/lang/String" "value" "[B" (.ref f_o0_value)) (V_f_o0_value : Arv Z h0 f_o0_value kv .byte (3 : Int32) [(.int cb0), (.int cb1), (.int cb2)] (.int (0 : Int32))) (S_SIOOBE_FORMATTER : Sta Z h0 "jdk/internal/util/Preconditions" "SIOOBE_FORMATTER" "Ljava/util/function/BiFunction;" v_SIOOBE_FORMATTER) (hr_v_SIOOBE_FORMATTER : v_SIOOBE_FORMATTER.isRef = true) :
    MetFree l (⟨"java/lang/String", "charAt", "(I)C"⟩ : MethodName) (head1 (Jvm.Cond.code (⟨"java/lang/String", "charAt", "(I)C"⟩ : MethodName) jdk_42_method_56_code 2 (some .char) :: ws) ({ frames := 3, cells := 0, slots := 0, locals := 40 } : Room)) (fun a U => a = #[(.ref o0), (.int (2 : Int32))] ∧ Z.Warmed39 U.vm ∧ U.heap = h0) (fun _ _ _ _ _ => True) (fun _ U o U' => ∃ v L, o = .returned v ∧ Q30_32 Z o0 cb0 cb1 cb2 w_COMPACT_STRINGS f_o0_value kv v_SIOOBE_FORMATTER h0 n0 v U'.heap L ∧ FrameEnd U o U' L ({ frames := 3, cells := 0, slots := 0, locals := 40 } : Room).cells ({ frames := 3, cells := 0, slots := 0, locals := 40 } : Room).slots) := by
  refine MetFree.of_bodySF (plainFor_of_name pn_java_lang_String) hisR ?_
  intro p e s m args below meth c s₁ Bd hml0 hP hK
  obtain ⟨rfl, hZ, hh⟩ := hP
  have hx := Bd.exec
  have hby := Bd.bytes
  have hml : c.maxLocals = 2 := hml0
  have hown : s.vm.findClass "java/lang/String" = some m.cls := findClass_of_methodNamed Bd.named
  have hnm := (name_of_methodNamed Bd.named Bd.method).1
  have X0 : Stand p l e ({ frames := 3, cells := 0, slots := 0, locals := 40 } : Room) s m #[(.ref o0), (.int (2 : Int32))] below meth c s₁ [] 0 0 := Stand.of_body Bd
  have e0 : s₁.heap = h0 := by rw [← hh, Bd.state]; rfl
  have N0 := Fr.nil n0
  show Go p e below (fun o U' => ∃ v L, o = .returned v ∧ Q30_32 Z o0 cb0 cb1 cb2 w_COMPACT_STRINGS f_o0_value kv v_SIOOBE_FORMATTER h0 n0 v U'.heap L ∧ FrameEnd s o U' L ({ frames := 3, cells := 0, slots := 0, locals := 40 } : Room).cells ({ frames := 3, cells := 0, slots := 0, locals := 40 } : Room).slots) (s₁.setTop (entryFrame m #[(.ref o0), (.int (2 : Int32))] 2))
  refine Go.of (fun _ k => castTop (ef_30l1_2 m o0) k) ?_
  show Go p e below _ (s₁.setTop (mkF m 0 #[.val (.ref o0), .val (.int (2 : Int32))] []))
  refine Go.of (fun _ k => XS.aloadN X0.here hx rfl (hb hby d30_0) rfl rfl k) ?_
  show Go p e below _ (s₁.setTop (mkF m 1 #[.val (.ref o0), .val (.int (2 : Int32))] [(.ref o0)]))
  obtain ⟨cq1, kq1, q1a, q1b, q1c⟩ := isOf hZ e0 E_o0
  obtain ⟨_, _, ⟨T1, L1, k1, n1⟩, -, X1, ⟨Lc1, hQ1, l1, y1, z1⟩, st1⟩ := X0.virtualBack hx (y := (⟨"java/lang/String", "isLatin1", "()Z"⟩ : MethodName)) (z := (⟨"java/lang/String", "isLatin1", "()Z"⟩ : MethodName)) hown (mvT hZ (hw _ (List.mem_of_getElem? (i := 171) rfl))) (mvT hZ (hw _ (List.mem_of_getElem? (i := 172) rfl))) (notFace_of_selects (args := #[]) (mvT hZ (hw _ (List.mem_of_getElem? (i := 174) rfl)))) (mvT hZ (hw _ (List.mem_of_getElem? (i := 174) rfl))) (mvT hZ (hw _ (List.mem_of_getElem? (i := 173) rfl))) (by decide) (backOf (W := 0) (rm31 l Z a0 hw [] o0 w_COMPACT_STRINGS h0 n0 Z0 S_COMPACT_STRINGS hc3_1 F_o0_coder) hZ (hw _ (List.mem_of_getElem? (i := 175) rfl)) (hw _ (List.mem_of_getElem? (i := 38) rfl)) (by decide) (by decide)) q1a q1c (g := (mkF m 1 #[.val (.ref o0), .val (.int (2 : Int32))] [(.ref o0)])) rfl (by rw [hml]; rfl) (Steps.refl _) (argsL := []) (rest := []) (lenOf pd_2 rfl) rfl (by show 2 * 0 + _ ≤ _; exact Nat.le_of_eq rfl) (hb hby d30_1) (fun _ _ => ⟨rfl, e0, (by decide : 0 + 0 ≤ _), (by decide : 0 + 0 ≤ _)⟩)
  dsimp only [Pt.U, Pt.locs, Pt.cells, Pt.slots] at X1 l1 y1 z1 st1 hQ1
  subst l1 y1 z1
  obtain ⟨rfl, Nq1, q1_0⟩ := hQ1
  have N1 := Fr.app N0 Nq1
  refine Go.tr st1 ?_
  show Go p e below _ (T1.setTop (mkF m 4 #[.val (.ref o0), .val (.int (2 : Int32))] [(.int (1 : Int32))]))
  refine Go.of (fun _ k => XS.ifNo X1.here hx rfl (hb hby d30_4) rfl ((if0 _ _).trans (feq (by decide : ¬ ((1 : Int32) = (0 : Int32)))).1) k) ?_
  show Go p e below _ (T1.setTop (mkF m 7 #[.val (.ref o0), .val (.int (2 : Int32))] []))
  refine Go.of (fun _ k => XS.aloadN X1.here hx rfl (hb hby d30_7) rfl rfl k) ?_
  show Go p e below _ (T1.setTop (mkF m 8 #[.val (.ref o0), .val (.int (2 : Int32))] [(.ref o0)]))
  obtain ⟨T2, X2, e2, st2⟩ := getF X1 hx hZ hown (host := "") (Or.inl (hw _ (List.mem_of_getElem? (i := 94) rfl))) Via.refl q1_0 F_o0_value (g := (mkF m 8 #[.val (.ref o0), .val (.int (2 : Int32))] [(.ref o0)])) rfl rfl (hb hby d30_8)
  refine Go.of st2 ?_
  show Go p e below _ (T2.setTop (mkF m 11 #[.val (.ref o0), .val (.int (2 : Int32))] [(.ref f_o0_value)]))
  refine Go.of (fun _ k => XS.iloadN X2.here hx rfl (hb hby d30_11) rfl  k) ?_
  show Go p e below _ (T2.setTop (mkF m 12 #[.val (.ref o0), .val (.int (2 : Int32))] [(.int (2 : Int32)), (.ref f_o0_value)]))
  obtain ⟨_, _, ⟨T3, L3, k3, n3⟩, -, X3, ⟨Lc3, hQ3, l3, y3, z3⟩, st3⟩ := Jvm.LawKit.callS X2 hx (y := (⟨"java/lang/StringLatin1", "charAt", "([BI)C"⟩ : MethodName)) hown (mvT hZ (hw _ (List.mem_of_getElem? (i := 176) rfl))) (mvT hZ (hw _ (List.mem_of_getElem? (i := 177) rfl))) (mvT hZ (hw _ (List.mem_of_getElem? (i := 178) rfl))) (mvT hZ (hw _ (List.mem_of_getElem? (i := 179) rfl))) (by decide) (backOf (W := 0) (rm32_32 l Z a0 hw [] f_o0_value cb0 cb1 cb2 kv v_SIOOBE_FORMATTER h0 n0 Z0 V_f_o0_value S_SIOOBE_FORMATTER hr_v_SIOOBE_FORMATTER) hZ (hw _ (List.mem_of_getElem? (i := 179) rfl)) (hw _ (List.mem_of_getElem? (i := 178) rfl)) (by decide) (by decide)) (g := (mkF m 12 #[.val (.ref o0), .val (.int (2 : Int32))] [(.int (2 : Int32)), (.ref f_o0_value)])) rfl (by rw [hml]; rfl) (argsL := [(.ref f_o0_value), (.int (2 : Int32))]) (rest := []) (lenOf pd_19 rfl) rfl (by show 2 * 0 + _ ≤ _; exact Nat.le_of_eq rfl) (hb hby d30_12) (fun _ _ => ⟨rfl, e2, (by decide : 0 + 0 ≤ _), (by decide : 0 + 0 ≤ _)⟩)
  dsimp only [Pt.U, Pt.locs, Pt.cells, Pt.slots] at X3 l3 y3 z3 st3 hQ3
  subst l3 y3 z3
  obtain ⟨rfl, Nq3, q3_0⟩ := hQ3
  have N3 := Fr.app N1 Nq3
  refine Go.of st3 ?_
  show Go p e below _ (T3.setTop (mkF m 15 #[.val (.ref o0), .val (.int (2 : Int32))] [(.int (nar .char ((cb2 &&& (255 : Int32)).toUInt32.toUInt16.toUInt32.toInt32)))]))
  obtain ⟨fs, hr, hrun, hended, hW, hsame⟩ := X3.leave (v := some (.int (nar .char (nar .char ((cb2 &&& (255 : Int32)).toUInt32.toUInt16.toUInt32.toInt32))))) (fun h => by rw [Bd.returns] at h; cases h)
  refine Go.mk _ _ ?_ hrun hended ⟨_, _, rfl, ?_, ⟨_, rfl⟩, hW, hsame.mono (by decide) (by decide)⟩
  · exact retN X3 hx (t := .char) Bd.returns (by simp) (hb hby d30_15) hr
  · show Q30_32 Z o0 cb0 cb1 cb2 w_COMPACT_STRINGS f_o0_value kv v_SIOOBE_FORMATTER h0 n0 _ T3.heap _
    rw [q3_0]
    exact ⟨rfl, N3, rfl⟩
def own_EL : List (String × Nat) := [("org/hourbook/calendar/HourEnding", 24)]
theorem own_ew {Z : State} {a0 : Array Value} (hw : ∀ d ∈ tables_1, d.before a0 Z = true) : EW Z a0 own_EL := EW.cons (hw _ (List.mem_of_getElem? (i := 74) rfl)) (by decide) EW.nil
theorem own_wS {Z : State} {a0 : Array Value} (hw : ∀ d ∈ tables_1, d.before a0 Z = true) : ∀ a ∈ Bundle.stringAtoms, a.before a0 Z = true := fun d hd => by
  simp only [Bundle.stringAtoms, List.mem_cons, List.not_mem_nil, or_false] at hd
  rcases hd with rfl | rfl | rfl | rfl | rfl | rfl | rfl
  · exact (hw _ (List.mem_of_getElem? (i := 38) rfl))
  · exact (hw _ (List.mem_of_getElem? (i := 75) rfl))
  · exact (hw _ (List.mem_of_getElem? (i := 39) rfl))
  · exact (hw _ (List.mem_of_getElem? (i := 76) rfl))
  · exact (hw _ (List.mem_of_getElem? (i := 77) rfl))
  · exact (hw _ (List.mem_of_getElem? (i := 78) rfl))
  · exact (hw _ (List.mem_of_getElem? (i := 79) rfl))
theorem d2_0 : decode jdk_30_method_1_code 0 = .ok (.aload_n 0, 1) := by decide +kernel
theorem d2_1 : decode jdk_30_method_1_code 1 = .ok (.invokespecial 1, 3) := by decide +kernel
theorem d2_4 : decode jdk_30_method_1_code 4 = .ok (.return_, 1) := by decide +kernel
theorem pn_java_lang_Record : plainName "java/lang/Record" = true := by first | (simp [plainName, overriddenIn]; done) | decide +kernel
theorem ef_2 (m : MethodId) (x0 : Addr) : entryFrame m #[(.ref x0)] 1 = mkF m 0 #[.val (.ref x0)] [] := by first | (simp [entryFrame, mkF, argsToLocals, Value.category]; done) | rfl
def Q2 (Z : State) (o0 : Addr) (h0 : Heap) (n0 : Nat) (v : Option Value) (h : Heap) (L : List Loc) : Prop := v = none ∧ Fr n0 L ∧ h = h0
set_option maxRecDepth 65536 in
set_option maxHeartbeats 40000000 in
theorem rm2 (l : Launch) (Z : State) (a0 : Array Value) (hw : ∀ d ∈ tables_1, d.before a0 Z = true) (ws : List Jvm.Cond) (o0 : Addr) (h0 : Heap) (n0 : Nat) (Z0 : n0 ≤ h0.size) :
    MetFree l (⟨"java/lang/Record", "<init>", "()V"⟩ : MethodName) (head1 (Jvm.Cond.code (⟨"java/lang/Record", "<init>", "()V"⟩ : MethodName) jdk_30_method_1_code 1 none :: ws) ({ frames := 1, cells := 0, slots := 0, locals := 12 } : Room)) (fun a U => a = #[(.ref o0)] ∧ Z.Warmed39 U.vm ∧ U.heap = h0) (fun _ _ _ _ _ => True) (fun _ U o U' => ∃ v L, o = .returned v ∧ Q2 Z o0 h0 n0 v U'.heap L ∧ FrameEnd U o U' L ({ frames := 1, cells := 0, slots := 0, locals := 12 } : Room).cells ({ frames := 1, cells := 0, slots := 0, locals := 12 } : Room).slots) := by
  refine MetFree.of_bodySF (plainFor_of_name pn_java_lang_Record) hisR ?_
  intro p e s m args below meth c s₁ Bd hml0 hP hK
  obtain ⟨rfl, hZ, hh⟩ := hP
  have hx := Bd.exec
  have hby := Bd.bytes
  have hml : c.maxLocals = 1 := hml0
  have hown : s.vm.findClass "java/lang/Record" = some m.cls := findClass_of_methodNamed Bd.named
  have hnm := (name_of_methodNamed Bd.named Bd.method).1
  have X0 : Stand p l e ({ frames := 1, cells := 0, slots := 0, locals := 12 } : Room) s m #[(.ref o0)] below meth c s₁ [] 0 0 := Stand.of_body Bd
  have e0 : s₁.heap = h0 := by rw [← hh, Bd.state]; rfl
  have N0 := Fr.nil n0
  show Go p e below (fun o U' => ∃ v L, o = .returned v ∧ Q2 Z o0 h0 n0 v U'.heap L ∧ FrameEnd s o U' L ({ frames := 1, cells := 0, slots := 0, locals := 12 } : Room).cells ({ frames := 1, cells := 0, slots := 0, locals := 12 } : Room).slots) (s₁.setTop (entryFrame m #[(.ref o0)] 1))
  refine Go.of (fun _ k => castTop (ef_2 m o0) k) ?_
  show Go p e below _ (s₁.setTop (mkF m 0 #[.val (.ref o0)] []))
  refine Go.of (fun _ k => XS.aloadN X0.here hx rfl (hb hby d2_0) rfl rfl k) ?_
  show Go p e below _ (s₁.setTop (mkF m 1 #[.val (.ref o0)] [(.ref o0)]))
  obtain ⟨T1, X1, e1, st1⟩ := initO X0 hx hZ hown (hw _ (List.mem_of_getElem? (i := 12) rfl)) (hw _ (List.mem_of_getElem? (i := 13) rfl)) (hw _ (List.mem_of_getElem? (i := 14) rfl)) e0 (g := (mkF m 1 #[.val (.ref o0)] [(.ref o0)])) rfl (by rw [hml]; rfl) rfl (hb hby d2_1) (by decide) (W := 0) (by show 2 * 0 + _ ≤ _; exact Nat.le_of_eq rfl) (by decide)
  refine Go.of st1 ?_
  show Go p e below _ (T1.setTop (mkF m 4 #[.val (.ref o0)] []))
  obtain ⟨fs, hr, hrun, hended, hW, hsame⟩ := X1.leave (v := none) (fun _ => rfl)
  refine Go.mk _ _ ?_ hrun hended ⟨_, _, rfl, ?_, ⟨_, rfl⟩, hW, hsame.mono (by decide) (by decide)⟩
  · exact X1.returnOut hx Bd.returns (hb hby d2_4) hr
  · show Q2 Z o0 h0 n0 _ T1.heap _
    rw [e1]
    exact ⟨rfl, N0, rfl⟩
theorem d1_0 : decode prog_6_method_1_code 0 = .ok (.aload_n 0, 1) := by decide +kernel
theorem d1_1 : decode prog_6_method_1_code 1 = .ok (.invokespecial 1, 3) := by decide +kernel
theorem pd_20 : parseMethodDescriptor "()V" = some ⟨[], none⟩ := by decide +kernel
theorem d1_4 : decode prog_6_method_1_code 4 = .ok (.aload_n 0, 1) := by decide +kernel
theorem d1_5 : decode prog_6_method_1_code 5 = .ok (.iload_n 1, 1) := by decide +kernel
theorem d1_6 : decode prog_6_method_1_code 6 = .ok (.putfield 7, 3) := by decide +kernel
theorem d1_9 : decode prog_6_method_1_code 9 = .ok (.aload_n 0, 1) := by decide +kernel
theorem d1_10 : decode prog_6_method_1_code 10 = .ok (.iload_n 2, 1) := by decide +kernel
theorem d1_11 : decode prog_6_method_1_code 11 = .ok (.putfield 13, 3) := by decide +kernel
theorem d1_14 : decode prog_6_method_1_code 14 = .ok (.return_, 1) := by decide +kernel
theorem pn_org_hourbook_calendar_HourEnding : plainName "org/hourbook/calendar/HourEnding" = true := by first | (simp [plainName, overriddenIn]; done) | decide +kernel
theorem ef_1l2_0 (m : MethodId) (x0 : Addr) (x1 : Int32) : entryFrame m #[(.ref x0), (.int x1), (.int (0 : Int32))] 3 = mkF m 0 #[.val (.ref x0), .val (.int x1), .val (.int (0 : Int32))] [] := by first | (simp [entryFrame, mkF, argsToLocals, Value.category]; done) | rfl
def Q1_0 (Z : State) (o0 : Addr) (p1 : Int32) (u_o0_value : Value) (u_o0_repeated : Value) (h0 : Heap) (n0 : Nat) (v : Option Value) (h : Heap) (L : List Loc) : Prop := v = none ∧ Fr n0 L ∧ Keep h0 h [o0] ∧ Exa Z h o0 "org/hourbook/calendar/HourEnding" ∧ Fld Z h o0 "org/hourbook/calendar/HourEnding" "repeated" "Z" (.int (0 : Int32)) ∧ Fld Z h o0 "org/hourbook/calendar/HourEnding" "value" "I" (.int p1)
set_option maxRecDepth 65536 in
set_option maxHeartbeats 40000000 in
theorem rm1_0 (l : Launch) (Z : State) (a0 : Array Value) (hw : ∀ d ∈ tables_1, d.before a0 Z = true) (ws : List Jvm.Cond) (o0 : Addr) (p1 : Int32) (u_o0_value : Value) (u_o0_repeated : Value) (h0 : Heap) (n0 : Nat) (Z0 : n0 ≤ h0.size) (E_o0 : Exa Z h0 o0 "org/hourbook/calendar/HourEnding") (F_o0_value : Fld Z h0 o0 "org/hourbook/calendar/HourEnding" "value" "I" u_o0_value) (g_o0 : n0 ≤ o0) (F_o0_repeated : Fld Z h0 o0 "org/hourbook/calendar/HourEnding" "repeated" "Z" u_o0_repeated) :
    MetFree l (⟨"org/hourbook/calendar/HourEnding", "<init>", "(IZ)V"⟩ : MethodName) (head1 (Jvm.Cond.code (⟨"org/hourbook/calendar/HourEnding", "<init>", "(IZ)V"⟩ : MethodName) prog_6_method_1_code 3 none :: ws) ({ frames := 2, cells := 0, slots := 0, locals := 24 } : Room)) (fun a U => a = #[(.ref o0), (.int p1), (.int (0 : Int32))] ∧ Z.Warmed39 U.vm ∧ U.heap = h0) (fun _ _ _ _ _ => True) (fun _ U o U' => ∃ v L, o = .returned v ∧ Q1_0 Z o0 p1 u_o0_value u_o0_repeated h0 n0 v U'.heap L ∧ FrameEnd U o U' L ({ frames := 2, cells := 0, slots := 0, locals := 24 } : Room).cells ({ frames := 2, cells := 0, slots := 0, locals := 24 } : Room).slots) := by
  refine MetFree.of_bodySF (plainFor_of_name pn_org_hourbook_calendar_HourEnding) hisR ?_
  intro p e s m args below meth c s₁ Bd hml0 hP hK
  obtain ⟨rfl, hZ, hh⟩ := hP
  have hx := Bd.exec
  have hby := Bd.bytes
  have hml : c.maxLocals = 3 := hml0
  have hown : s.vm.findClass "org/hourbook/calendar/HourEnding" = some m.cls := findClass_of_methodNamed Bd.named
  have hnm := (name_of_methodNamed Bd.named Bd.method).1
  have X0 : Stand p l e ({ frames := 2, cells := 0, slots := 0, locals := 24 } : Room) s m #[(.ref o0), (.int p1), (.int (0 : Int32))] below meth c s₁ [] 0 0 := Stand.of_body Bd
  have e0 : s₁.heap = h0 := by rw [← hh, Bd.state]; rfl
  have N0 := Fr.nil n0
  show Go p e below (fun o U' => ∃ v L, o = .returned v ∧ Q1_0 Z o0 p1 u_o0_value u_o0_repeated h0 n0 v U'.heap L ∧ FrameEnd s o U' L ({ frames := 2, cells := 0, slots := 0, locals := 24 } : Room).cells ({ frames := 2, cells := 0, slots := 0, locals := 24 } : Room).slots) (s₁.setTop (entryFrame m #[(.ref o0), (.int p1), (.int (0 : Int32))] 3))
  refine Go.of (fun _ k => castTop (ef_1l2_0 m o0 p1) k) ?_
  show Go p e below _ (s₁.setTop (mkF m 0 #[.val (.ref o0), .val (.int p1), .val (.int (0 : Int32))] []))
  refine Go.of (fun _ k => XS.aloadN X0.here hx rfl (hb hby d1_0) rfl rfl k) ?_
  show Go p e below _ (s₁.setTop (mkF m 1 #[.val (.ref o0), .val (.int p1), .val (.int (0 : Int32))] [(.ref o0)]))
  obtain ⟨_, _, ⟨T1, L1, k1, n1⟩, -, X1, ⟨Lc1, hQ1, l1, y1, z1⟩, st1⟩ := X0.specialBack hx (y := (⟨"java/lang/Record", "<init>", "()V"⟩ : MethodName)) rfl hown (mvT hZ (hw _ (List.mem_of_getElem? (i := 7) rfl))) (mvT hZ (hw _ (List.mem_of_getElem? (i := 8) rfl))) (mvT hZ (hw _ (List.mem_of_getElem? (i := 11) rfl))) (by decide) (backOf (W := 0) (rm2 l Z a0 hw [] o0 h0 n0 Z0 ) hZ (hw _ (List.mem_of_getElem? (i := 11) rfl)) (hw _ (List.mem_of_getElem? (i := 10) rfl)) (by decide) (by decide)) (g := (mkF m 1 #[.val (.ref o0), .val (.int p1), .val (.int (0 : Int32))] [(.ref o0)])) rfl (by rw [hml]; rfl) (Steps.refl _) (a := o0) (argsL := []) (rest := []) (lenOf pd_20 rfl) rfl (by show 2 * 0 + _ ≤ _; exact Nat.le_of_eq rfl) (hb hby d1_1) (fun _ _ => ⟨rfl, e0, (by decide : 0 + 0 ≤ _), (by decide : 0 + 0 ≤ _)⟩)
  dsimp only [Pt.U, Pt.locs, Pt.cells, Pt.slots] at X1 l1 y1 z1 st1 hQ1
  subst l1 y1 z1
  obtain ⟨rfl, Nq1, q1_0⟩ := hQ1
  have N1 := Fr.app N0 Nq1
  refine Go.tr st1 ?_
  show Go p e below _ (T1.setTop (mkF m 4 #[.val (.ref o0), .val (.int p1), .val (.int (0 : Int32))] []))
  refine Go.of (fun _ k => XS.aloadN X1.here hx rfl (hb hby d1_4) rfl rfl k) ?_
  show Go p e below _ (T1.setTop (mkF m 5 #[.val (.ref o0), .val (.int p1), .val (.int (0 : Int32))] [(.ref o0)]))
  refine Go.of (fun _ k => XS.iloadN X1.here hx rfl (hb hby d1_5) rfl  k) ?_
  show Go p e below _ (T1.setTop (mkF m 6 #[.val (.ref o0), .val (.int p1), .val (.int (0 : Int32))] [(.int p1), (.ref o0)]))
  obtain ⟨T2, h2, X2, e2, W2, st2⟩ := putF X1 hx hZ hown (host := "") (Or.inl (hw _ (List.mem_of_getElem? (i := 15) rfl))) Via.refl q1_0 F_o0_value E_o0 (Or.inr ⟨(hw _ (List.mem_of_getElem? (i := 16) rfl)), rfl, hnm⟩) (hw _ (List.mem_of_getElem? (i := 2) rfl)) (ty := .int) (by decide) rfl rfl (g := (mkF m 6 #[.val (.ref o0), .val (.int p1), .val (.int (0 : Int32))] [(.int p1), (.ref o0)])) rfl rfl (hb hby d1_6)
  refine Go.of st2 ?_
  have N2 := Fr.snoc X2 N1 g_o0
  have K2 : Keep h0 h2 [o0] := ((Keep.refl h0 [o0])).wr W2 (Or.inl (List.mem_of_getElem? (i := 0) rfl))
  have Z2 : n0 ≤ h2.size := Nat.le_trans Z0 (Keep.of_wr W2).1
  have f3 : Fld Z h2 o0 "org/hourbook/calendar/HourEnding" "value" "I" (.int p1) := Fld.same W2 F_o0_value
  show Go p e below _ (T2.setTop (mkF m 9 #[.val (.ref o0), .val (.int p1), .val (.int (0 : Int32))] []))
  refine Go.of (fun _ k => XS.aloadN X2.here hx rfl (hb hby d1_9) rfl rfl k) ?_
  show Go p e below _ (T2.setTop (mkF m 10 #[.val (.ref o0), .val (.int p1), .val (.int (0 : Int32))] [(.ref o0)]))
  refine Go.of (fun _ k => XS.iloadN X2.here hx rfl (hb hby d1_10) rfl  k) ?_
  show Go p e below _ (T2.setTop (mkF m 11 #[.val (.ref o0), .val (.int p1), .val (.int (0 : Int32))] [(.int (0 : Int32)), (.ref o0)]))
  have c4 : Fld Z h2 o0 "org/hourbook/calendar/HourEnding" "repeated" "Z" u_o0_repeated := (Fld.other W2 F_o0_repeated (Or.inr (slot_ne (Or.inr (hw _ (List.mem_of_getElem? (i := 18) rfl))) (Or.inr (hw _ (List.mem_of_getElem? (i := 16) rfl))) (by decide) (t := .boolean) (t' := .int) (by decide) (by decide))))
  have c5 : Exa Z h2 o0 "org/hourbook/calendar/HourEnding" := (Exa.wr W2 E_o0)
  obtain ⟨T6, h6, X6, e6, W6, st6⟩ := putFN X2 hx hZ hown (hw _ (List.mem_of_getElem? (i := 17) rfl)) Via.refl e2 c4 c5 (Or.inr ⟨(hw _ (List.mem_of_getElem? (i := 18) rfl)), rfl, hnm⟩) (hw _ (List.mem_of_getElem? (i := 2) rfl)) (ty := .boolean) (v' := .int (0 : Int32)) (by decide) rfl rfl (g := (mkF m 11 #[.val (.ref o0), .val (.int p1), .val (.int (0 : Int32))] [(.int (0 : Int32)), (.ref o0)])) rfl rfl (hb hby d1_11)
  refine Go.of st6 ?_
  have N6 := Fr.snoc X6 N2 g_o0
  have K6 : Keep h0 h6 [o0] := (K2).wr W6 (Or.inl (List.mem_of_getElem? (i := 0) rfl))
  have Z6 : n0 ≤ h6.size := Nat.le_trans Z2 (Keep.of_wr W6).1
  have f7 : Fld Z h6 o0 "org/hourbook/calendar/HourEnding" "repeated" "Z" (.int (0 : Int32)) := Fld.same W6 c4
  show Go p e below _ (T6.setTop (mkF m 14 #[.val (.ref o0), .val (.int p1), .val (.int (0 : Int32))] []))
  have c9 : Exa Z h6 o0 "org/hourbook/calendar/HourEnding" := (Exa.wr W6 c5)
  have c10 : Fld Z h6 o0 "org/hourbook/calendar/HourEnding" "value" "I" (.int p1) := (Fld.other W6 f3 (Or.inr (slot_ne (Or.inr (hw _ (List.mem_of_getElem? (i := 16) rfl))) (Or.inr (hw _ (List.mem_of_getElem? (i := 18) rfl))) (by decide) (t := .int) (t' := .boolean) (by decide) (by decide))))
  obtain ⟨fs, hr, hrun, hended, hW, hsame⟩ := X6.leave (v := none) (fun _ => rfl)
  refine Go.mk _ _ ?_ hrun hended ⟨_, _, rfl, ?_, ⟨_, rfl⟩, hW, hsame.mono (by decide) (by decide)⟩
  · exact X6.returnOut hx Bd.returns (hb hby d1_14) hr
  · show Q1_0 Z o0 p1 u_o0_value u_o0_repeated h0 n0 _ T6.heap _
    rw [e6]
    exact ⟨rfl, N6, K6, c9, f7, c10⟩
theorem ef_1l2_1 (m : MethodId) (x0 : Addr) (x1 : Int32) : entryFrame m #[(.ref x0), (.int x1), (.int (1 : Int32))] 3 = mkF m 0 #[.val (.ref x0), .val (.int x1), .val (.int (1 : Int32))] [] := by first | (simp [entryFrame, mkF, argsToLocals, Value.category]; done) | rfl
def Q1_1 (Z : State) (o0 : Addr) (p1 : Int32) (u_o0_value : Value) (u_o0_repeated : Value) (h0 : Heap) (n0 : Nat) (v : Option Value) (h : Heap) (L : List Loc) : Prop := v = none ∧ Fr n0 L ∧ Keep h0 h [o0] ∧ Exa Z h o0 "org/hourbook/calendar/HourEnding" ∧ Fld Z h o0 "org/hourbook/calendar/HourEnding" "repeated" "Z" (.int (1 : Int32)) ∧ Fld Z h o0 "org/hourbook/calendar/HourEnding" "value" "I" (.int p1)
set_option maxRecDepth 65536 in
set_option maxHeartbeats 40000000 in
theorem rm1_1 (l : Launch) (Z : State) (a0 : Array Value) (hw : ∀ d ∈ tables_1, d.before a0 Z = true) (ws : List Jvm.Cond) (o0 : Addr) (p1 : Int32) (u_o0_value : Value) (u_o0_repeated : Value) (h0 : Heap) (n0 : Nat) (Z0 : n0 ≤ h0.size) (E_o0 : Exa Z h0 o0 "org/hourbook/calendar/HourEnding") (F_o0_value : Fld Z h0 o0 "org/hourbook/calendar/HourEnding" "value" "I" u_o0_value) (g_o0 : n0 ≤ o0) (F_o0_repeated : Fld Z h0 o0 "org/hourbook/calendar/HourEnding" "repeated" "Z" u_o0_repeated) :
    MetFree l (⟨"org/hourbook/calendar/HourEnding", "<init>", "(IZ)V"⟩ : MethodName) (head1 (Jvm.Cond.code (⟨"org/hourbook/calendar/HourEnding", "<init>", "(IZ)V"⟩ : MethodName) prog_6_method_1_code 3 none :: ws) ({ frames := 2, cells := 0, slots := 0, locals := 24 } : Room)) (fun a U => a = #[(.ref o0), (.int p1), (.int (1 : Int32))] ∧ Z.Warmed39 U.vm ∧ U.heap = h0) (fun _ _ _ _ _ => True) (fun _ U o U' => ∃ v L, o = .returned v ∧ Q1_1 Z o0 p1 u_o0_value u_o0_repeated h0 n0 v U'.heap L ∧ FrameEnd U o U' L ({ frames := 2, cells := 0, slots := 0, locals := 24 } : Room).cells ({ frames := 2, cells := 0, slots := 0, locals := 24 } : Room).slots) := by
  refine MetFree.of_bodySF (plainFor_of_name pn_org_hourbook_calendar_HourEnding) hisR ?_
  intro p e s m args below meth c s₁ Bd hml0 hP hK
  obtain ⟨rfl, hZ, hh⟩ := hP
  have hx := Bd.exec
  have hby := Bd.bytes
  have hml : c.maxLocals = 3 := hml0
  have hown : s.vm.findClass "org/hourbook/calendar/HourEnding" = some m.cls := findClass_of_methodNamed Bd.named
  have hnm := (name_of_methodNamed Bd.named Bd.method).1
  have X0 : Stand p l e ({ frames := 2, cells := 0, slots := 0, locals := 24 } : Room) s m #[(.ref o0), (.int p1), (.int (1 : Int32))] below meth c s₁ [] 0 0 := Stand.of_body Bd
  have e0 : s₁.heap = h0 := by rw [← hh, Bd.state]; rfl
  have N0 := Fr.nil n0
  show Go p e below (fun o U' => ∃ v L, o = .returned v ∧ Q1_1 Z o0 p1 u_o0_value u_o0_repeated h0 n0 v U'.heap L ∧ FrameEnd s o U' L ({ frames := 2, cells := 0, slots := 0, locals := 24 } : Room).cells ({ frames := 2, cells := 0, slots := 0, locals := 24 } : Room).slots) (s₁.setTop (entryFrame m #[(.ref o0), (.int p1), (.int (1 : Int32))] 3))
  refine Go.of (fun _ k => castTop (ef_1l2_1 m o0 p1) k) ?_
  show Go p e below _ (s₁.setTop (mkF m 0 #[.val (.ref o0), .val (.int p1), .val (.int (1 : Int32))] []))
  refine Go.of (fun _ k => XS.aloadN X0.here hx rfl (hb hby d1_0) rfl rfl k) ?_
  show Go p e below _ (s₁.setTop (mkF m 1 #[.val (.ref o0), .val (.int p1), .val (.int (1 : Int32))] [(.ref o0)]))
  obtain ⟨_, _, ⟨T1, L1, k1, n1⟩, -, X1, ⟨Lc1, hQ1, l1, y1, z1⟩, st1⟩ := X0.specialBack hx (y := (⟨"java/lang/Record", "<init>", "()V"⟩ : MethodName)) rfl hown (mvT hZ (hw _ (List.mem_of_getElem? (i := 7) rfl))) (mvT hZ (hw _ (List.mem_of_getElem? (i := 8) rfl))) (mvT hZ (hw _ (List.mem_of_getElem? (i := 11) rfl))) (by decide) (backOf (W := 0) (rm2 l Z a0 hw [] o0 h0 n0 Z0 ) hZ (hw _ (List.mem_of_getElem? (i := 11) rfl)) (hw _ (List.mem_of_getElem? (i := 10) rfl)) (by decide) (by decide)) (g := (mkF m 1 #[.val (.ref o0), .val (.int p1), .val (.int (1 : Int32))] [(.ref o0)])) rfl (by rw [hml]; rfl) (Steps.refl _) (a := o0) (argsL := []) (rest := []) (lenOf pd_20 rfl) rfl (by show 2 * 0 + _ ≤ _; exact Nat.le_of_eq rfl) (hb hby d1_1) (fun _ _ => ⟨rfl, e0, (by decide : 0 + 0 ≤ _), (by decide : 0 + 0 ≤ _)⟩)
  dsimp only [Pt.U, Pt.locs, Pt.cells, Pt.slots] at X1 l1 y1 z1 st1 hQ1
  subst l1 y1 z1
  obtain ⟨rfl, Nq1, q1_0⟩ := hQ1
  have N1 := Fr.app N0 Nq1
  refine Go.tr st1 ?_
  show Go p e below _ (T1.setTop (mkF m 4 #[.val (.ref o0), .val (.int p1), .val (.int (1 : Int32))] []))
  refine Go.of (fun _ k => XS.aloadN X1.here hx rfl (hb hby d1_4) rfl rfl k) ?_
  show Go p e below _ (T1.setTop (mkF m 5 #[.val (.ref o0), .val (.int p1), .val (.int (1 : Int32))] [(.ref o0)]))
  refine Go.of (fun _ k => XS.iloadN X1.here hx rfl (hb hby d1_5) rfl  k) ?_
  show Go p e below _ (T1.setTop (mkF m 6 #[.val (.ref o0), .val (.int p1), .val (.int (1 : Int32))] [(.int p1), (.ref o0)]))
  obtain ⟨T2, h2, X2, e2, W2, st2⟩ := putF X1 hx hZ hown (host := "") (Or.inl (hw _ (List.mem_of_getElem? (i := 15) rfl))) Via.refl q1_0 F_o0_value E_o0 (Or.inr ⟨(hw _ (List.mem_of_getElem? (i := 16) rfl)), rfl, hnm⟩) (hw _ (List.mem_of_getElem? (i := 2) rfl)) (ty := .int) (by decide) rfl rfl (g := (mkF m 6 #[.val (.ref o0), .val (.int p1), .val (.int (1 : Int32))] [(.int p1), (.ref o0)])) rfl rfl (hb hby d1_6)
  refine Go.of st2 ?_
  have N2 := Fr.snoc X2 N1 g_o0
  have K2 : Keep h0 h2 [o0] := ((Keep.refl h0 [o0])).wr W2 (Or.inl (List.mem_of_getElem? (i := 0) rfl))
  have Z2 : n0 ≤ h2.size := Nat.le_trans Z0 (Keep.of_wr W2).1
  have f3 : Fld Z h2 o0 "org/hourbook/calendar/HourEnding" "value" "I" (.int p1) := Fld.same W2 F_o0_value
  show Go p e below _ (T2.setTop (mkF m 9 #[.val (.ref o0), .val (.int p1), .val (.int (1 : Int32))] []))
  refine Go.of (fun _ k => XS.aloadN X2.here hx rfl (hb hby d1_9) rfl rfl k) ?_
  show Go p e below _ (T2.setTop (mkF m 10 #[.val (.ref o0), .val (.int p1), .val (.int (1 : Int32))] [(.ref o0)]))
  refine Go.of (fun _ k => XS.iloadN X2.here hx rfl (hb hby d1_10) rfl  k) ?_
  show Go p e below _ (T2.setTop (mkF m 11 #[.val (.ref o0), .val (.int p1), .val (.int (1 : Int32))] [(.int (1 : Int32)), (.ref o0)]))
  have c4 : Fld Z h2 o0 "org/hourbook/calendar/HourEnding" "repeated" "Z" u_o0_repeated := (Fld.other W2 F_o0_repeated (Or.inr (slot_ne (Or.inr (hw _ (List.mem_of_getElem? (i := 18) rfl))) (Or.inr (hw _ (List.mem_of_getElem? (i := 16) rfl))) (by decide) (t := .boolean) (t' := .int) (by decide) (by decide))))
  have c5 : Exa Z h2 o0 "org/hourbook/calendar/HourEnding" := (Exa.wr W2 E_o0)
  obtain ⟨T6, h6, X6, e6, W6, st6⟩ := putFN X2 hx hZ hown (hw _ (List.mem_of_getElem? (i := 17) rfl)) Via.refl e2 c4 c5 (Or.inr ⟨(hw _ (List.mem_of_getElem? (i := 18) rfl)), rfl, hnm⟩) (hw _ (List.mem_of_getElem? (i := 2) rfl)) (ty := .boolean) (v' := .int (1 : Int32)) (by decide) rfl rfl (g := (mkF m 11 #[.val (.ref o0), .val (.int p1), .val (.int (1 : Int32))] [(.int (1 : Int32)), (.ref o0)])) rfl rfl (hb hby d1_11)
  refine Go.of st6 ?_
  have N6 := Fr.snoc X6 N2 g_o0
  have K6 : Keep h0 h6 [o0] := (K2).wr W6 (Or.inl (List.mem_of_getElem? (i := 0) rfl))
  have Z6 : n0 ≤ h6.size := Nat.le_trans Z2 (Keep.of_wr W6).1
  have f7 : Fld Z h6 o0 "org/hourbook/calendar/HourEnding" "repeated" "Z" (.int (1 : Int32)) := Fld.same W6 c4
  show Go p e below _ (T6.setTop (mkF m 14 #[.val (.ref o0), .val (.int p1), .val (.int (1 : Int32))] []))
  have c9 : Exa Z h6 o0 "org/hourbook/calendar/HourEnding" := (Exa.wr W6 c5)
  have c10 : Fld Z h6 o0 "org/hourbook/calendar/HourEnding" "value" "I" (.int p1) := (Fld.other W6 f3 (Or.inr (slot_ne (Or.inr (hw _ (List.mem_of_getElem? (i := 16) rfl))) (Or.inr (hw _ (List.mem_of_getElem? (i := 18) rfl))) (by decide) (t := .int) (t' := .boolean) (by decide) (by decide))))
  obtain ⟨fs, hr, hrun, hended, hW, hsame⟩ := X6.leave (v := none) (fun _ => rfl)
  refine Go.mk _ _ ?_ hrun hended ⟨_, _, rfl, ?_, ⟨_, rfl⟩, hW, hsame.mono (by decide) (by decide)⟩
  · exact X6.returnOut hx Bd.returns (hb hby d1_14) hr
  · show Q1_1 Z o0 p1 u_o0_value u_o0_repeated h0 n0 _ T6.heap _
    rw [e6]
    exact ⟨rfl, N6, K6, c9, f7, c10⟩
theorem d4_0 : decode prog_6_method_2_code 0 = .ok (.aload_n 0, 1) := by decide +kernel
theorem d4_1 : decode prog_6_method_2_code 1 = .ok (.getfield 13, 3) := by decide +kernel
theorem d4_4 : decode prog_6_method_2_code 4 = .ok (.ifCond .eq 28, 3) := by decide +kernel
theorem d4_32 : decode prog_6_method_2_code 32 = .ok (.aload_n 0, 1) := by decide +kernel
theorem d4_33 : decode prog_6_method_2_code 33 = .ok (.getfield 7, 3) := by decide +kernel
theorem d4_36 : decode prog_6_method_2_code 36 = .ok (.invokestatic 33, 3) := by decide +kernel
theorem pd_21 : parseMethodDescriptor "(I)Ljava/lang/String;" = some ⟨[.int], some (.object "java/lang/String")⟩ := by decide +kernel
theorem d4_39 : decode prog_6_method_2_code 39 = .ok (.areturn, 1) := by decide +kernel
theorem ef_4 (m : MethodId) (x0 : Addr) : entryFrame m #[(.ref x0)] 1 = mkF m 0 #[.val (.ref x0)] [] := by first | (simp [entryFrame, mkF, argsToLocals, Value.category]; done) | rfl
def Q4_01 (Z : State) (o0 : Addr) (f_o0_value : Int32) (e83_18_36 : Int32) (w_COMPACT_STRINGS : Int32) (w_DigitOnes : Addr) (cl_w_DigitOnes : Cell) (h0 : Heap) (n0 : Nat) (v : Option Value) (h : Heap) (L : List Loc) : Prop := ∃ r : Addr, ∃ r1 : Addr, ∃ rk2 : ClassId, v = some (.ref r) ∧ Fr n0 L ∧ Keep h0 h [] ∧ (h0.size ≤ r ∧ n0 ≤ r) ∧ Exa Z h r "java/lang/String" ∧ Fld Z h r "java/lang/String" "coder" "B" (.int (0 : Int32)) ∧ Fld Z h r "java/lang/String" "value" "[B" (.ref r1) ∧ (h0.size ≤ r1 ∧ n0 ≤ r1) ∧ Arv Z h r1 rk2 .byte (1 : Int32) [(.int e83_18_36.toInt8.toInt32)] (.int (0 : Int32))
set_option maxRecDepth 65536 in
set_option maxHeartbeats 40000000 in
theorem rm4_01 (l : Launch) (Z : State) (a0 : Array Value) (hw : ∀ d ∈ tables_1, d.before a0 Z = true) (ws : List Jvm.Cond) (o0 : Addr) (f_o0_value : Int32) (e83_18_36 : Int32) (w_COMPACT_STRINGS : Int32) (w_DigitOnes : Addr) (cl_w_DigitOnes : Cell) (h0 : Heap) (n0 : Nat) (Z0 : n0 ≤ h0.size) (F_o0_repeated : Fld Z h0 o0 "org/hourbook/calendar/HourEnding" "repeated" "Z" (.int (0 : Int32))) (F_o0_value : Fld Z h0 o0 "org/hourbook/calendar/HourEnding" "value" "I" (.int f_o0_value)) (hc3_1_3 : ¬ (f_o0_value < (0 : Int32))) (hc24_1_3 : (-10 : Int32) < (-f_o0_value)) (S_COMPACT_STRINGS : Sta Z h0 "java/lang/String" "COMPACT_STRINGS" "Z" (.int w_COMPACT_STRINGS)) (hc8_3 : ¬ (w_COMPACT_STRINGS = (0 : Int32))) (hc25_4_3 : (-100 : Int32) < (-f_o0_value)) (S_DigitOnes : Sta Z h0 "java/lang/Integer" "DigitOnes" "[B" (.ref w_DigitOnes)) (Ar_w_DigitOnes : Arr Z h0 w_DigitOnes cl_w_DigitOnes .byte) (hin83_4_3 : ¬ ((-(-f_o0_value)) < 0 ∨ cl_w_DigitOnes.slots.size ≤ ((-(-f_o0_value))).toNatClampNeg)) (hat83_4_3 : cl_w_DigitOnes.slots[((-(-f_o0_value))).toNatClampNeg]? = some (.int e83_18_36)) (hc88_4_3 : ¬ ((-f_o0_value) < (-9 : Int32))) :
    MetFree l (⟨"org/hourbook/calendar/HourEnding", "label", "()Ljava/lang/String;"⟩ : MethodName) (head1 (Jvm.Cond.code (⟨"org/hourbook/calendar/HourEnding", "label", "()Ljava/lang/String;"⟩ : MethodName) prog_6_method_2_code 1 (some (.object "java/lang/String")) :: ws) ({ frames := 3, cells := 2, slots := 5, locals := 41 } : Room)) (fun a U => a = #[(.ref o0)] ∧ Z.Warmed39 U.vm ∧ U.heap = h0) (fun _ _ _ _ _ => True) (fun _ U o U' => ∃ v L, o = .returned v ∧ Q4_01 Z o0 f_o0_value e83_18_36 w_COMPACT_STRINGS w_DigitOnes cl_w_DigitOnes h0 n0 v U'.heap L ∧ FrameEnd U o U' L ({ frames := 3, cells := 2, slots := 5, locals := 41 } : Room).cells ({ frames := 3, cells := 2, slots := 5, locals := 41 } : Room).slots) := by
  refine MetFree.of_bodySF (plainFor_of_name pn_org_hourbook_calendar_HourEnding) hisR ?_
  intro p e s m args below meth c s₁ Bd hml0 hP hK
  obtain ⟨rfl, hZ, hh⟩ := hP
  have hx := Bd.exec
  have hby := Bd.bytes
  have hml : c.maxLocals = 1 := hml0
  have hown : s.vm.findClass "org/hourbook/calendar/HourEnding" = some m.cls := findClass_of_methodNamed Bd.named
  have hnm := (name_of_methodNamed Bd.named Bd.method).1
  have X0 : Stand p l e ({ frames := 3, cells := 2, slots := 5, locals := 41 } : Room) s m #[(.ref o0)] below meth c s₁ [] 0 0 := Stand.of_body Bd
  have e0 : s₁.heap = h0 := by rw [← hh, Bd.state]; rfl
  have N0 := Fr.nil n0
  show Go p e below (fun o U' => ∃ v L, o = .returned v ∧ Q4_01 Z o0 f_o0_value e83_18_36 w_COMPACT_STRINGS w_DigitOnes cl_w_DigitOnes h0 n0 v U'.heap L ∧ FrameEnd s o U' L ({ frames := 3, cells := 2, slots := 5, locals := 41 } : Room).cells ({ frames := 3, cells := 2, slots := 5, locals := 41 } : Room).slots) (s₁.setTop (entryFrame m #[(.ref o0)] 1))
  refine Go.of (fun _ k => castTop (ef_4 m o0) k) ?_
  show Go p e below _ (s₁.setTop (mkF m 0 #[.val (.ref o0)] []))
  refine Go.of (fun _ k => XS.aloadN X0.here hx rfl (hb hby d4_0) rfl rfl k) ?_
  show Go p e below _ (s₁.setTop (mkF m 1 #[.val (.ref o0)] [(.ref o0)]))
  obtain ⟨T1, X1, e1, st1⟩ := getF X0 hx hZ hown (host := "") (Or.inl (hw _ (List.mem_of_getElem? (i := 17) rfl))) Via.refl e0 F_o0_repeated (g := (mkF m 1 #[.val (.ref o0)] [(.ref o0)])) rfl rfl (hb hby d4_1)
  refine Go.of st1 ?_
  show Go p e below _ (T1.setTop (mkF m 4 #[.val (.ref o0)] [(.int (0 : Int32))]))
  refine Go.of (fun _ k => XS.ifYes X1.here hx rfl (pc0 := 4) (pc' := 32) rfl (hb hby d4_4) rfl ((if0 _ _).trans (teq (by decide : (0 : Int32) = (0 : Int32))).1) (by decide) (by decide) k) ?_
  show Go p e below _ (T1.setTop (mkF m 32 #[.val (.ref o0)] []))
  refine Go.of (fun _ k => XS.aloadN X1.here hx rfl (hb hby d4_32) rfl rfl k) ?_
  show Go p e below _ (T1.setTop (mkF m 33 #[.val (.ref o0)] [(.ref o0)]))
  obtain ⟨T2, X2, e2, st2⟩ := getF X1 hx hZ hown (host := "") (Or.inl (hw _ (List.mem_of_getElem? (i := 15) rfl))) Via.refl e1 F_o0_value (g := (mkF m 33 #[.val (.ref o0)] [(.ref o0)])) rfl rfl (hb hby d4_33)
  refine Go.of st2 ?_
  show Go p e below _ (T2.setTop (mkF m 36 #[.val (.ref o0)] [(.int f_o0_value)]))
  obtain ⟨_, _, ⟨T3, L3, k3, n3⟩, -, X3, ⟨Lc3, hQ3, l3, y3, z3⟩, st3⟩ := Jvm.LawKit.callS X2 hx (y := (⟨"java/lang/Integer", "toString", "(I)Ljava/lang/String;"⟩ : MethodName)) hown (mvT hZ (hw _ (List.mem_of_getElem? (i := 189) rfl))) (mvT hZ (hw _ (List.mem_of_getElem? (i := 190) rfl))) (mvT hZ (hw _ (List.mem_of_getElem? (i := 58) rfl))) (mvT hZ (hw _ (List.mem_of_getElem? (i := 191) rfl))) (by decide) (backOf (W := 0) (rm35_1 l Z a0 hw [] f_o0_value w_COMPACT_STRINGS e83_18_36 w_DigitOnes cl_w_DigitOnes h0 n0 Z0 hc3_1_3 hc24_1_3 S_COMPACT_STRINGS hc8_3 hc25_4_3 S_DigitOnes Ar_w_DigitOnes hin83_4_3 hat83_4_3 hc88_4_3) hZ (hw _ (List.mem_of_getElem? (i := 191) rfl)) (hw _ (List.mem_of_getElem? (i := 58) rfl)) (by decide) (by decide)) (g := (mkF m 36 #[.val (.ref o0)] [(.int f_o0_value)])) rfl (by rw [hml]; rfl) (argsL := [(.int f_o0_value)]) (rest := []) (lenOf pd_21 rfl) rfl (by show 2 * 0 + _ ≤ _; exact Nat.le_of_eq rfl) (hb hby d4_36) (fun _ _ => ⟨rfl, e2, (by decide : 0 + 2 ≤ _), (by decide : 0 + 5 ≤ _)⟩)
  dsimp only [Pt.U, Pt.locs, Pt.cells, Pt.slots] at X3 l3 y3 z3 st3 hQ3
  subst l3 y3 z3
  obtain ⟨r_3, r1_3, rk2_3, rfl, Nq3, q3_0, q3_1, q3_2, q3_3, q3_4, q3_5, q3_6⟩ := hQ3
  have N3 := Fr.app N0 Nq3
  refine Go.of st3 ?_
  have K3 : Keep h0 T3.heap [] := ((Keep.refl h0 [])).trans q3_0 all0
  have Z3 : n0 ≤ T3.heap.size := Nat.le_trans Z0 q3_0.1
  have g_r_3 : n0 ≤ r_3 := q3_1.2
  have sz_r_3 : h0.size ≤ r_3 := Nat.le_trans ((Keep.refl h0 [])).1 q3_1.1
  have g_r1_3 : n0 ≤ r1_3 := q3_5.2
  have sz_r1_3 : h0.size ≤ r1_3 := Nat.le_trans ((Keep.refl h0 [])).1 q3_5.1
  show Go p e below _ (T3.setTop (mkF m 39 #[.val (.ref o0)] [(.ref r_3)]))
  obtain ⟨fs, hr, hrun, hended, hW, hsame⟩ := X3.leave (v := some (.ref r_3)) (fun h => by rw [Bd.returns] at h; cases h)
  refine Go.mk _ _ ?_ hrun hended ⟨_, _, rfl, ?_, ⟨_, rfl⟩, hW, hsame.mono (by decide) (by decide)⟩
  · exact retOut X3 hx Bd.returns rfl (Or.inr (Or.inr (Or.inr (Or.inr ⟨rfl, rfl, rfl⟩)))) (hb hby d4_39) hr
  · show Q4_01 Z o0 f_o0_value e83_18_36 w_COMPACT_STRINGS w_DigitOnes cl_w_DigitOnes h0 n0 _ T3.heap _
    exact ⟨r_3, r1_3, rk2_3, rfl, N3, K3, ⟨sz_r_3, g_r_3⟩, q3_2, q3_3, q3_4, ⟨sz_r1_3, g_r1_3⟩, q3_6⟩
theorem d4_7 : decode prog_6_method_2_code 7 = .ok (.new 17, 3) := by decide +kernel
theorem d4_10 : decode prog_6_method_2_code 10 = .ok (.dup, 1) := by decide +kernel
theorem d4_11 : decode prog_6_method_2_code 11 = .ok (.invokespecial 19, 3) := by decide +kernel
theorem d4_14 : decode prog_6_method_2_code 14 = .ok (.aload_n 0, 1) := by decide +kernel
theorem d4_15 : decode prog_6_method_2_code 15 = .ok (.getfield 7, 3) := by decide +kernel
theorem d4_18 : decode prog_6_method_2_code 18 = .ok (.invokevirtual 20, 3) := by decide +kernel
theorem pd_22 : parseMethodDescriptor "(I)Ljava/lang/StringBuilder;" = some ⟨[.int], some (.object "java/lang/StringBuilder")⟩ := by decide +kernel
theorem d4_21 : decode prog_6_method_2_code 21 = .ok (.ldc 24, 2) := by decide +kernel
theorem d4_23 : decode prog_6_method_2_code 23 = .ok (.invokevirtual 26, 3) := by decide +kernel
theorem pd_23 : parseMethodDescriptor "(Ljava/lang/String;)Ljava/lang/StringBuilder;" = some ⟨[(.object "java/lang/String")], some (.object "java/lang/StringBuilder")⟩ := by decide +kernel
theorem d4_26 : decode prog_6_method_2_code 26 = .ok (.invokevirtual 29, 3) := by decide +kernel
theorem pd_24 : parseMethodDescriptor "()Ljava/lang/String;" = some ⟨[], some (.object "java/lang/String")⟩ := by decide +kernel
theorem d4_29 : decode prog_6_method_2_code 29 = .ok (.goto 10, 3) := by decide +kernel
def Q4_11 (Z : State) (o0 : Addr) (w_COMPACT_STRINGS : Int32) (f_o0_value : Int32) (e83_30_2_18 : Int32) (w_DigitOnes : Addr) (cl_w_DigitOnes : Cell) (h0 : Heap) (n0 : Nat) (v : Option Value) (h : Heap) (L : List Loc) : Prop := ∃ r : Addr, ∃ r1 : Addr, ∃ rk2 : ClassId, v = some (.ref r) ∧ Fr n0 L ∧ Keep h0 h [] ∧ (h0.size ≤ r ∧ n0 ≤ r) ∧ Exa Z h r "java/lang/String" ∧ Fld Z h r "java/lang/String" "coder" "B" (.int (0 : Int32)) ∧ Fld Z h r "java/lang/String" "value" "[B" (.ref r1) ∧ (h0.size ≤ r1 ∧ n0 ≤ r1) ∧ Arv Z h r1 rk2 .byte (2 : Int32) [(.int e83_30_2_18.toInt8.toInt32), (.int (82 : Int32))] (.int (0 : Int32))
set_option maxRecDepth 65536 in
set_option maxHeartbeats 40000000 in
theorem rm4_11 (l : Launch) (Z : State) (a0 : Array Value) (hw : ∀ d ∈ tables_1, d.before a0 Z = true) (ws : List Jvm.Cond) (o0 : Addr) (w_COMPACT_STRINGS : Int32) (f_o0_value : Int32) (e83_30_2_18 : Int32) (w_DigitOnes : Addr) (cl_w_DigitOnes : Cell) (h0 : Heap) (n0 : Nat) (Z0 : n0 ≤ h0.size) (F_o0_repeated : Fld Z h0 o0 "org/hourbook/calendar/HourEnding" "repeated" "Z" (.int (1 : Int32))) (S_COMPACT_STRINGS : Sta Z h0 "java/lang/String" "COMPACT_STRINGS" "Z" (.int w_COMPACT_STRINGS)) (hc7_1_6 : ¬ (w_COMPACT_STRINGS = (0 : Int32))) (F_o0_value : Fld Z h0 o0 "org/hourbook/calendar/HourEnding" "value" "I" (.int f_o0_value)) (hc3_2_1_11 : ¬ (f_o0_value < (0 : Int32))) (hc24_2_1_11 : (-10 : Int32) < (-f_o0_value)) (hc25_6_1_11 : (-100 : Int32) < (-f_o0_value)) (S_DigitOnes : Sta Z h0 "java/lang/Integer" "DigitOnes" "[B" (.ref w_DigitOnes)) (Ar_w_DigitOnes : Arr Z h0 w_DigitOnes cl_w_DigitOnes .byte) (hin83_6_1_11 : ¬ ((-(-f_o0_value)) < 0 ∨ cl_w_DigitOnes.slots.size ≤ ((-(-f_o0_value))).toNatClampNeg)) (hat83_6_1_11 : cl_w_DigitOnes.slots[((-(-f_o0_value))).toNatClampNeg]? = some (.int e83_30_2_18)) (hc88_6_1_11 : ¬ ((-f_o0_value) < (-9 : Int32))) :
    MetFree l (⟨"org/hourbook/calendar/HourEnding", "label", "()Ljava/lang/String;"⟩ : MethodName) (head1 (Jvm.Cond.code (⟨"org/hourbook/calendar/HourEnding", "label", "()Ljava/lang/String;"⟩ : MethodName) prog_6_method_2_code 1 (some (.object "java/lang/String")) :: ws) ({ frames := 6, cells := 6, slots := 34, locals := 105 } : Room)) (fun a U => a = #[(.ref o0)] ∧ Z.Warmed39 U.vm ∧ U.heap = h0 ∧ CHv Z own_EL U.vm h0) (fun _ _ _ _ _ => True) (fun _ U o U' => ∃ v L, o = .returned v ∧ Q4_11 Z o0 w_COMPACT_STRINGS f_o0_value e83_30_2_18 w_DigitOnes cl_w_DigitOnes h0 n0 v U'.heap L ∧ CHr Z own_EL U.vm U.heap U'.vm U'.heap ∧ ReturnedEndW U o U' L ({ frames := 6, cells := 6, slots := 34, locals := 105 } : Room).cells ({ frames := 6, cells := 6, slots := 34, locals := 105 } : Room).slots) := by
  refine MetFree.of_bodySF (plainFor_of_name pn_org_hourbook_calendar_HourEnding) hisR ?_
  intro p e s m args below meth c s₁ Bd hml0 hP hK
  obtain ⟨rfl, hZ, hh, hCH⟩ := hP
  have hx := Bd.exec
  have hby := Bd.bytes
  have hml : c.maxLocals = 1 := hml0
  have hown : s.vm.findClass "org/hourbook/calendar/HourEnding" = some m.cls := findClass_of_methodNamed Bd.named
  have hnm := (name_of_methodNamed Bd.named Bd.method).1
  have X0 : Stand p l e ({ frames := 6, cells := 6, slots := 34, locals := 105 } : Room) s m #[(.ref o0)] below meth c s₁ [] 0 0 := Stand.of_body Bd
  have e0 : s₁.heap = h0 := by rw [← hh, Bd.state]; rfl
  have N0 := Fr.nil n0
  show Go p e below (fun o U' => ∃ v L, o = .returned v ∧ Q4_11 Z o0 w_COMPACT_STRINGS f_o0_value e83_30_2_18 w_DigitOnes cl_w_DigitOnes h0 n0 v U'.heap L ∧ CHr Z own_EL s.vm s.heap U'.vm U'.heap ∧ ReturnedEndW s o U' L ({ frames := 6, cells := 6, slots := 34, locals := 105 } : Room).cells ({ frames := 6, cells := 6, slots := 34, locals := 105 } : Room).slots) (s₁.setTop (entryFrame m #[(.ref o0)] 1))
  refine Go.of (fun _ k => castTop (ef_4 m o0) k) ?_
  show Go p e below _ (s₁.setTop (mkF m 0 #[.val (.ref o0)] []))
  refine Go.of (fun _ k => XS.aloadN X0.here hx rfl (hb hby d4_0) rfl rfl k) ?_
  show Go p e below _ (s₁.setTop (mkF m 1 #[.val (.ref o0)] [(.ref o0)]))
  obtain ⟨T1, X1, e1, st1⟩ := getF X0 hx hZ hown (host := "") (Or.inl (hw _ (List.mem_of_getElem? (i := 17) rfl))) Via.refl e0 F_o0_repeated (g := (mkF m 1 #[.val (.ref o0)] [(.ref o0)])) rfl rfl (hb hby d4_1)
  refine Go.of st1 ?_
  show Go p e below _ (T1.setTop (mkF m 4 #[.val (.ref o0)] [(.int (1 : Int32))]))
  refine Go.of (fun _ k => XS.ifNo X1.here hx rfl (hb hby d4_4) rfl ((if0 _ _).trans (feq (by decide : ¬ ((1 : Int32) = (0 : Int32)))).1) k) ?_
  show Go p e below _ (T1.setTop (mkF m 7 #[.val (.ref o0)] []))
  obtain ⟨T2, h2, X2, e2, E2, A2, D2, -, st2⟩ := newO X1 hx hZ hown (hw _ (List.mem_of_getElem? (i := 24) rfl)) (hw _ (List.mem_of_getElem? (i := 25) rfl)) (hw _ (List.mem_of_getElem? (i := 26) rfl)) e1 (g := (mkF m 7 #[.val (.ref o0)] [])) rfl (hb hby d4_7) (by decide) (by decide)
  obtain ⟨ob2, g2⟩ : ∃ z, z = h0.size := ⟨_, rfl⟩
  rw [← g2] at A2 D2 st2
  refine Go.of st2 ?_
  have g_ob2 : n0 ≤ ob2 := Nat.le_trans Z0 (Nat.le_of_eq g2.symm)
  have sz_ob2 : h0.size ≤ ob2 := Nat.le_trans ((Keep.refl h0 [])).1 (Nat.le_of_eq g2.symm)
  have K2 : Keep h0 h2 [] := ((Keep.refl h0 [])).ext E2
  have Z2 : n0 ≤ h2.size := Nat.le_trans Z0 E2.1
  have f3 : Fld Z h2 ob2 "java/lang/AbstractStringBuilder" "value" "[B" .null := D2 (Or.inl (hw _ (List.mem_of_getElem? (i := 41) rfl))) (ty := (.array .byte)) (by decide)
  have f4 : Fld Z h2 ob2 "java/lang/AbstractStringBuilder" "coder" "B" (.int (0 : Int32)) := D2 (Or.inl (hw _ (List.mem_of_getElem? (i := 43) rfl))) (ty := .byte) (by decide)
  have f5 : Fld Z h2 ob2 "java/lang/AbstractStringBuilder" "count" "I" (.int (0 : Int32)) := D2 (Or.inl (hw _ (List.mem_of_getElem? (i := 55) rfl))) (ty := .int) (by decide)
  show Go p e below _ (T2.setTop (mkF m 10 #[.val (.ref o0)] [(.ref ob2)]))
  refine Go.of (fun _ k => XS.dup X2.here hx rfl (hb hby d4_10) rfl rfl k) ?_
  show Go p e below _ (T2.setTop (mkF m 11 #[.val (.ref o0)] [(.ref ob2), (.ref ob2)]))
  have c7 : Sta Z h2 "java/lang/String" "COMPACT_STRINGS" "Z" (.int w_COMPACT_STRINGS) := (Sta.ext E2 S_COMPACT_STRINGS)
  obtain ⟨_, _, ⟨T6, L6, k6, n6⟩, -, X6, ⟨Lc6, hQ6, l6, y6, z6⟩, st6⟩ := X2.specialBack hx (y := (⟨"java/lang/StringBuilder", "<init>", "()V"⟩ : MethodName)) rfl hown (mvT hZ (hw _ (List.mem_of_getElem? (i := 27) rfl))) (mvT hZ (hw _ (List.mem_of_getElem? (i := 28) rfl))) (mvT hZ (hw _ (List.mem_of_getElem? (i := 29) rfl))) (by decide) (backOf (W := 1) (rm5 l Z a0 hw [] ob2 (.int (0 : Int32)) w_COMPACT_STRINGS .null (.int (0 : Int32)) h2 n0 Z2 f5 c7 hc7_1_6 A2 f3 g_ob2 f4) hZ (hw _ (List.mem_of_getElem? (i := 29) rfl)) (hw _ (List.mem_of_getElem? (i := 26) rfl)) (by decide) (by decide)) (g := (mkF m 11 #[.val (.ref o0)] [(.ref ob2), (.ref ob2)])) rfl (by rw [hml]; rfl) (Steps.refl _) (a := ob2) (argsL := []) (rest := [(.ref ob2)]) (lenOf pd_20 rfl) rfl (by show 2 * 0 + _ ≤ _; exact Nat.le_of_eq rfl) (hb hby d4_11) (fun _ _ => ⟨rfl, e2, (by decide : 1 + 1 ≤ _), (by decide : 4 + 16 ≤ _)⟩)
  dsimp only [Pt.U, Pt.locs, Pt.cells, Pt.slots] at X6 l6 y6 z6 st6 hQ6
  subst l6 y6 z6
  obtain ⟨r0_6, rk1_6, rfl, Nq6, q6_0, q6_1, q6_2, q6_3, q6_4, q6_5, q6_6⟩ := hQ6
  have N6 := Fr.app N0 Nq6
  refine Go.tr st6 ?_
  have K6 : Keep h0 T6.heap [] := (K2).trans q6_0 (allS (Or.inr sz_ob2) all0)
  have Z6 : n0 ≤ T6.heap.size := Nat.le_trans Z2 q6_0.1
  have g_r0_6 : n0 ≤ r0_6 := q6_5.2
  have sz_r0_6 : h0.size ≤ r0_6 := Nat.le_trans (K2).1 q6_5.1
  show Go p e below _ (T6.setTop (mkF m 14 #[.val (.ref o0)] [(.ref ob2)]))
  refine Go.of (fun _ k => XS.aloadN X6.here hx rfl (hb hby d4_14) rfl rfl k) ?_
  show Go p e below _ (T6.setTop (mkF m 15 #[.val (.ref o0)] [(.ref o0), (.ref ob2)]))
  have c8 : Fld Z h2 o0 "org/hourbook/calendar/HourEnding" "value" "I" (.int f_o0_value) := (Fld.ext E2 F_o0_value)
  have c9 : Fld Z T6.heap o0 "org/hourbook/calendar/HourEnding" "value" "I" (.int f_o0_value) := (c8.keep q6_0 (ninS (Nat.ne_of_lt (Nat.lt_of_lt_of_le F_o0_repeated.lt (Nat.le_of_eq g2.symm))) nin0))
  obtain ⟨T10, X10, e10, st10⟩ := getF X6 hx hZ hown (host := "") (Or.inl (hw _ (List.mem_of_getElem? (i := 15) rfl))) Via.refl rfl c9 (g := (mkF m 15 #[.val (.ref o0)] [(.ref o0), (.ref ob2)])) rfl rfl (hb hby d4_15)
  refine Go.of st10 ?_
  show Go p e below _ (T10.setTop (mkF m 18 #[.val (.ref o0)] [(.int f_o0_value), (.ref ob2)]))
  have c12 : Sta Z T6.heap "java/lang/String" "COMPACT_STRINGS" "Z" (.int w_COMPACT_STRINGS) := (own_Sta_keep c7 q6_0 (own_pS (own_plainE A2) own_p0))
  have c13 : Sta Z h2 "java/lang/Integer" "DigitOnes" "[B" (.ref w_DigitOnes) := (Sta.ext E2 S_DigitOnes)
  have c14 : Sta Z T6.heap "java/lang/Integer" "DigitOnes" "[B" (.ref w_DigitOnes) := (own_Sta_keep c13 q6_0 (own_pS (own_plainE A2) own_p0))
  have c15 : Arr Z h2 w_DigitOnes cl_w_DigitOnes .byte := (Arr.ext E2 Ar_w_DigitOnes)
  have c16 : Arr Z T6.heap w_DigitOnes cl_w_DigitOnes .byte := ⟨q6_0.2.1 _ _ c15.1 (ninS (Nat.ne_of_lt (Nat.lt_of_lt_of_le Ar_w_DigitOnes.lt (Nat.le_of_eq g2.symm))) nin0), c15.2⟩
  obtain ⟨cq11, kq11, q11a, q11b, q11c⟩ := isOf hZ e10 q6_1
  obtain ⟨_, _, ⟨T11, L11, k11, n11⟩, -, X11, ⟨Lc11, hQ11, l11, y11, z11⟩, st11⟩ := X10.virtualBack hx (y := (⟨"java/lang/StringBuilder", "append", "(I)Ljava/lang/StringBuilder;"⟩ : MethodName)) (z := (⟨"java/lang/StringBuilder", "append", "(I)Ljava/lang/StringBuilder;"⟩ : MethodName)) hown (mvT hZ (hw _ (List.mem_of_getElem? (i := 44) rfl))) (mvT hZ (hw _ (List.mem_of_getElem? (i := 45) rfl))) (notFace_of_selects (args := #[]) (mvT hZ (hw _ (List.mem_of_getElem? (i := 47) rfl)))) (mvT hZ (hw _ (List.mem_of_getElem? (i := 47) rfl))) (mvT hZ (hw _ (List.mem_of_getElem? (i := 46) rfl))) (by decide) (backOf (W := 0) (rm7_1 l Z a0 hw [] ob2 f_o0_value e83_30_2_18 r0_6 rk1_6 w_COMPACT_STRINGS w_DigitOnes cl_w_DigitOnes T6.heap n0 Z6 q6_3 hc3_2_1_11 hc24_2_1_11 q6_4 q6_6 q6_2 q6_1 c12 hc7_1_6 hc25_6_1_11 c14 c16 hin83_6_1_11 hat83_6_1_11 g_r0_6 hc88_6_1_11 (Ne.symm (Nat.ne_of_lt (Nat.lt_of_lt_of_le A2.lt q6_5.1))) g_ob2) hZ (hw _ (List.mem_of_getElem? (i := 48) rfl)) (hw _ (List.mem_of_getElem? (i := 26) rfl)) (by decide) (by decide)) q11a q11c (g := (mkF m 18 #[.val (.ref o0)] [(.int f_o0_value), (.ref ob2)])) rfl (by rw [hml]; rfl) (Steps.refl _) (argsL := [(.int f_o0_value)]) (rest := []) (lenOf pd_22 rfl) rfl (by show 2 * 0 + _ ≤ _; exact Nat.le_of_eq rfl) (hb hby d4_18) (fun _ _ => ⟨rfl, e10, (by decide : 2 + 0 ≤ _), (by decide : 20 + 0 ≤ _)⟩)
  dsimp only [Pt.U, Pt.locs, Pt.cells, Pt.slots] at X11 l11 y11 z11 st11 hQ11
  subst l11 y11 z11
  obtain ⟨rfl, Nq11, q11_0, q11_1, q11_2, q11_3, q11_4, q11_5⟩ := hQ11
  have N11 := Fr.app N6 Nq11
  refine Go.tr st11 ?_
  have K11 : Keep h0 T11.heap [] := (K6).trans q11_0 (allS (Or.inr sz_r0_6) (allS (Or.inr sz_ob2) all0))
  have Z11 : n0 ≤ T11.heap.size := Nat.le_trans Z6 q11_0.1
  show Go p e below _ (T11.setTop (mkF m 21 #[.val (.ref o0)] [(.ref ob2)]))
  have CA17 : CHr Z own_EL s.vm h0 s.vm T11.heap := CHr.keep (K11) sf0 hCH
  obtain ⟨a17, T17, h17, k117, b17, kk17, X17, e17, E17, hS17, hk17, hZ17, hown17, A17, Fc17, Fv17, V17, la17, lb17, CB17, Lt17, sa17, st17⟩ := ldcCH (s := s) (vm0 := s.vm) X11 hx hZ hown (hw _ (List.mem_of_getElem? (i := 74) rfl)) (own_wS hw) rfl ((State.WarmedH.refl s).since 0) (Nat.zero_le _) (own_ew hw) (by decide) CA17.1 (vs := [(.int (82 : Int32))]) (z := (1 : Int32)) ⟨by decide, by decide⟩ (by decide) (by decide) (g := (mkF m 21 #[.val (.ref o0)] [(.ref ob2)])) rfl (hb hby d4_21) (n := 4) (by decide) (by decide) (by decide) (by decide)
  refine Go.of st17 ?_
  have K17 : Keep h0 h17 [] := (K11).ext E17
  have Z17 : n0 ≤ h17.size := Nat.le_trans Z11 E17.1
  have sf17_ob2 : Safe Z own_EL T17.vm h17 ob2 := CB17.safe q11_2.lt (Safe.keep (K11) sf0 hCH (Safe.new sz_ob2))
  have sf17_r0_6 : Safe Z own_EL T17.vm h17 r0_6 := CB17.safe q11_1.lt (Safe.keep (K11) sf0 hCH (Safe.new sz_r0_6))
  show Go p e below _ (T17.setTop (mkF m 23 #[.val (.ref o0)] [(.ref a17), (.ref ob2)]))
  have c19 : Sta Z T11.heap "java/lang/String" "COMPACT_STRINGS" "Z" (.int w_COMPACT_STRINGS) := (own_Sta_keep c12 q11_0 (own_pS (own_plainV q6_6) (own_pS (own_plainE q6_1) own_p0)))
  have c20 : Sta Z h17 "java/lang/String" "COMPACT_STRINGS" "Z" (.int w_COMPACT_STRINGS) := (Sta.ext E17 c19)
  have c21 : Fld Z h17 ob2 "java/lang/AbstractStringBuilder" "count" "I" (.int (1 : Int32)) := (Fld.ext E17 q11_4)
  have c22 : Fld Z h17 ob2 "java/lang/AbstractStringBuilder" "value" "[B" (.ref r0_6) := (Fld.ext E17 q11_5)
  have c23 : Arv Z h17 r0_6 rk1_6 .byte (16 : Int32) [(.int e83_30_2_18.toInt8.toInt32), (.int (0 : Int32)), (.int (0 : Int32)), (.int (0 : Int32)), (.int (0 : Int32)), (.int (0 : Int32)), (.int (0 : Int32)), (.int (0 : Int32)), (.int (0 : Int32)), (.int (0 : Int32)), (.int (0 : Int32)), (.int (0 : Int32)), (.int (0 : Int32)), (.int (0 : Int32)), (.int (0 : Int32)), (.int (0 : Int32))] (.int (0 : Int32)) := (q11_1.ext E17)
  have c24 : Fld Z h17 ob2 "java/lang/AbstractStringBuilder" "coder" "B" (.int (0 : Int32)) := (Fld.ext E17 q11_3)
  have c25 : Exa Z h17 ob2 "java/lang/StringBuilder" := (Exa.ext E17 q11_2)
  obtain ⟨cq18, kq18, q18a, q18b, q18c⟩ := isOf hZ17 e17 c25
  obtain ⟨_, _, ⟨T18, L18, k18, n18⟩, -, X18, ⟨Lc18, hQ18, l18, y18, z18⟩, st18⟩ := X17.virtualBack hx (y := (⟨"java/lang/StringBuilder", "append", "(Ljava/lang/String;)Ljava/lang/StringBuilder;"⟩ : MethodName)) (z := (⟨"java/lang/StringBuilder", "append", "(Ljava/lang/String;)Ljava/lang/StringBuilder;"⟩ : MethodName)) hown17 (mvT hZ17 (hw _ (List.mem_of_getElem? (i := 80) rfl))) (mvT hZ17 (hw _ (List.mem_of_getElem? (i := 81) rfl))) (notFace_of_selects (args := #[]) (mvT hZ17 (hw _ (List.mem_of_getElem? (i := 83) rfl)))) (mvT hZ17 (hw _ (List.mem_of_getElem? (i := 83) rfl))) (mvT hZ17 (hw _ (List.mem_of_getElem? (i := 82) rfl))) (by decide) (backOf (W := 0) (rm13_1 l Z a0 hw [] ob2 a17 e83_30_2_18.toInt8.toInt32 (82 : Int32) b17 kk17 w_COMPACT_STRINGS r0_6 rk1_6 h17 n0 Z17 Fv17 V17 c20 hc7_1_6 Fc17 A17 c21 c22 c23 c24 c25 g_r0_6 (Ne.symm (Nat.ne_of_lt (Nat.lt_of_lt_of_le A2.lt q6_5.1))) g_ob2) hZ17 (hw _ (List.mem_of_getElem? (i := 84) rfl)) (hw _ (List.mem_of_getElem? (i := 26) rfl)) (by decide) (by decide)) q18a q18c (g := (mkF m 23 #[.val (.ref o0)] [(.ref a17), (.ref ob2)])) rfl (by rw [hml]; rfl) (Steps.refl _) (argsL := [(.ref a17)]) (rest := []) (lenOf pd_23 rfl) rfl (by show 2 * 0 + _ ≤ _; exact Nat.le_of_eq rfl) (hb hby d4_23) (fun _ _ => ⟨rfl, e17, (by decide : 4 + 0 ≤ _), (by decide : 28 + 0 ≤ _)⟩)
  dsimp only [Pt.U, Pt.locs, Pt.cells, Pt.slots] at X18 l18 y18 z18 st18 hQ18
  subst l18 y18 z18
  obtain ⟨rfl, Nq18, q18_0, q18_1, q18_2, q18_3, q18_4, q18_5⟩ := hQ18
  have N18 := Fr.app N11 Nq18
  refine Go.tr st18 ?_
  have J18 : Keep h17 T18.heap [ob2, r0_6] := ((Keep.refl h17 [ob2, r0_6])).trans q18_0 (allS (Or.inl (List.mem_of_getElem? (i := 1) rfl)) (allS (Or.inl (List.mem_of_getElem? (i := 0) rfl)) all0))
  have K18 : Keep h0 T18.heap [] := (K17).trans q18_0 (allS (Or.inr sz_r0_6) (allS (Or.inr sz_ob2) all0))
  have Z18 : n0 ≤ T18.heap.size := Nat.le_trans Z17 q18_0.1
  show Go p e below _ (T18.setTop (mkF m 26 #[.val (.ref o0)] [(.ref ob2)]))
  have c27 : Sta Z T18.heap "java/lang/String" "COMPACT_STRINGS" "Z" (.int w_COMPACT_STRINGS) := (own_Sta_keep c20 q18_0 (own_pS (own_plainV c23) (own_pS (own_plainE c25) own_p0)))
  obtain ⟨cq26, kq26, q26a, q26b, q26c⟩ := isOf hZ17 rfl q18_2
  obtain ⟨_, _, ⟨T26, L26, k26, n26⟩, -, X26, ⟨Lc26, hQ26, l26, y26, z26⟩, st26⟩ := X18.virtualBack hx (y := (⟨"java/lang/StringBuilder", "toString", "()Ljava/lang/String;"⟩ : MethodName)) (z := (⟨"java/lang/StringBuilder", "toString", "()Ljava/lang/String;"⟩ : MethodName)) hown17 (mvT hZ17 (hw _ (List.mem_of_getElem? (i := 122) rfl))) (mvT hZ17 (hw _ (List.mem_of_getElem? (i := 123) rfl))) (notFace_of_selects (args := #[]) (mvT hZ17 (hw _ (List.mem_of_getElem? (i := 125) rfl)))) (mvT hZ17 (hw _ (List.mem_of_getElem? (i := 125) rfl))) (mvT hZ17 (hw _ (List.mem_of_getElem? (i := 124) rfl))) (by decide) (backOf (W := 0) (rm20_2 l Z a0 hw [] ob2 e83_30_2_18.toInt8.toInt32 (82 : Int32) r0_6 w_COMPACT_STRINGS rk1_6 T18.heap n0 Z18 q18_5 q18_2 q18_4 c27 hc7_1_6 q18_3 q18_1) hZ17 (hw _ (List.mem_of_getElem? (i := 126) rfl)) (hw _ (List.mem_of_getElem? (i := 26) rfl)) (by decide) (by decide)) q26a q26c (g := (mkF m 26 #[.val (.ref o0)] [(.ref ob2)])) rfl (by rw [hml]; rfl) (Steps.refl _) (argsL := []) (rest := []) (lenOf pd_24 rfl) rfl (by show 2 * 0 + _ ≤ _; exact Nat.le_of_eq rfl) (hb hby d4_26) (fun _ _ => ⟨rfl, rfl, (by decide : 4 + 2 ≤ _), (by decide : 28 + 6 ≤ _)⟩)
  dsimp only [Pt.U, Pt.locs, Pt.cells, Pt.slots] at X26 l26 y26 z26 st26 hQ26
  subst l26 y26 z26
  obtain ⟨r_26, r1_26, rk2_26, rfl, Nq26, q26_0, q26_1, q26_2, q26_3, q26_4, q26_5, q26_6⟩ := hQ26
  have N26 := Fr.app N18 Nq26
  refine Go.tr st26 ?_
  have J26 : Keep h17 T26.heap [ob2, r0_6] := (J18).trans q26_0 all0
  have K26 : Keep h0 T26.heap [] := (K18).trans q26_0 all0
  have Z26 : n0 ≤ T26.heap.size := Nat.le_trans Z18 q26_0.1
  have g_r_26 : n0 ≤ r_26 := q26_1.2
  have sz_r_26 : h0.size ≤ r_26 := Nat.le_trans (K18).1 q26_1.1
  have g_r1_26 : n0 ≤ r1_26 := q26_5.2
  have sz_r1_26 : h0.size ≤ r1_26 := Nat.le_trans (K18).1 q26_5.1
  show Go p e below _ (T26.setTop (mkF m 29 #[.val (.ref o0)] [(.ref r_26)]))
  refine Go.of (fun _ k => XS.goto X26.here hx rfl (pc0 := 29) (pc' := 39) rfl (hb hby d4_29) (by decide) (by decide) k) ?_
  show Go p e below _ (T26.setTop (mkF m 39 #[.val (.ref o0)] [(.ref r_26)]))
  obtain ⟨fs, hr, hrun, hended, hRW⟩ := X26.leaveW (s := s) hS17 (by exact Nat.le_trans hk17 (J26).1) (v := some (.ref r_26)) (fun h => by rw [Bd.returns] at h; cases h)
  have hC : CHr Z own_EL s.vm s.heap T26.vm T26.heap := by rw [hh]; exact CA17.trans (CB17.trans ((CHr.keep (J26) (sfS sf17_ob2 (sfS sf17_r0_6 sf0)) CB17.1).trans (CHv.at (s := s) X26 hZ17 (own_ew hw) (CHr.keep (J26) (sfS sf17_ob2 (sfS sf17_r0_6 sf0)) CB17.1).1)))
  refine Go.mk _ _ ?_ hrun hended ⟨_, _, rfl, ?_, hC, ⟨hRW.1, hRW.2.1, hRW.2.2.1, hRW.2.2.2.mono (by decide) (by decide)⟩⟩
  · exact retOut X26 hx Bd.returns rfl (Or.inr (Or.inr (Or.inr (Or.inr ⟨rfl, rfl, rfl⟩)))) (hb hby d4_39) hr
  · show Q4_11 Z o0 w_COMPACT_STRINGS f_o0_value e83_30_2_18 w_DigitOnes cl_w_DigitOnes h0 n0 _ T26.heap _
    exact ⟨r_26, r1_26, rk2_26, rfl, N26, K26, ⟨sz_r_26, g_r_26⟩, q26_2, q26_3, q26_4, ⟨sz_r1_26, g_r1_26⟩, q26_6⟩
def Q4_02 (Z : State) (o0 : Addr) (f_o0_value : Int32) (e83_18_36 : Int32) (e102_18_36 : Int32) (w_COMPACT_STRINGS : Int32) (w_DigitOnes : Addr) (cl_w_DigitOnes : Cell) (w_DigitTens : Addr) (cl_w_DigitTens : Cell) (h0 : Heap) (n0 : Nat) (v : Option Value) (h : Heap) (L : List Loc) : Prop := ∃ r : Addr, ∃ r1 : Addr, ∃ rk2 : ClassId, v = some (.ref r) ∧ Fr n0 L ∧ Keep h0 h [] ∧ (h0.size ≤ r ∧ n0 ≤ r) ∧ Exa Z h r "java/lang/String" ∧ Fld Z h r "java/lang/String" "coder" "B" (.int (0 : Int32)) ∧ Fld Z h r "java/lang/String" "value" "[B" (.ref r1) ∧ (h0.size ≤ r1 ∧ n0 ≤ r1) ∧ Arv Z h r1 rk2 .byte (2 : Int32) [(.int e102_18_36.toInt8.toInt32), (.int e83_18_36.toInt8.toInt32)] (.int (0 : Int32))
set_option maxRecDepth 65536 in
set_option maxHeartbeats 40000000 in
theorem rm4_02 (l : Launch) (Z : State) (a0 : Array Value) (hw : ∀ d ∈ tables_1, d.before a0 Z = true) (ws : List Jvm.Cond) (o0 : Addr) (f_o0_value : Int32) (e83_18_36 : Int32) (e102_18_36 : Int32) (w_COMPACT_STRINGS : Int32) (w_DigitOnes : Addr) (cl_w_DigitOnes : Cell) (w_DigitTens : Addr) (cl_w_DigitTens : Cell) (h0 : Heap) (n0 : Nat) (Z0 : n0 ≤ h0.size) (F_o0_repeated : Fld Z h0 o0 "org/hourbook/calendar/HourEnding" "repeated" "Z" (.int (0 : Int32))) (F_o0_value : Fld Z h0 o0 "org/hourbook/calendar/HourEnding" "value" "I" (.int f_o0_value)) (hc3_1_3 : ¬ (f_o0_value < (0 : Int32))) (hc24_1_3 : ¬ ((-10 : Int32) < (-f_o0_value))) (hc24_1_1_3 : (-100 : Int32) < (-f_o0_value)) (S_COMPACT_STRINGS : Sta Z h0 "java/lang/String" "COMPACT_STRINGS" "Z" (.int w_COMPACT_STRINGS)) (hc8_3 : ¬ (w_COMPACT_STRINGS = (0 : Int32))) (S_DigitOnes : Sta Z h0 "java/lang/Integer" "DigitOnes" "[B" (.ref w_DigitOnes)) (Ar_w_DigitOnes : Arr Z h0 w_DigitOnes cl_w_DigitOnes .byte) (hin83_4_3 : ¬ ((-(-f_o0_value)) < 0 ∨ cl_w_DigitOnes.slots.size ≤ ((-(-f_o0_value))).toNatClampNeg)) (hat83_4_3 : cl_w_DigitOnes.slots[((-(-f_o0_value))).toNatClampNeg]? = some (.int e83_18_36)) (hc88_4_3 : (-f_o0_value) < (-9 : Int32)) (S_DigitTens : Sta Z h0 "java/lang/Integer" "DigitTens" "[B" (.ref w_DigitTens)) (Ar_w_DigitTens : Arr Z h0 w_DigitTens cl_w_DigitTens .byte) (hin102_4_3 : ¬ ((-(-f_o0_value)) < 0 ∨ cl_w_DigitTens.slots.size ≤ ((-(-f_o0_value))).toNatClampNeg)) (hat102_4_3 : cl_w_DigitTens.slots[((-(-f_o0_value))).toNatClampNeg]? = some (.int e102_18_36)) :
    MetFree l (⟨"org/hourbook/calendar/HourEnding", "label", "()Ljava/lang/String;"⟩ : MethodName) (head1 (Jvm.Cond.code (⟨"org/hourbook/calendar/HourEnding", "label", "()Ljava/lang/String;"⟩ : MethodName) prog_6_method_2_code 1 (some (.object "java/lang/String")) :: ws) ({ frames := 3, cells := 2, slots := 6, locals := 41 } : Room)) (fun a U => a = #[(.ref o0)] ∧ Z.Warmed39 U.vm ∧ U.heap = h0) (fun _ _ _ _ _ => True) (fun _ U o U' => ∃ v L, o = .returned v ∧ Q4_02 Z o0 f_o0_value e83_18_36 e102_18_36 w_COMPACT_STRINGS w_DigitOnes cl_w_DigitOnes w_DigitTens cl_w_DigitTens h0 n0 v U'.heap L ∧ FrameEnd U o U' L ({ frames := 3, cells := 2, slots := 6, locals := 41 } : Room).cells ({ frames := 3, cells := 2, slots := 6, locals := 41 } : Room).slots) := by
  refine MetFree.of_bodySF (plainFor_of_name pn_org_hourbook_calendar_HourEnding) hisR ?_
  intro p e s m args below meth c s₁ Bd hml0 hP hK
  obtain ⟨rfl, hZ, hh⟩ := hP
  have hx := Bd.exec
  have hby := Bd.bytes
  have hml : c.maxLocals = 1 := hml0
  have hown : s.vm.findClass "org/hourbook/calendar/HourEnding" = some m.cls := findClass_of_methodNamed Bd.named
  have hnm := (name_of_methodNamed Bd.named Bd.method).1
  have X0 : Stand p l e ({ frames := 3, cells := 2, slots := 6, locals := 41 } : Room) s m #[(.ref o0)] below meth c s₁ [] 0 0 := Stand.of_body Bd
  have e0 : s₁.heap = h0 := by rw [← hh, Bd.state]; rfl
  have N0 := Fr.nil n0
  show Go p e below (fun o U' => ∃ v L, o = .returned v ∧ Q4_02 Z o0 f_o0_value e83_18_36 e102_18_36 w_COMPACT_STRINGS w_DigitOnes cl_w_DigitOnes w_DigitTens cl_w_DigitTens h0 n0 v U'.heap L ∧ FrameEnd s o U' L ({ frames := 3, cells := 2, slots := 6, locals := 41 } : Room).cells ({ frames := 3, cells := 2, slots := 6, locals := 41 } : Room).slots) (s₁.setTop (entryFrame m #[(.ref o0)] 1))
  refine Go.of (fun _ k => castTop (ef_4 m o0) k) ?_
  show Go p e below _ (s₁.setTop (mkF m 0 #[.val (.ref o0)] []))
  refine Go.of (fun _ k => XS.aloadN X0.here hx rfl (hb hby d4_0) rfl rfl k) ?_
  show Go p e below _ (s₁.setTop (mkF m 1 #[.val (.ref o0)] [(.ref o0)]))
  obtain ⟨T1, X1, e1, st1⟩ := getF X0 hx hZ hown (host := "") (Or.inl (hw _ (List.mem_of_getElem? (i := 17) rfl))) Via.refl e0 F_o0_repeated (g := (mkF m 1 #[.val (.ref o0)] [(.ref o0)])) rfl rfl (hb hby d4_1)
  refine Go.of st1 ?_
  show Go p e below _ (T1.setTop (mkF m 4 #[.val (.ref o0)] [(.int (0 : Int32))]))
  refine Go.of (fun _ k => XS.ifYes X1.here hx rfl (pc0 := 4) (pc' := 32) rfl (hb hby d4_4) rfl ((if0 _ _).trans (teq (by decide : (0 : Int32) = (0 : Int32))).1) (by decide) (by decide) k) ?_
  show Go p e below _ (T1.setTop (mkF m 32 #[.val (.ref o0)] []))
  refine Go.of (fun _ k => XS.aloadN X1.here hx rfl (hb hby d4_32) rfl rfl k) ?_
  show Go p e below _ (T1.setTop (mkF m 33 #[.val (.ref o0)] [(.ref o0)]))
  obtain ⟨T2, X2, e2, st2⟩ := getF X1 hx hZ hown (host := "") (Or.inl (hw _ (List.mem_of_getElem? (i := 15) rfl))) Via.refl e1 F_o0_value (g := (mkF m 33 #[.val (.ref o0)] [(.ref o0)])) rfl rfl (hb hby d4_33)
  refine Go.of st2 ?_
  show Go p e below _ (T2.setTop (mkF m 36 #[.val (.ref o0)] [(.int f_o0_value)]))
  obtain ⟨_, _, ⟨T3, L3, k3, n3⟩, -, X3, ⟨Lc3, hQ3, l3, y3, z3⟩, st3⟩ := Jvm.LawKit.callS X2 hx (y := (⟨"java/lang/Integer", "toString", "(I)Ljava/lang/String;"⟩ : MethodName)) hown (mvT hZ (hw _ (List.mem_of_getElem? (i := 189) rfl))) (mvT hZ (hw _ (List.mem_of_getElem? (i := 190) rfl))) (mvT hZ (hw _ (List.mem_of_getElem? (i := 58) rfl))) (mvT hZ (hw _ (List.mem_of_getElem? (i := 191) rfl))) (by decide) (backOf (W := 0) (rm35_2 l Z a0 hw [] f_o0_value w_COMPACT_STRINGS e83_18_36 e102_18_36 w_DigitOnes cl_w_DigitOnes w_DigitTens cl_w_DigitTens h0 n0 Z0 hc3_1_3 hc24_1_3 hc24_1_1_3 S_COMPACT_STRINGS hc8_3 S_DigitOnes Ar_w_DigitOnes hin83_4_3 hat83_4_3 hc88_4_3 S_DigitTens Ar_w_DigitTens hin102_4_3 hat102_4_3) hZ (hw _ (List.mem_of_getElem? (i := 191) rfl)) (hw _ (List.mem_of_getElem? (i := 58) rfl)) (by decide) (by decide)) (g := (mkF m 36 #[.val (.ref o0)] [(.int f_o0_value)])) rfl (by rw [hml]; rfl) (argsL := [(.int f_o0_value)]) (rest := []) (lenOf pd_21 rfl) rfl (by show 2 * 0 + _ ≤ _; exact Nat.le_of_eq rfl) (hb hby d4_36) (fun _ _ => ⟨rfl, e2, (by decide : 0 + 2 ≤ _), (by decide : 0 + 6 ≤ _)⟩)
  dsimp only [Pt.U, Pt.locs, Pt.cells, Pt.slots] at X3 l3 y3 z3 st3 hQ3
  subst l3 y3 z3
  obtain ⟨r_3, r1_3, rk2_3, rfl, Nq3, q3_0, q3_1, q3_2, q3_3, q3_4, q3_5, q3_6⟩ := hQ3
  have N3 := Fr.app N0 Nq3
  refine Go.of st3 ?_
  have K3 : Keep h0 T3.heap [] := ((Keep.refl h0 [])).trans q3_0 all0
  have Z3 : n0 ≤ T3.heap.size := Nat.le_trans Z0 q3_0.1
  have g_r_3 : n0 ≤ r_3 := q3_1.2
  have sz_r_3 : h0.size ≤ r_3 := Nat.le_trans ((Keep.refl h0 [])).1 q3_1.1
  have g_r1_3 : n0 ≤ r1_3 := q3_5.2
  have sz_r1_3 : h0.size ≤ r1_3 := Nat.le_trans ((Keep.refl h0 [])).1 q3_5.1
  show Go p e below _ (T3.setTop (mkF m 39 #[.val (.ref o0)] [(.ref r_3)]))
  obtain ⟨fs, hr, hrun, hended, hW, hsame⟩ := X3.leave (v := some (.ref r_3)) (fun h => by rw [Bd.returns] at h; cases h)
  refine Go.mk _ _ ?_ hrun hended ⟨_, _, rfl, ?_, ⟨_, rfl⟩, hW, hsame.mono (by decide) (by decide)⟩
  · exact retOut X3 hx Bd.returns rfl (Or.inr (Or.inr (Or.inr (Or.inr ⟨rfl, rfl, rfl⟩)))) (hb hby d4_39) hr
  · show Q4_02 Z o0 f_o0_value e83_18_36 e102_18_36 w_COMPACT_STRINGS w_DigitOnes cl_w_DigitOnes w_DigitTens cl_w_DigitTens h0 n0 _ T3.heap _
    exact ⟨r_3, r1_3, rk2_3, rfl, N3, K3, ⟨sz_r_3, g_r_3⟩, q3_2, q3_3, q3_4, ⟨sz_r1_3, g_r1_3⟩, q3_6⟩
def Q4_12 (Z : State) (o0 : Addr) (w_COMPACT_STRINGS : Int32) (f_o0_value : Int32) (e83_30_2_18 : Int32) (e102_30_2_18 : Int32) (w_DigitOnes : Addr) (cl_w_DigitOnes : Cell) (w_DigitTens : Addr) (cl_w_DigitTens : Cell) (h0 : Heap) (n0 : Nat) (v : Option Value) (h : Heap) (L : List Loc) : Prop := ∃ r : Addr, ∃ r1 : Addr, ∃ rk2 : ClassId, v = some (.ref r) ∧ Fr n0 L ∧ Keep h0 h [] ∧ (h0.size ≤ r ∧ n0 ≤ r) ∧ Exa Z h r "java/lang/String" ∧ Fld Z h r "java/lang/String" "coder" "B" (.int (0 : Int32)) ∧ Fld Z h r "java/lang/String" "value" "[B" (.ref r1) ∧ (h0.size ≤ r1 ∧ n0 ≤ r1) ∧ Arv Z h r1 rk2 .byte (3 : Int32) [(.int e102_30_2_18.toInt8.toInt32), (.int e83_30_2_18.toInt8.toInt32), (.int (82 : Int32))] (.int (0 : Int32))
set_option maxRecDepth 65536 in
set_option maxHeartbeats 40000000 in
theorem rm4_12 (l : Launch) (Z : State) (a0 : Array Value) (hw : ∀ d ∈ tables_1, d.before a0 Z = true) (ws : List Jvm.Cond) (o0 : Addr) (w_COMPACT_STRINGS : Int32) (f_o0_value : Int32) (e83_30_2_18 : Int32) (e102_30_2_18 : Int32) (w_DigitOnes : Addr) (cl_w_DigitOnes : Cell) (w_DigitTens : Addr) (cl_w_DigitTens : Cell) (h0 : Heap) (n0 : Nat) (Z0 : n0 ≤ h0.size) (F_o0_repeated : Fld Z h0 o0 "org/hourbook/calendar/HourEnding" "repeated" "Z" (.int (1 : Int32))) (S_COMPACT_STRINGS : Sta Z h0 "java/lang/String" "COMPACT_STRINGS" "Z" (.int w_COMPACT_STRINGS)) (hc7_1_6 : ¬ (w_COMPACT_STRINGS = (0 : Int32))) (F_o0_value : Fld Z h0 o0 "org/hourbook/calendar/HourEnding" "value" "I" (.int f_o0_value)) (hc3_2_1_11 : ¬ (f_o0_value < (0 : Int32))) (hc24_2_1_11 : ¬ ((-10 : Int32) < (-f_o0_value))) (hc24_1_2_1_11 : (-100 : Int32) < (-f_o0_value)) (S_DigitOnes : Sta Z h0 "java/lang/Integer" "DigitOnes" "[B" (.ref w_DigitOnes)) (Ar_w_DigitOnes : Arr Z h0 w_DigitOnes cl_w_DigitOnes .byte) (hin83_6_1_11 : ¬ ((-(-f_o0_value)) < 0 ∨ cl_w_DigitOnes.slots.size ≤ ((-(-f_o0_value))).toNatClampNeg)) (hat83_6_1_11 : cl_w_DigitOnes.slots[((-(-f_o0_value))).toNatClampNeg]? = some (.int e83_30_2_18)) (hc88_6_1_11 : (-f_o0_value) < (-9 : Int32)) (S_DigitTens : Sta Z h0 "java/lang/Integer" "DigitTens" "[B" (.ref w_DigitTens)) (Ar_w_DigitTens : Arr Z h0 w_DigitTens cl_w_DigitTens .byte) (hin102_6_1_11 : ¬ ((-(-f_o0_value)) < 0 ∨ cl_w_DigitTens.slots.size ≤ ((-(-f_o0_value))).toNatClampNeg)) (hat102_6_1_11 : cl_w_DigitTens.slots[((-(-f_o0_value))).toNatClampNeg]? = some (.int e102_30_2_18)) :
    MetFree l (⟨"org/hourbook/calendar/HourEnding", "label", "()Ljava/lang/String;"⟩ : MethodName) (head1 (Jvm.Cond.code (⟨"org/hourbook/calendar/HourEnding", "label", "()Ljava/lang/String;"⟩ : MethodName) prog_6_method_2_code 1 (some (.object "java/lang/String")) :: ws) ({ frames := 6, cells := 6, slots := 35, locals := 105 } : Room)) (fun a U => a = #[(.ref o0)] ∧ Z.Warmed39 U.vm ∧ U.heap = h0 ∧ CHv Z own_EL U.vm h0) (fun _ _ _ _ _ => True) (fun _ U o U' => ∃ v L, o = .returned v ∧ Q4_12 Z o0 w_COMPACT_STRINGS f_o0_value e83_30_2_18 e102_30_2_18 w_DigitOnes cl_w_DigitOnes w_DigitTens cl_w_DigitTens h0 n0 v U'.heap L ∧ CHr Z own_EL U.vm U.heap U'.vm U'.heap ∧ ReturnedEndW U o U' L ({ frames := 6, cells := 6, slots := 35, locals := 105 } : Room).cells ({ frames := 6, cells := 6, slots := 35, locals := 105 } : Room).slots) := by
  refine MetFree.of_bodySF (plainFor_of_name pn_org_hourbook_calendar_HourEnding) hisR ?_
  intro p e s m args below meth c s₁ Bd hml0 hP hK
  obtain ⟨rfl, hZ, hh, hCH⟩ := hP
  have hx := Bd.exec
  have hby := Bd.bytes
  have hml : c.maxLocals = 1 := hml0
  have hown : s.vm.findClass "org/hourbook/calendar/HourEnding" = some m.cls := findClass_of_methodNamed Bd.named
  have hnm := (name_of_methodNamed Bd.named Bd.method).1
  have X0 : Stand p l e ({ frames := 6, cells := 6, slots := 35, locals := 105 } : Room) s m #[(.ref o0)] below meth c s₁ [] 0 0 := Stand.of_body Bd
  have e0 : s₁.heap = h0 := by rw [← hh, Bd.state]; rfl
  have N0 := Fr.nil n0
  show Go p e below (fun o U' => ∃ v L, o = .returned v ∧ Q4_12 Z o0 w_COMPACT_STRINGS f_o0_value e83_30_2_18 e102_30_2_18 w_DigitOnes cl_w_DigitOnes w_DigitTens cl_w_DigitTens h0 n0 v U'.heap L ∧ CHr Z own_EL s.vm s.heap U'.vm U'.heap ∧ ReturnedEndW s o U' L ({ frames := 6, cells := 6, slots := 35, locals := 105 } : Room).cells ({ frames := 6, cells := 6, slots := 35, locals := 105 } : Room).slots) (s₁.setTop (entryFrame m #[(.ref o0)] 1))
  refine Go.of (fun _ k => castTop (ef_4 m o0) k) ?_
  show Go p e below _ (s₁.setTop (mkF m 0 #[.val (.ref o0)] []))
  refine Go.of (fun _ k => XS.aloadN X0.here hx rfl (hb hby d4_0) rfl rfl k) ?_
  show Go p e below _ (s₁.setTop (mkF m 1 #[.val (.ref o0)] [(.ref o0)]))
  obtain ⟨T1, X1, e1, st1⟩ := getF X0 hx hZ hown (host := "") (Or.inl (hw _ (List.mem_of_getElem? (i := 17) rfl))) Via.refl e0 F_o0_repeated (g := (mkF m 1 #[.val (.ref o0)] [(.ref o0)])) rfl rfl (hb hby d4_1)
  refine Go.of st1 ?_
  show Go p e below _ (T1.setTop (mkF m 4 #[.val (.ref o0)] [(.int (1 : Int32))]))
  refine Go.of (fun _ k => XS.ifNo X1.here hx rfl (hb hby d4_4) rfl ((if0 _ _).trans (feq (by decide : ¬ ((1 : Int32) = (0 : Int32)))).1) k) ?_
  show Go p e below _ (T1.setTop (mkF m 7 #[.val (.ref o0)] []))
  obtain ⟨T2, h2, X2, e2, E2, A2, D2, -, st2⟩ := newO X1 hx hZ hown (hw _ (List.mem_of_getElem? (i := 24) rfl)) (hw _ (List.mem_of_getElem? (i := 25) rfl)) (hw _ (List.mem_of_getElem? (i := 26) rfl)) e1 (g := (mkF m 7 #[.val (.ref o0)] [])) rfl (hb hby d4_7) (by decide) (by decide)
  obtain ⟨ob2, g2⟩ : ∃ z, z = h0.size := ⟨_, rfl⟩
  rw [← g2] at A2 D2 st2
  refine Go.of st2 ?_
  have g_ob2 : n0 ≤ ob2 := Nat.le_trans Z0 (Nat.le_of_eq g2.symm)
  have sz_ob2 : h0.size ≤ ob2 := Nat.le_trans ((Keep.refl h0 [])).1 (Nat.le_of_eq g2.symm)
  have K2 : Keep h0 h2 [] := ((Keep.refl h0 [])).ext E2
  have Z2 : n0 ≤ h2.size := Nat.le_trans Z0 E2.1
  have f3 : Fld Z h2 ob2 "java/lang/AbstractStringBuilder" "value" "[B" .null := D2 (Or.inl (hw _ (List.mem_of_getElem? (i := 41) rfl))) (ty := (.array .byte)) (by decide)
  have f4 : Fld Z h2 ob2 "java/lang/AbstractStringBuilder" "coder" "B" (.int (0 : Int32)) := D2 (Or.inl (hw _ (List.mem_of_getElem? (i := 43) rfl))) (ty := .byte) (by decide)
  have f5 : Fld Z h2 ob2 "java/lang/AbstractStringBuilder" "count" "I" (.int (0 : Int32)) := D2 (Or.inl (hw _ (List.mem_of_getElem? (i := 55) rfl))) (ty := .int) (by decide)
  show Go p e below _ (T2.setTop (mkF m 10 #[.val (.ref o0)] [(.ref ob2)]))
  refine Go.of (fun _ k => XS.dup X2.here hx rfl (hb hby d4_10) rfl rfl k) ?_
  show Go p e below _ (T2.setTop (mkF m 11 #[.val (.ref o0)] [(.ref ob2), (.ref ob2)]))
  have c7 : Sta Z h2 "java/lang/String" "COMPACT_STRINGS" "Z" (.int w_COMPACT_STRINGS) := (Sta.ext E2 S_COMPACT_STRINGS)
  obtain ⟨_, _, ⟨T6, L6, k6, n6⟩, -, X6, ⟨Lc6, hQ6, l6, y6, z6⟩, st6⟩ := X2.specialBack hx (y := (⟨"java/lang/StringBuilder", "<init>", "()V"⟩ : MethodName)) rfl hown (mvT hZ (hw _ (List.mem_of_getElem? (i := 27) rfl))) (mvT hZ (hw _ (List.mem_of_getElem? (i := 28) rfl))) (mvT hZ (hw _ (List.mem_of_getElem? (i := 29) rfl))) (by decide) (backOf (W := 1) (rm5 l Z a0 hw [] ob2 (.int (0 : Int32)) w_COMPACT_STRINGS .null (.int (0 : Int32)) h2 n0 Z2 f5 c7 hc7_1_6 A2 f3 g_ob2 f4) hZ (hw _ (List.mem_of_getElem? (i := 29) rfl)) (hw _ (List.mem_of_getElem? (i := 26) rfl)) (by decide) (by decide)) (g := (mkF m 11 #[.val (.ref o0)] [(.ref ob2), (.ref ob2)])) rfl (by rw [hml]; rfl) (Steps.refl _) (a := ob2) (argsL := []) (rest := [(.ref ob2)]) (lenOf pd_20 rfl) rfl (by show 2 * 0 + _ ≤ _; exact Nat.le_of_eq rfl) (hb hby d4_11) (fun _ _ => ⟨rfl, e2, (by decide : 1 + 1 ≤ _), (by decide : 4 + 16 ≤ _)⟩)
  dsimp only [Pt.U, Pt.locs, Pt.cells, Pt.slots] at X6 l6 y6 z6 st6 hQ6
  subst l6 y6 z6
  obtain ⟨r0_6, rk1_6, rfl, Nq6, q6_0, q6_1, q6_2, q6_3, q6_4, q6_5, q6_6⟩ := hQ6
  have N6 := Fr.app N0 Nq6
  refine Go.tr st6 ?_
  have K6 : Keep h0 T6.heap [] := (K2).trans q6_0 (allS (Or.inr sz_ob2) all0)
  have Z6 : n0 ≤ T6.heap.size := Nat.le_trans Z2 q6_0.1
  have g_r0_6 : n0 ≤ r0_6 := q6_5.2
  have sz_r0_6 : h0.size ≤ r0_6 := Nat.le_trans (K2).1 q6_5.1
  show Go p e below _ (T6.setTop (mkF m 14 #[.val (.ref o0)] [(.ref ob2)]))
  refine Go.of (fun _ k => XS.aloadN X6.here hx rfl (hb hby d4_14) rfl rfl k) ?_
  show Go p e below _ (T6.setTop (mkF m 15 #[.val (.ref o0)] [(.ref o0), (.ref ob2)]))
  have c8 : Fld Z h2 o0 "org/hourbook/calendar/HourEnding" "value" "I" (.int f_o0_value) := (Fld.ext E2 F_o0_value)
  have c9 : Fld Z T6.heap o0 "org/hourbook/calendar/HourEnding" "value" "I" (.int f_o0_value) := (c8.keep q6_0 (ninS (Nat.ne_of_lt (Nat.lt_of_lt_of_le F_o0_repeated.lt (Nat.le_of_eq g2.symm))) nin0))
  obtain ⟨T10, X10, e10, st10⟩ := getF X6 hx hZ hown (host := "") (Or.inl (hw _ (List.mem_of_getElem? (i := 15) rfl))) Via.refl rfl c9 (g := (mkF m 15 #[.val (.ref o0)] [(.ref o0), (.ref ob2)])) rfl rfl (hb hby d4_15)
  refine Go.of st10 ?_
  show Go p e below _ (T10.setTop (mkF m 18 #[.val (.ref o0)] [(.int f_o0_value), (.ref ob2)]))
  have c12 : Sta Z T6.heap "java/lang/String" "COMPACT_STRINGS" "Z" (.int w_COMPACT_STRINGS) := (own_Sta_keep c7 q6_0 (own_pS (own_plainE A2) own_p0))
  have c13 : Sta Z h2 "java/lang/Integer" "DigitOnes" "[B" (.ref w_DigitOnes) := (Sta.ext E2 S_DigitOnes)
  have c14 : Sta Z T6.heap "java/lang/Integer" "DigitOnes" "[B" (.ref w_DigitOnes) := (own_Sta_keep c13 q6_0 (own_pS (own_plainE A2) own_p0))
  have c15 : Arr Z h2 w_DigitOnes cl_w_DigitOnes .byte := (Arr.ext E2 Ar_w_DigitOnes)
  have c16 : Arr Z T6.heap w_DigitOnes cl_w_DigitOnes .byte := ⟨q6_0.2.1 _ _ c15.1 (ninS (Nat.ne_of_lt (Nat.lt_of_lt_of_le Ar_w_DigitOnes.lt (Nat.le_of_eq g2.symm))) nin0), c15.2⟩
  have c17 : Sta Z h2 "java/lang/Integer" "DigitTens" "[B" (.ref w_DigitTens) := (Sta.ext E2 S_DigitTens)
  have c18 : Sta Z T6.heap "java/lang/Integer" "DigitTens" "[B" (.ref w_DigitTens) := (own_Sta_keep c17 q6_0 (own_pS (own_plainE A2) own_p0))
  have c19 : Arr Z h2 w_DigitTens cl_w_DigitTens .byte := (Arr.ext E2 Ar_w_DigitTens)
  have c20 : Arr Z T6.heap w_DigitTens cl_w_DigitTens .byte := ⟨q6_0.2.1 _ _ c19.1 (ninS (Nat.ne_of_lt (Nat.lt_of_lt_of_le Ar_w_DigitTens.lt (Nat.le_of_eq g2.symm))) nin0), c19.2⟩
  obtain ⟨cq11, kq11, q11a, q11b, q11c⟩ := isOf hZ e10 q6_1
  obtain ⟨_, _, ⟨T11, L11, k11, n11⟩, -, X11, ⟨Lc11, hQ11, l11, y11, z11⟩, st11⟩ := X10.virtualBack hx (y := (⟨"java/lang/StringBuilder", "append", "(I)Ljava/lang/StringBuilder;"⟩ : MethodName)) (z := (⟨"java/lang/StringBuilder", "append", "(I)Ljava/lang/StringBuilder;"⟩ : MethodName)) hown (mvT hZ (hw _ (List.mem_of_getElem? (i := 44) rfl))) (mvT hZ (hw _ (List.mem_of_getElem? (i := 45) rfl))) (notFace_of_selects (args := #[]) (mvT hZ (hw _ (List.mem_of_getElem? (i := 47) rfl)))) (mvT hZ (hw _ (List.mem_of_getElem? (i := 47) rfl))) (mvT hZ (hw _ (List.mem_of_getElem? (i := 46) rfl))) (by decide) (backOf (W := 0) (rm7_2 l Z a0 hw [] ob2 f_o0_value e83_30_2_18 e102_30_2_18 r0_6 rk1_6 w_COMPACT_STRINGS w_DigitOnes cl_w_DigitOnes w_DigitTens cl_w_DigitTens T6.heap n0 Z6 q6_3 hc3_2_1_11 hc24_2_1_11 hc24_1_2_1_11 q6_4 q6_6 q6_2 q6_1 c12 hc7_1_6 c14 c16 hin83_6_1_11 hat83_6_1_11 g_r0_6 hc88_6_1_11 c18 c20 (Ne.symm (Nat.ne_of_lt (Nat.lt_of_lt_of_le c19.lt q6_5.1))) hin102_6_1_11 hat102_6_1_11 (Ne.symm (Nat.ne_of_lt (Nat.lt_of_lt_of_le A2.lt q6_5.1))) g_ob2) hZ (hw _ (List.mem_of_getElem? (i := 48) rfl)) (hw _ (List.mem_of_getElem? (i := 26) rfl)) (by decide) (by decide)) q11a q11c (g := (mkF m 18 #[.val (.ref o0)] [(.int f_o0_value), (.ref ob2)])) rfl (by rw [hml]; rfl) (Steps.refl _) (argsL := [(.int f_o0_value)]) (rest := []) (lenOf pd_22 rfl) rfl (by show 2 * 0 + _ ≤ _; exact Nat.le_of_eq rfl) (hb hby d4_18) (fun _ _ => ⟨rfl, e10, (by decide : 2 + 0 ≤ _), (by decide : 20 + 0 ≤ _)⟩)
  dsimp only [Pt.U, Pt.locs, Pt.cells, Pt.slots] at X11 l11 y11 z11 st11 hQ11
  subst l11 y11 z11
  obtain ⟨rfl, Nq11, q11_0, q11_1, q11_2, q11_3, q11_4, q11_5⟩ := hQ11
  have N11 := Fr.app N6 Nq11
  refine Go.tr st11 ?_
  have K11 : Keep h0 T11.heap [] := (K6).trans q11_0 (allS (Or.inr sz_r0_6) (allS (Or.inr sz_ob2) all0))
  have Z11 : n0 ≤ T11.heap.size := Nat.le_trans Z6 q11_0.1
  show Go p e below _ (T11.setTop (mkF m 21 #[.val (.ref o0)] [(.ref ob2)]))
  have CA21 : CHr Z own_EL s.vm h0 s.vm T11.heap := CHr.keep (K11) sf0 hCH
  obtain ⟨a21, T21, h21, k121, b21, kk21, X21, e21, E21, hS21, hk21, hZ21, hown21, A21, Fc21, Fv21, V21, la21, lb21, CB21, Lt21, sa21, st21⟩ := ldcCH (s := s) (vm0 := s.vm) X11 hx hZ hown (hw _ (List.mem_of_getElem? (i := 74) rfl)) (own_wS hw) rfl ((State.WarmedH.refl s).since 0) (Nat.zero_le _) (own_ew hw) (by decide) CA21.1 (vs := [(.int (82 : Int32))]) (z := (1 : Int32)) ⟨by decide, by decide⟩ (by decide) (by decide) (g := (mkF m 21 #[.val (.ref o0)] [(.ref ob2)])) rfl (hb hby d4_21) (n := 4) (by decide) (by decide) (by decide) (by decide)
  refine Go.of st21 ?_
  have K21 : Keep h0 h21 [] := (K11).ext E21
  have Z21 : n0 ≤ h21.size := Nat.le_trans Z11 E21.1
  have sf21_ob2 : Safe Z own_EL T21.vm h21 ob2 := CB21.safe q11_2.lt (Safe.keep (K11) sf0 hCH (Safe.new sz_ob2))
  have sf21_r0_6 : Safe Z own_EL T21.vm h21 r0_6 := CB21.safe q11_1.lt (Safe.keep (K11) sf0 hCH (Safe.new sz_r0_6))
  show Go p e below _ (T21.setTop (mkF m 23 #[.val (.ref o0)] [(.ref a21), (.ref ob2)]))
  have c23 : Sta Z T11.heap "java/lang/String" "COMPACT_STRINGS" "Z" (.int w_COMPACT_STRINGS) := (own_Sta_keep c12 q11_0 (own_pS (own_plainV q6_6) (own_pS (own_plainE q6_1) own_p0)))
  have c24 : Sta Z h21 "java/lang/String" "COMPACT_STRINGS" "Z" (.int w_COMPACT_STRINGS) := (Sta.ext E21 c23)
  have c25 : Fld Z h21 ob2 "java/lang/AbstractStringBuilder" "count" "I" (.int (2 : Int32)) := (Fld.ext E21 q11_4)
  have c26 : Fld Z h21 ob2 "java/lang/AbstractStringBuilder" "value" "[B" (.ref r0_6) := (Fld.ext E21 q11_5)
  have c27 : Arv Z h21 r0_6 rk1_6 .byte (16 : Int32) [(.int e102_30_2_18.toInt8.toInt32), (.int e83_30_2_18.toInt8.toInt32), (.int (0 : Int32)), (.int (0 : Int32)), (.int (0 : Int32)), (.int (0 : Int32)), (.int (0 : Int32)), (.int (0 : Int32)), (.int (0 : Int32)), (.int (0 : Int32)), (.int (0 : Int32)), (.int (0 : Int32)), (.int (0 : Int32)), (.int (0 : Int32)), (.int (0 : Int32)), (.int (0 : Int32))] (.int (0 : Int32)) := (q11_1.ext E21)
  have c28 : Fld Z h21 ob2 "java/lang/AbstractStringBuilder" "coder" "B" (.int (0 : Int32)) := (Fld.ext E21 q11_3)
  have c29 : Exa Z h21 ob2 "java/lang/StringBuilder" := (Exa.ext E21 q11_2)
  obtain ⟨cq22, kq22, q22a, q22b, q22c⟩ := isOf hZ21 e21 c29
  obtain ⟨_, _, ⟨T22, L22, k22, n22⟩, -, X22, ⟨Lc22, hQ22, l22, y22, z22⟩, st22⟩ := X21.virtualBack hx (y := (⟨"java/lang/StringBuilder", "append", "(Ljava/lang/String;)Ljava/lang/StringBuilder;"⟩ : MethodName)) (z := (⟨"java/lang/StringBuilder", "append", "(Ljava/lang/String;)Ljava/lang/StringBuilder;"⟩ : MethodName)) hown21 (mvT hZ21 (hw _ (List.mem_of_getElem? (i := 80) rfl))) (mvT hZ21 (hw _ (List.mem_of_getElem? (i := 81) rfl))) (notFace_of_selects (args := #[]) (mvT hZ21 (hw _ (List.mem_of_getElem? (i := 83) rfl)))) (mvT hZ21 (hw _ (List.mem_of_getElem? (i := 83) rfl))) (mvT hZ21 (hw _ (List.mem_of_getElem? (i := 82) rfl))) (by decide) (backOf (W := 0) (rm13_2 l Z a0 hw [] ob2 a21 e102_30_2_18.toInt8.toInt32 e83_30_2_18.toInt8.toInt32 (82 : Int32) b21 kk21 w_COMPACT_STRINGS r0_6 rk1_6 h21 n0 Z21 Fv21 V21 c24 hc7_1_6 Fc21 A21 c25 c26 c27 c28 c29 g_r0_6 (Ne.symm (Nat.ne_of_lt (Nat.lt_of_lt_of_le A2.lt q6_5.1))) g_ob2) hZ21 (hw _ (List.mem_of_getElem? (i := 84) rfl)) (hw _ (List.mem_of_getElem? (i := 26) rfl)) (by decide) (by decide)) q22a q22c (g := (mkF m 23 #[.val (.ref o0)] [(.ref a21), (.ref ob2)])) rfl (by rw [hml]; rfl) (Steps.refl _) (argsL := [(.ref a21)]) (rest := []) (lenOf pd_23 rfl) rfl (by show 2 * 0 + _ ≤ _; exact Nat.le_of_eq rfl) (hb hby d4_23) (fun _ _ => ⟨rfl, e21, (by decide : 4 + 0 ≤ _), (by decide : 28 + 0 ≤ _)⟩)
  dsimp only [Pt.U, Pt.locs, Pt.cells, Pt.slots] at X22 l22 y22 z22 st22 hQ22
  subst l22 y22 z22
  obtain ⟨rfl, Nq22, q22_0, q22_1, q22_2, q22_3, q22_4, q22_5⟩ := hQ22
  have N22 := Fr.app N11 Nq22
  refine Go.tr st22 ?_
  have J22 : Keep h21 T22.heap [ob2, r0_6] := ((Keep.refl h21 [ob2, r0_6])).trans q22_0 (allS (Or.inl (List.mem_of_getElem? (i := 1) rfl)) (allS (Or.inl (List.mem_of_getElem? (i := 0) rfl)) all0))
  have K22 : Keep h0 T22.heap [] := (K21).trans q22_0 (allS (Or.inr sz_r0_6) (allS (Or.inr sz_ob2) all0))
  have Z22 : n0 ≤ T22.heap.size := Nat.le_trans Z21 q22_0.1
  show Go p e below _ (T22.setTop (mkF m 26 #[.val (.ref o0)] [(.ref ob2)]))
  have c31 : Sta Z T22.heap "java/lang/String" "COMPACT_STRINGS" "Z" (.int w_COMPACT_STRINGS) := (own_Sta_keep c24 q22_0 (own_pS (own_plainV c27) (own_pS (own_plainE c29) own_p0)))
  obtain ⟨cq30, kq30, q30a, q30b, q30c⟩ := isOf hZ21 rfl q22_2
  obtain ⟨_, _, ⟨T30, L30, k30, n30⟩, -, X30, ⟨Lc30, hQ30, l30, y30, z30⟩, st30⟩ := X22.virtualBack hx (y := (⟨"java/lang/StringBuilder", "toString", "()Ljava/lang/String;"⟩ : MethodName)) (z := (⟨"java/lang/StringBuilder", "toString", "()Ljava/lang/String;"⟩ : MethodName)) hown21 (mvT hZ21 (hw _ (List.mem_of_getElem? (i := 122) rfl))) (mvT hZ21 (hw _ (List.mem_of_getElem? (i := 123) rfl))) (notFace_of_selects (args := #[]) (mvT hZ21 (hw _ (List.mem_of_getElem? (i := 125) rfl)))) (mvT hZ21 (hw _ (List.mem_of_getElem? (i := 125) rfl))) (mvT hZ21 (hw _ (List.mem_of_getElem? (i := 124) rfl))) (by decide) (backOf (W := 0) (rm20_3 l Z a0 hw [] ob2 e102_30_2_18.toInt8.toInt32 e83_30_2_18.toInt8.toInt32 (82 : Int32) r0_6 w_COMPACT_STRINGS rk1_6 T22.heap n0 Z22 q22_5 q22_2 q22_4 c31 hc7_1_6 q22_3 q22_1) hZ21 (hw _ (List.mem_of_getElem? (i := 126) rfl)) (hw _ (List.mem_of_getElem? (i := 26) rfl)) (by decide) (by decide)) q30a q30c (g := (mkF m 26 #[.val (.ref o0)] [(.ref ob2)])) rfl (by rw [hml]; rfl) (Steps.refl _) (argsL := []) (rest := []) (lenOf pd_24 rfl) rfl (by show 2 * 0 + _ ≤ _; exact Nat.le_of_eq rfl) (hb hby d4_26) (fun _ _ => ⟨rfl, rfl, (by decide : 4 + 2 ≤ _), (by decide : 28 + 7 ≤ _)⟩)
  dsimp only [Pt.U, Pt.locs, Pt.cells, Pt.slots] at X30 l30 y30 z30 st30 hQ30
  subst l30 y30 z30
  obtain ⟨r_30, r1_30, rk2_30, rfl, Nq30, q30_0, q30_1, q30_2, q30_3, q30_4, q30_5, q30_6⟩ := hQ30
  have N30 := Fr.app N22 Nq30
  refine Go.tr st30 ?_
  have J30 : Keep h21 T30.heap [ob2, r0_6] := (J22).trans q30_0 all0
  have K30 : Keep h0 T30.heap [] := (K22).trans q30_0 all0
  have Z30 : n0 ≤ T30.heap.size := Nat.le_trans Z22 q30_0.1
  have g_r_30 : n0 ≤ r_30 := q30_1.2
  have sz_r_30 : h0.size ≤ r_30 := Nat.le_trans (K22).1 q30_1.1
  have g_r1_30 : n0 ≤ r1_30 := q30_5.2
  have sz_r1_30 : h0.size ≤ r1_30 := Nat.le_trans (K22).1 q30_5.1
  show Go p e below _ (T30.setTop (mkF m 29 #[.val (.ref o0)] [(.ref r_30)]))
  refine Go.of (fun _ k => XS.goto X30.here hx rfl (pc0 := 29) (pc' := 39) rfl (hb hby d4_29) (by decide) (by decide) k) ?_
  show Go p e below _ (T30.setTop (mkF m 39 #[.val (.ref o0)] [(.ref r_30)]))
  obtain ⟨fs, hr, hrun, hended, hRW⟩ := X30.leaveW (s := s) hS21 (by exact Nat.le_trans hk21 (J30).1) (v := some (.ref r_30)) (fun h => by rw [Bd.returns] at h; cases h)
  have hC : CHr Z own_EL s.vm s.heap T30.vm T30.heap := by rw [hh]; exact CA21.trans (CB21.trans ((CHr.keep (J30) (sfS sf21_ob2 (sfS sf21_r0_6 sf0)) CB21.1).trans (CHv.at (s := s) X30 hZ21 (own_ew hw) (CHr.keep (J30) (sfS sf21_ob2 (sfS sf21_r0_6 sf0)) CB21.1).1)))
  refine Go.mk _ _ ?_ hrun hended ⟨_, _, rfl, ?_, hC, ⟨hRW.1, hRW.2.1, hRW.2.2.1, hRW.2.2.2.mono (by decide) (by decide)⟩⟩
  · exact retOut X30 hx Bd.returns rfl (Or.inr (Or.inr (Or.inr (Or.inr ⟨rfl, rfl, rfl⟩)))) (hb hby d4_39) hr
  · show Q4_12 Z o0 w_COMPACT_STRINGS f_o0_value e83_30_2_18 e102_30_2_18 w_DigitOnes cl_w_DigitOnes w_DigitTens cl_w_DigitTens h0 n0 _ T30.heap _
    exact ⟨r_30, r1_30, rk2_30, rfl, N30, K30, ⟨sz_r_30, g_r_30⟩, q30_2, q30_3, q30_4, ⟨sz_r1_30, g_r1_30⟩, q30_6⟩
def own_R (v : Int32) : Prop := v = (1 : Int32) ∨ v = (2 : Int32) ∨ v = (3 : Int32) ∨ v = (4 : Int32) ∨ v = (5 : Int32) ∨ v = (6 : Int32) ∨ v = (7 : Int32) ∨ v = (8 : Int32) ∨ v = (9 : Int32) ∨ v = (10 : Int32) ∨ v = (11 : Int32) ∨ v = (12 : Int32) ∨ v = (13 : Int32) ∨ v = (14 : Int32) ∨ v = (15 : Int32) ∨ v = (16 : Int32) ∨ v = (17 : Int32) ∨ v = (18 : Int32) ∨ v = (19 : Int32) ∨ v = (20 : Int32) ∨ v = (21 : Int32) ∨ v = (22 : Int32) ∨ v = (23 : Int32) ∨ v = (24 : Int32)
theorem pd_25 : parseMethodDescriptor "(IZ)V" = some ⟨[.int, .boolean], none⟩ := by decide +kernel
theorem own_v0 (val eo et : Int32) (hr : own_R val) (heo : eo = (48 : Int32) + val % (10 : Int32)) (het : et = (48 : Int32) + val / (10 : Int32)) (h0 : val < (10 : Int32)) : ¬ (val < (0 : Int32)) := by
  subst heo het
  unfold own_R at hr
  rcases hr with rfl | rfl | rfl | rfl | rfl | rfl | rfl | rfl | rfl | rfl | rfl | rfl | rfl | rfl | rfl | rfl | rfl | rfl | rfl | rfl | rfl | rfl | rfl | rfl
  all_goals (revert h0; decide)
theorem own_v1 (val eo et : Int32) (hr : own_R val) (heo : eo = (48 : Int32) + val % (10 : Int32)) (het : et = (48 : Int32) + val / (10 : Int32)) (h0 : val < (10 : Int32)) : (-10 : Int32) < (-val) := by
  subst heo het
  unfold own_R at hr
  rcases hr with rfl | rfl | rfl | rfl | rfl | rfl | rfl | rfl | rfl | rfl | rfl | rfl | rfl | rfl | rfl | rfl | rfl | rfl | rfl | rfl | rfl | rfl | rfl | rfl
  all_goals (revert h0; decide)
theorem own_v2 (val eo et : Int32) (hr : own_R val) (heo : eo = (48 : Int32) + val % (10 : Int32)) (het : et = (48 : Int32) + val / (10 : Int32)) (h0 : val < (10 : Int32)) : (-100 : Int32) < (-val) := by
  subst heo het
  unfold own_R at hr
  rcases hr with rfl | rfl | rfl | rfl | rfl | rfl | rfl | rfl | rfl | rfl | rfl | rfl | rfl | rfl | rfl | rfl | rfl | rfl | rfl | rfl | rfl | rfl | rfl | rfl
  all_goals (revert h0; decide)
theorem own_v3 (val eo et : Int32) (hr : own_R val) (heo : eo = (48 : Int32) + val % (10 : Int32)) (het : et = (48 : Int32) + val / (10 : Int32)) (h0 : val < (10 : Int32)) : ¬ ((-val) < (-9 : Int32)) := by
  subst heo het
  unfold own_R at hr
  rcases hr with rfl | rfl | rfl | rfl | rfl | rfl | rfl | rfl | rfl | rfl | rfl | rfl | rfl | rfl | rfl | rfl | rfl | rfl | rfl | rfl | rfl | rfl | rfl | rfl
  all_goals (revert h0; decide)
theorem pd_26 : parseMethodDescriptor "(I)C" = some ⟨[.int], some .char⟩ := by decide +kernel
theorem own_v4 (val eo et : Int32) (hr : own_R val) (heo : eo = (48 : Int32) + val % (10 : Int32)) (het : et = (48 : Int32) + val / (10 : Int32)) (h0 : val < (10 : Int32)) : (nar .char (nar .char ((eo.toInt8.toInt32 &&& (255 : Int32)).toUInt32.toUInt16.toUInt32.toInt32))) = (((48 : Int32) + (val % (10 : Int32))).toUInt32.toUInt16.toUInt32.toInt32) := by
  subst heo het
  unfold own_R at hr
  rcases hr with rfl | rfl | rfl | rfl | rfl | rfl | rfl | rfl | rfl | rfl | rfl | rfl | rfl | rfl | rfl | rfl | rfl | rfl | rfl | rfl | rfl | rfl | rfl | rfl
  all_goals (revert h0; decide)
theorem own_v5 (val eo et : Int32) (hr : own_R val) (heo : eo = (48 : Int32) + val % (10 : Int32)) (het : et = (48 : Int32) + val / (10 : Int32)) (h0 : ¬ (val < (10 : Int32))) : ¬ (val < (0 : Int32)) := by
  subst heo het
  unfold own_R at hr
  rcases hr with rfl | rfl | rfl | rfl | rfl | rfl | rfl | rfl | rfl | rfl | rfl | rfl | rfl | rfl | rfl | rfl | rfl | rfl | rfl | rfl | rfl | rfl | rfl | rfl
  all_goals (revert h0; decide)
theorem own_v6 (val eo et : Int32) (hr : own_R val) (heo : eo = (48 : Int32) + val % (10 : Int32)) (het : et = (48 : Int32) + val / (10 : Int32)) (h0 : ¬ (val < (10 : Int32))) : ¬ ((-10 : Int32) < (-val)) := by
  subst heo het
  unfold own_R at hr
  rcases hr with rfl | rfl | rfl | rfl | rfl | rfl | rfl | rfl | rfl | rfl | rfl | rfl | rfl | rfl | rfl | rfl | rfl | rfl | rfl | rfl | rfl | rfl | rfl | rfl
  all_goals (revert h0; decide)
theorem own_v7 (val eo et : Int32) (hr : own_R val) (heo : eo = (48 : Int32) + val % (10 : Int32)) (het : et = (48 : Int32) + val / (10 : Int32)) (h0 : ¬ (val < (10 : Int32))) : (-100 : Int32) < (-val) := by
  subst heo het
  unfold own_R at hr
  rcases hr with rfl | rfl | rfl | rfl | rfl | rfl | rfl | rfl | rfl | rfl | rfl | rfl | rfl | rfl | rfl | rfl | rfl | rfl | rfl | rfl | rfl | rfl | rfl | rfl
  all_goals (revert h0; decide)
theorem own_v8 (val eo et : Int32) (hr : own_R val) (heo : eo = (48 : Int32) + val % (10 : Int32)) (het : et = (48 : Int32) + val / (10 : Int32)) (h0 : ¬ (val < (10 : Int32))) : (-val) < (-9 : Int32) := by
  subst heo het
  unfold own_R at hr
  rcases hr with rfl | rfl | rfl | rfl | rfl | rfl | rfl | rfl | rfl | rfl | rfl | rfl | rfl | rfl | rfl | rfl | rfl | rfl | rfl | rfl | rfl | rfl | rfl | rfl
  all_goals (revert h0; decide)
theorem own_v9 (val eo et : Int32) (hr : own_R val) (heo : eo = (48 : Int32) + val % (10 : Int32)) (het : et = (48 : Int32) + val / (10 : Int32)) (h0 : ¬ (val < (10 : Int32))) : (nar .char (nar .char ((et.toInt8.toInt32 &&& (255 : Int32)).toUInt32.toUInt16.toUInt32.toInt32))) = (((48 : Int32) + (val / (10 : Int32))).toUInt32.toUInt16.toUInt32.toInt32) := by
  subst heo het
  unfold own_R at hr
  rcases hr with rfl | rfl | rfl | rfl | rfl | rfl | rfl | rfl | rfl | rfl | rfl | rfl | rfl | rfl | rfl | rfl | rfl | rfl | rfl | rfl | rfl | rfl | rfl | rfl
  all_goals (revert h0; decide)
theorem own_v10 (val eo et : Int32) (hr : own_R val) (heo : eo = (48 : Int32) + val % (10 : Int32)) (het : et = (48 : Int32) + val / (10 : Int32)) (h0 : ¬ (val < (10 : Int32))) : (nar .char (nar .char ((eo.toInt8.toInt32 &&& (255 : Int32)).toUInt32.toUInt16.toUInt32.toInt32))) = (((48 : Int32) + (val % (10 : Int32))).toUInt32.toUInt16.toUInt32.toInt32) := by
  subst heo het
  unfold own_R at hr
  rcases hr with rfl | rfl | rfl | rfl | rfl | rfl | rfl | rfl | rfl | rfl | rfl | rfl | rfl | rfl | rfl | rfl | rfl | rfl | rfl | rfl | rfl | rfl | rfl | rfl
  all_goals (revert h0; decide)
theorem own_v11 (val eo et : Int32) (hr : own_R val) (heo : eo = (48 : Int32) + val % (10 : Int32)) (het : et = (48 : Int32) + val / (10 : Int32)) (h0 : val < (10 : Int32)) : (nar .char (nar .char (((82 : Int32) &&& (255 : Int32)).toUInt32.toUInt16.toUInt32.toInt32))) = (82 : Int32) := by
  subst heo het
  unfold own_R at hr
  rcases hr with rfl | rfl | rfl | rfl | rfl | rfl | rfl | rfl | rfl | rfl | rfl | rfl | rfl | rfl | rfl | rfl | rfl | rfl | rfl | rfl | rfl | rfl | rfl | rfl
  all_goals (revert h0; decide)
theorem own_v12 (val eo et : Int32) (hr : own_R val) (heo : eo = (48 : Int32) + val % (10 : Int32)) (het : et = (48 : Int32) + val / (10 : Int32)) (h0 : ¬ (val < (10 : Int32))) : (nar .char (nar .char (((82 : Int32) &&& (255 : Int32)).toUInt32.toUInt16.toUInt32.toInt32))) = (82 : Int32) := by
  subst heo het
  unfold own_R at hr
  rcases hr with rfl | rfl | rfl | rfl | rfl | rfl | rfl | rfl | rfl | rfl | rfl | rfl | rfl | rfl | rfl | rfl | rfl | rfl | rfl | rfl | rfl | rfl | rfl | rfl
  all_goals (revert h0; decide)
theorem pn_org_hourbook_calendar_HourEndingLabelPinLaw : plainName "org/hourbook/calendar/HourEndingLabelPinLaw" = true := by first | (simp [plainName, overriddenIn]; done) | decide +kernel
theorem ef_0 (m : MethodId) (x0 : Int32) (x1 : Int32) : entryFrame m #[(.int x0), (.int x1)] maxLocals = mkF m 0 #[.val (.int x0), .val (.int x1), .unset, .unset, .unset, .unset, .unset, .unset, .unset] [] := by first | (simp [entryFrame, mkF, argsToLocals, Value.category, maxLocals]; done) | rfl
def Q0 (Z : State) (val : Int32) (eo : Int32) (et : Int32) (p0 : Int32) (p1 : Int32) (w_COMPACT_STRINGS : Int32) (w_DigitOnes : Addr) (cl_w_DigitOnes : Cell) (v_SIOOBE_FORMATTER : Value) (w_DigitTens : Addr) (cl_w_DigitTens : Cell) (h0 : Heap) (n0 : Nat) (v : Option Value) (h : Heap) (L : List Loc) : Prop := v = some (.int (1 : Int32)) ∧ Fr n0 L
set_option maxRecDepth 65536 in
set_option maxHeartbeats 40000000 in
theorem rm0 (l : Launch) (Z : State) (a0 : Array Value) (hw : ∀ d ∈ tables_1, d.before a0 Z = true) (ws : List Jvm.Cond) (val : Int32) (eo : Int32) (et : Int32) (p0 : Int32) (p1 : Int32) (w_COMPACT_STRINGS : Int32) (w_DigitOnes : Addr) (cl_w_DigitOnes : Cell) (v_SIOOBE_FORMATTER : Value) (w_DigitTens : Addr) (cl_w_DigitTens : Cell) (h0 : Heap) (n0 : Nat) (Z0 : n0 ≤ h0.size) (hval : (((p0 &&& (2147483647 : Int32)) % (24 : Int32)) + (1 : Int32)) = val) (hR : own_R val) (heo : eo = (48 : Int32) + val % (10 : Int32)) (het : et = (48 : Int32) + val / (10 : Int32)) (S_COMPACT_STRINGS : Sta Z h0 "java/lang/String" "COMPACT_STRINGS" "Z" (.int w_COMPACT_STRINGS)) (hc8_3_7 : ¬ (w_COMPACT_STRINGS = (0 : Int32))) (S_DigitOnes : Sta Z h0 "java/lang/Integer" "DigitOnes" "[B" (.ref w_DigitOnes)) (Ar_w_DigitOnes : Arr Z h0 w_DigitOnes cl_w_DigitOnes .byte) (hin83_4_3_7 : ¬ ((-(-val)) < 0 ∨ cl_w_DigitOnes.slots.size ≤ ((-(-val))).toNatClampNeg)) (hat83_4_3_7 : cl_w_DigitOnes.slots[((-(-val))).toNatClampNeg]? = some (.int eo)) (S_SIOOBE_FORMATTER : Sta Z h0 "jdk/internal/util/Preconditions" "SIOOBE_FORMATTER" "Ljava/util/function/BiFunction;" v_SIOOBE_FORMATTER) (hr_v_SIOOBE_FORMATTER : v_SIOOBE_FORMATTER.isRef = true) (S_DigitTens : Sta Z h0 "java/lang/Integer" "DigitTens" "[B" (.ref w_DigitTens)) (Ar_w_DigitTens : Arr Z h0 w_DigitTens cl_w_DigitTens .byte) (hin102_4_3_17 : ¬ ((-(-val)) < 0 ∨ cl_w_DigitTens.slots.size ≤ ((-(-val))).toNatClampNeg)) (hat102_4_3_17 : cl_w_DigitTens.slots[((-(-val))).toNatClampNeg]? = some (.int et)) :
    MetFree l x (head1 (Jvm.Cond.code x code maxLocals ret :: ws) room_1) (fun a U => a = #[(.int p0), (.int p1)] ∧ Z.Warmed39 U.vm ∧ U.heap = h0 ∧ CHv Z own_EL U.vm h0) (fun _ _ _ _ _ => True) (fun _ U o U' => ∃ v L, o = .returned v ∧ Q0 Z val eo et p0 p1 w_COMPACT_STRINGS w_DigitOnes cl_w_DigitOnes v_SIOOBE_FORMATTER w_DigitTens cl_w_DigitTens h0 n0 v U'.heap L ∧ ReturnedEndW U o U' L room_1.cells room_1.slots) := by
  refine MetFree.of_bodySF (plainFor_of_name pn_org_hourbook_calendar_HourEndingLabelPinLaw) hisR ?_
  intro p e s m args below meth c s₁ Bd hml0 hP hK
  obtain ⟨rfl, hZ, hh, hCH⟩ := hP
  have hx := Bd.exec
  have hby := Bd.bytes
  have hml : c.maxLocals = 9 := hml0
  have hown : s.vm.findClass "org/hourbook/calendar/HourEndingLabelPinLaw" = some m.cls := findClass_of_methodNamed Bd.named
  have hnm := (name_of_methodNamed Bd.named Bd.method).1
  have X0 : Stand p l e room_1 s m #[(.int p0), (.int p1)] below meth c s₁ [] 0 0 := Stand.of_body Bd
  have e0 : s₁.heap = h0 := by rw [← hh, Bd.state]; rfl
  have N0 := Fr.nil n0
  show Go p e below (fun o U' => ∃ v L, o = .returned v ∧ Q0 Z val eo et p0 p1 w_COMPACT_STRINGS w_DigitOnes cl_w_DigitOnes v_SIOOBE_FORMATTER w_DigitTens cl_w_DigitTens h0 n0 v U'.heap L ∧ ReturnedEndW s o U' L room_1.cells room_1.slots) (s₁.setTop (entryFrame m #[(.int p0), (.int p1)] maxLocals))
  refine Go.of (fun _ k => castTop (ef_0 m p0 p1) k) ?_
  show Go p e below _ (s₁.setTop (mkF m 0 #[.val (.int p0), .val (.int p1), .unset, .unset, .unset, .unset, .unset, .unset, .unset] []))
  refine Go.of (fun _ k => XS.iloadN X0.here hx rfl (hb hby at_0) rfl  k) ?_
  show Go p e below _ (s₁.setTop (mkF m 1 #[.val (.int p0), .val (.int p1), .unset, .unset, .unset, .unset, .unset, .unset, .unset] [(.int p0)]))
  refine Go.of (fun _ k => X0.ldcInt hx hown (mvT hZ (hw _ (List.mem_of_getElem? (i := 0) rfl))) (g := (mkF m 1 #[.val (.int p0), .val (.int p1), .unset, .unset, .unset, .unset, .unset, .unset, .unset] [(.int p0)])) rfl (hb hby at_1) _ k) ?_
  show Go p e below _ (s₁.setTop (mkF m 3 #[.val (.int p0), .val (.int p1), .unset, .unset, .unset, .unset, .unset, .unset, .unset] [(.int (2147483647 : Int32)), (.int p0)]))
  refine Go.of (fun _ k => XS.iand X0.here hx rfl (hb hby at_3) rfl k) ?_
  show Go p e below _ (s₁.setTop (mkF m 4 #[.val (.int p0), .val (.int p1), .unset, .unset, .unset, .unset, .unset, .unset, .unset] [(.int (p0 &&& (2147483647 : Int32)))]))
  refine Go.of (fun _ k => XS.bipush X0.here hx rfl (hb hby at_4) k) ?_
  show Go p e below _ (s₁.setTop (mkF m 6 #[.val (.int p0), .val (.int p1), .unset, .unset, .unset, .unset, .unset, .unset, .unset] [(.int (24 : Int32)), (.int (p0 &&& (2147483647 : Int32)))]))
  refine Go.of (fun _ k => iremM X0 hx rfl (hb hby at_6) rfl (by decide) k) ?_
  show Go p e below _ (s₁.setTop (mkF m 7 #[.val (.int p0), .val (.int p1), .unset, .unset, .unset, .unset, .unset, .unset, .unset] [(.int ((p0 &&& (2147483647 : Int32)) % (24 : Int32)))]))
  refine Go.of (fun _ k => XS.iconst X0.here hx rfl (hb hby at_7) k) ?_
  show Go p e below _ (s₁.setTop (mkF m 8 #[.val (.int p0), .val (.int p1), .unset, .unset, .unset, .unset, .unset, .unset, .unset] [(.int (1 : Int32)), (.int ((p0 &&& (2147483647 : Int32)) % (24 : Int32)))]))
  refine Go.of (fun _ k => XS.iadd X0.here hx rfl (hb hby at_8) rfl k) ?_
  rw [hval]
  show Go p e below _ (s₁.setTop (mkF m 9 #[.val (.int p0), .val (.int p1), .unset, .unset, .unset, .unset, .unset, .unset, .unset] [(.int val)]))
  refine Go.of (fun _ k => XS.istoreN X0.here hx rfl (hb hby at_9) rfl (l' := #[.val (.int p0), .val (.int p1), .val (.int val), .unset, .unset, .unset, .unset, .unset, .unset]) rfl k) ?_
  show Go p e below _ (s₁.setTop (mkF m 10 #[.val (.int p0), .val (.int p1), .val (.int val), .unset, .unset, .unset, .unset, .unset, .unset] []))
  refine Go.of (fun _ k => XS.iloadN X0.here hx rfl (hb hby at_10) rfl  k) ?_
  show Go p e below _ (s₁.setTop (mkF m 11 #[.val (.int p0), .val (.int p1), .val (.int val), .unset, .unset, .unset, .unset, .unset, .unset] [(.int p1)]))
  refine Go.of (fun _ k => XS.iconst X0.here hx rfl (hb hby at_11) k) ?_
  show Go p e below _ (s₁.setTop (mkF m 12 #[.val (.int p0), .val (.int p1), .val (.int val), .unset, .unset, .unset, .unset, .unset, .unset] [(.int (1 : Int32)), (.int p1)]))
  refine Go.of (fun _ k => XS.iand X0.here hx rfl (hb hby at_12) rfl k) ?_
  show Go p e below _ (s₁.setTop (mkF m 13 #[.val (.int p0), .val (.int p1), .val (.int val), .unset, .unset, .unset, .unset, .unset, .unset] [(.int (p1 &&& (1 : Int32)))]))
  by_cases hc1 : (p1 &&& (1 : Int32)) = (0 : Int32)
  ·
    refine Go.of (fun _ k => XS.ifYes X0.here hx rfl (pc0 := 13) (pc' := 20) rfl (hb hby at_13) rfl ((if0 _ _).trans (teq hc1).1) (by decide) (by decide) k) ?_
    show Go p e below _ (s₁.setTop (mkF m 20 #[.val (.int p0), .val (.int p1), .val (.int val), .unset, .unset, .unset, .unset, .unset, .unset] []))
    refine Go.of (fun _ k => XS.iconst X0.here hx rfl (hb hby at_20) k) ?_
    show Go p e below _ (s₁.setTop (mkF m 21 #[.val (.int p0), .val (.int p1), .val (.int val), .unset, .unset, .unset, .unset, .unset, .unset] [(.int (0 : Int32))]))
    refine Go.of (fun _ k => XS.istoreN X0.here hx rfl (hb hby at_21) rfl (l' := #[.val (.int p0), .val (.int p1), .val (.int val), .val (.int (0 : Int32)), .unset, .unset, .unset, .unset, .unset]) rfl k) ?_
    show Go p e below _ (s₁.setTop (mkF m 22 #[.val (.int p0), .val (.int p1), .val (.int val), .val (.int (0 : Int32)), .unset, .unset, .unset, .unset, .unset] []))
    obtain ⟨T2, h2, X2, e2, E2, A2, D2, -, st2⟩ := newO X0 hx hZ hown (hw _ (List.mem_of_getElem? (i := 1) rfl)) (hw _ (List.mem_of_getElem? (i := 2) rfl)) (hw _ (List.mem_of_getElem? (i := 3) rfl)) e0 (g := (mkF m 22 #[.val (.int p0), .val (.int p1), .val (.int val), .val (.int (0 : Int32)), .unset, .unset, .unset, .unset, .unset] [])) rfl (hb hby at_22) (by decide) (by decide)
    obtain ⟨ob2, g2⟩ : ∃ z, z = h0.size := ⟨_, rfl⟩
    rw [← g2] at A2 D2 st2
    refine Go.of st2 ?_
    have g_ob2 : n0 ≤ ob2 := Nat.le_trans Z0 (Nat.le_of_eq g2.symm)
    have sz_ob2 : h0.size ≤ ob2 := Nat.le_trans ((Keep.refl h0 [])).1 (Nat.le_of_eq g2.symm)
    have K2 : Keep h0 h2 [] := ((Keep.refl h0 [])).ext E2
    have Z2 : n0 ≤ h2.size := Nat.le_trans Z0 E2.1
    have f3 : Fld Z h2 ob2 "org/hourbook/calendar/HourEnding" "value" "I" (.int (0 : Int32)) := D2 (Or.inr (hw _ (List.mem_of_getElem? (i := 16) rfl))) (ty := .int) (by decide)
    have f4 : Fld Z h2 ob2 "org/hourbook/calendar/HourEnding" "repeated" "Z" (.int (0 : Int32)) := D2 (Or.inr (hw _ (List.mem_of_getElem? (i := 18) rfl))) (ty := .boolean) (by decide)
    show Go p e below _ (T2.setTop (mkF m 25 #[.val (.int p0), .val (.int p1), .val (.int val), .val (.int (0 : Int32)), .unset, .unset, .unset, .unset, .unset] [(.ref ob2)]))
    refine Go.of (fun _ k => XS.dup X2.here hx rfl (hb hby at_25) rfl rfl k) ?_
    show Go p e below _ (T2.setTop (mkF m 26 #[.val (.int p0), .val (.int p1), .val (.int val), .val (.int (0 : Int32)), .unset, .unset, .unset, .unset, .unset] [(.ref ob2), (.ref ob2)]))
    refine Go.of (fun _ k => XS.iloadN X2.here hx rfl (hb hby at_26) rfl  k) ?_
    show Go p e below _ (T2.setTop (mkF m 27 #[.val (.int p0), .val (.int p1), .val (.int val), .val (.int (0 : Int32)), .unset, .unset, .unset, .unset, .unset] [(.int val), (.ref ob2), (.ref ob2)]))
    refine Go.of (fun _ k => XS.iloadN X2.here hx rfl (hb hby at_27) rfl  k) ?_
    show Go p e below _ (T2.setTop (mkF m 28 #[.val (.int p0), .val (.int p1), .val (.int val), .val (.int (0 : Int32)), .unset, .unset, .unset, .unset, .unset] [(.int (0 : Int32)), (.int val), (.ref ob2), (.ref ob2)]))
    obtain ⟨_, _, ⟨T5, L5, k5, n5⟩, -, X5, ⟨Lc5, hQ5, l5, y5, z5⟩, st5⟩ := X2.specialBack hx (y := (⟨"org/hourbook/calendar/HourEnding", "<init>", "(IZ)V"⟩ : MethodName)) rfl hown (mvT hZ (hw _ (List.mem_of_getElem? (i := 4) rfl))) (mvT hZ (hw _ (List.mem_of_getElem? (i := 5) rfl))) (mvT hZ (hw _ (List.mem_of_getElem? (i := 6) rfl))) (by decide) (backOf (W := 1) (rm1_0 l Z a0 hw [] ob2 val (.int (0 : Int32)) (.int (0 : Int32)) h2 n0 Z2 A2 f3 g_ob2 f4) hZ (hw _ (List.mem_of_getElem? (i := 6) rfl)) (hw _ (List.mem_of_getElem? (i := 3) rfl)) (by decide) (by decide)) (g := (mkF m 28 #[.val (.int p0), .val (.int p1), .val (.int val), .val (.int (0 : Int32)), .unset, .unset, .unset, .unset, .unset] [(.int (0 : Int32)), (.int val), (.ref ob2), (.ref ob2)])) rfl (by rw [hml]; rfl) (Steps.refl _) (a := ob2) (argsL := [(.int val), (.int (0 : Int32))]) (rest := [(.ref ob2)]) (lenOf pd_25 rfl) rfl (by show 2 * 0 + _ ≤ _; exact Nat.le_of_eq rfl) (hb hby at_28) (fun _ _ => ⟨rfl, e2, (by decide : 1 + 0 ≤ _), (by decide : 2 + 0 ≤ _)⟩)
    dsimp only [Pt.U, Pt.locs, Pt.cells, Pt.slots] at X5 l5 y5 z5 st5 hQ5
    subst l5 y5 z5
    obtain ⟨rfl, Nq5, q5_0, q5_1, q5_2, q5_3⟩ := hQ5
    have N5 := Fr.app N0 Nq5
    refine Go.tr st5 ?_
    have K5 : Keep h0 T5.heap [] := (K2).trans q5_0 (allS (Or.inr sz_ob2) all0)
    have Z5 : n0 ≤ T5.heap.size := Nat.le_trans Z2 q5_0.1
    show Go p e below _ (T5.setTop (mkF m 31 #[.val (.int p0), .val (.int p1), .val (.int val), .val (.int (0 : Int32)), .unset, .unset, .unset, .unset, .unset] [(.ref ob2)]))
    by_cases hs6 : val < (10 : Int32)
    ·
      show Go p e below _ (T5.setTop (mkF m 31 #[.val (.int p0), .val (.int p1), .val (.int val), .val (.int (0 : Int32)), .unset, .unset, .unset, .unset, .unset] [(.ref ob2)]))
      have c8 : Sta Z T5.heap "java/lang/String" "COMPACT_STRINGS" "Z" (.int w_COMPACT_STRINGS) := (own_Sta_keep S_COMPACT_STRINGS K5 own_p0)
      have c9 : Sta Z T5.heap "java/lang/Integer" "DigitOnes" "[B" (.ref w_DigitOnes) := (own_Sta_keep S_DigitOnes K5 own_p0)
      have c10 : Arr Z h2 w_DigitOnes cl_w_DigitOnes .byte := (Arr.ext E2 Ar_w_DigitOnes)
      have c11 : Arr Z T5.heap w_DigitOnes cl_w_DigitOnes .byte := ⟨q5_0.2.1 _ _ c10.1 (ninS (Nat.ne_of_lt (Nat.lt_of_lt_of_le Ar_w_DigitOnes.lt (Nat.le_of_eq g2.symm))) nin0), c10.2⟩
      obtain ⟨cq7, kq7, q7a, q7b, q7c⟩ := isOf hZ rfl q5_1
      obtain ⟨_, _, ⟨T7, L7, k7, n7⟩, -, X7, ⟨Lc7, hQ7, l7, y7, z7⟩, st7⟩ := X5.virtualBack hx (y := (⟨"org/hourbook/calendar/HourEnding", "label", "()Ljava/lang/String;"⟩ : MethodName)) (z := (⟨"org/hourbook/calendar/HourEnding", "label", "()Ljava/lang/String;"⟩ : MethodName)) hown (mvT hZ (hw _ (List.mem_of_getElem? (i := 19) rfl))) (mvT hZ (hw _ (List.mem_of_getElem? (i := 20) rfl))) (notFace_of_selects (args := #[]) (mvT hZ (hw _ (List.mem_of_getElem? (i := 22) rfl)))) (mvT hZ (hw _ (List.mem_of_getElem? (i := 22) rfl))) (mvT hZ (hw _ (List.mem_of_getElem? (i := 21) rfl))) (by decide) (backOf (W := 0) (rm4_01 l Z a0 hw [] ob2 val eo w_COMPACT_STRINGS w_DigitOnes cl_w_DigitOnes T5.heap n0 Z5 q5_2 q5_3 (own_v0 val eo et hR heo het hs6) (own_v1 val eo et hR heo het hs6) c8 hc8_3_7 (own_v2 val eo et hR heo het hs6) c9 c11 hin83_4_3_7 hat83_4_3_7 (own_v3 val eo et hR heo het hs6)) hZ (hw _ (List.mem_of_getElem? (i := 23) rfl)) (hw _ (List.mem_of_getElem? (i := 3) rfl)) (by decide) (by decide)) q7a q7c (g := (mkF m 31 #[.val (.int p0), .val (.int p1), .val (.int val), .val (.int (0 : Int32)), .unset, .unset, .unset, .unset, .unset] [(.ref ob2)])) rfl (by rw [hml]; rfl) (Steps.refl _) (argsL := []) (rest := []) (lenOf pd_24 rfl) rfl (by show 2 * 0 + _ ≤ _; exact Nat.le_of_eq rfl) (hb hby at_31) (fun _ _ => ⟨rfl, rfl, (by decide : 1 + 2 ≤ _), (by decide : 2 + 5 ≤ _)⟩)
      dsimp only [Pt.U, Pt.locs, Pt.cells, Pt.slots] at X7 l7 y7 z7 st7 hQ7
      subst l7 y7 z7
      obtain ⟨r_7, r1_7, rk2_7, rfl, Nq7, q7_0, q7_1, q7_2, q7_3, q7_4, q7_5, q7_6⟩ := hQ7
      have N7 := Fr.app N5 Nq7
      refine Go.tr st7 ?_
      have K7 : Keep h0 T7.heap [] := (K5).trans q7_0 all0
      have Z7 : n0 ≤ T7.heap.size := Nat.le_trans Z5 q7_0.1
      have g_r_7 : n0 ≤ r_7 := q7_1.2
      have sz_r_7 : h0.size ≤ r_7 := Nat.le_trans (K5).1 q7_1.1
      have g_r1_7 : n0 ≤ r1_7 := q7_5.2
      have sz_r1_7 : h0.size ≤ r1_7 := Nat.le_trans (K5).1 q7_5.1
      show Go p e below _ (T7.setTop (mkF m 34 #[.val (.int p0), .val (.int p1), .val (.int val), .val (.int (0 : Int32)), .unset, .unset, .unset, .unset, .unset] [(.ref r_7)]))
      refine Go.of (fun _ k => XS.astore X7.here hx rfl (hb hby at_34) rfl rfl (l' := #[.val (.int p0), .val (.int p1), .val (.int val), .val (.int (0 : Int32)), .val (.ref r_7), .unset, .unset, .unset, .unset]) rfl k) ?_
      show Go p e below _ (T7.setTop (mkF m 36 #[.val (.int p0), .val (.int p1), .val (.int val), .val (.int (0 : Int32)), .val (.ref r_7), .unset, .unset, .unset, .unset] []))
      refine Go.of (fun _ k => XS.aload X7.here hx rfl (hb hby at_36) rfl rfl k) ?_
      show Go p e below _ (T7.setTop (mkF m 38 #[.val (.int p0), .val (.int p1), .val (.int val), .val (.int (0 : Int32)), .val (.ref r_7), .unset, .unset, .unset, .unset] [(.ref r_7)]))
      refine Go.of (fun _ k => XS.ifnonnullYes X7.here hx rfl (pc0 := 38) (pc' := 43) rfl (hb hby at_38) rfl (by decide) (by decide) k) ?_
      show Go p e below _ (T7.setTop (mkF m 43 #[.val (.int p0), .val (.int p1), .val (.int val), .val (.int (0 : Int32)), .val (.ref r_7), .unset, .unset, .unset, .unset] []))
      refine Go.of (fun _ k => XS.iloadN X7.here hx rfl (hb hby at_43) rfl  k) ?_
      show Go p e below _ (T7.setTop (mkF m 44 #[.val (.int p0), .val (.int p1), .val (.int val), .val (.int (0 : Int32)), .val (.ref r_7), .unset, .unset, .unset, .unset] [(.int val)]))
      refine Go.of (fun _ k => XS.bipush X7.here hx rfl (hb hby at_44) k) ?_
      show Go p e below _ (T7.setTop (mkF m 46 #[.val (.int p0), .val (.int p1), .val (.int val), .val (.int (0 : Int32)), .val (.ref r_7), .unset, .unset, .unset, .unset] [(.int (10 : Int32)), (.int val)]))
      refine Go.of (fun _ k => XS.idiv X7.here hx rfl (hb hby at_46) rfl (by decide) k) ?_
      show Go p e below _ (T7.setTop (mkF m 47 #[.val (.int p0), .val (.int p1), .val (.int val), .val (.int (0 : Int32)), .val (.ref r_7), .unset, .unset, .unset, .unset] [(.int (val / (10 : Int32)))]))
      refine Go.of (fun _ k => XS.istore X7.here hx rfl (hb hby at_47) rfl (l' := #[.val (.int p0), .val (.int p1), .val (.int val), .val (.int (0 : Int32)), .val (.ref r_7), .val (.int (val / (10 : Int32))), .unset, .unset, .unset]) rfl k) ?_
      show Go p e below _ (T7.setTop (mkF m 49 #[.val (.int p0), .val (.int p1), .val (.int val), .val (.int (0 : Int32)), .val (.ref r_7), .val (.int (val / (10 : Int32))), .unset, .unset, .unset] []))
      refine Go.of (fun _ k => XS.iloadN X7.here hx rfl (hb hby at_49) rfl  k) ?_
      show Go p e below _ (T7.setTop (mkF m 50 #[.val (.int p0), .val (.int p1), .val (.int val), .val (.int (0 : Int32)), .val (.ref r_7), .val (.int (val / (10 : Int32))), .unset, .unset, .unset] [(.int val)]))
      refine Go.of (fun _ k => XS.bipush X7.here hx rfl (hb hby at_50) k) ?_
      show Go p e below _ (T7.setTop (mkF m 52 #[.val (.int p0), .val (.int p1), .val (.int val), .val (.int (0 : Int32)), .val (.ref r_7), .val (.int (val / (10 : Int32))), .unset, .unset, .unset] [(.int (10 : Int32)), (.int val)]))
      refine Go.of (fun _ k => iremM X7 hx rfl (hb hby at_52) rfl (by decide) k) ?_
      show Go p e below _ (T7.setTop (mkF m 53 #[.val (.int p0), .val (.int p1), .val (.int val), .val (.int (0 : Int32)), .val (.ref r_7), .val (.int (val / (10 : Int32))), .unset, .unset, .unset] [(.int (val % (10 : Int32)))]))
      refine Go.of (fun _ k => XS.istore X7.here hx rfl (hb hby at_53) rfl (l' := #[.val (.int p0), .val (.int p1), .val (.int val), .val (.int (0 : Int32)), .val (.ref r_7), .val (.int (val / (10 : Int32))), .val (.int (val % (10 : Int32))), .unset, .unset]) rfl k) ?_
      show Go p e below _ (T7.setTop (mkF m 55 #[.val (.int p0), .val (.int p1), .val (.int val), .val (.int (0 : Int32)), .val (.ref r_7), .val (.int (val / (10 : Int32))), .val (.int (val % (10 : Int32))), .unset, .unset] []))
      refine Go.of (fun _ k => XS.iloadN X7.here hx rfl (hb hby at_55) rfl  k) ?_
      show Go p e below _ (T7.setTop (mkF m 56 #[.val (.int p0), .val (.int p1), .val (.int val), .val (.int (0 : Int32)), .val (.ref r_7), .val (.int (val / (10 : Int32))), .val (.int (val % (10 : Int32))), .unset, .unset] [(.int val)]))
      refine Go.of (fun _ k => XS.bipush X7.here hx rfl (hb hby at_56) k) ?_
      show Go p e below _ (T7.setTop (mkF m 58 #[.val (.int p0), .val (.int p1), .val (.int val), .val (.int (0 : Int32)), .val (.ref r_7), .val (.int (val / (10 : Int32))), .val (.int (val % (10 : Int32))), .unset, .unset] [(.int (10 : Int32)), (.int val)]))
      refine Go.of (fun _ k => XS.icmpNo X7.here hx rfl (hb hby at_58) rfl (tlt hs6).2.1 k) ?_
      show Go p e below _ (T7.setTop (mkF m 61 #[.val (.int p0), .val (.int p1), .val (.int val), .val (.int (0 : Int32)), .val (.ref r_7), .val (.int (val / (10 : Int32))), .val (.int (val % (10 : Int32))), .unset, .unset] []))
      refine Go.of (fun _ k => XS.iconst X7.here hx rfl (hb hby at_61) k) ?_
      show Go p e below _ (T7.setTop (mkF m 62 #[.val (.int p0), .val (.int p1), .val (.int val), .val (.int (0 : Int32)), .val (.ref r_7), .val (.int (val / (10 : Int32))), .val (.int (val % (10 : Int32))), .unset, .unset] [(.int (1 : Int32))]))
      refine Go.of (fun _ k => XS.goto X7.here hx rfl (pc0 := 62) (pc' := 66) rfl (hb hby at_62) (by decide) (by decide) k) ?_
      show Go p e below _ (T7.setTop (mkF m 66 #[.val (.int p0), .val (.int p1), .val (.int val), .val (.int (0 : Int32)), .val (.ref r_7), .val (.int (val / (10 : Int32))), .val (.int (val % (10 : Int32))), .unset, .unset] [(.int (1 : Int32))]))
      refine Go.of (fun _ k => XS.istore X7.here hx rfl (hb hby at_66) rfl (l' := #[.val (.int p0), .val (.int p1), .val (.int val), .val (.int (0 : Int32)), .val (.ref r_7), .val (.int (val / (10 : Int32))), .val (.int (val % (10 : Int32))), .val (.int (1 : Int32)), .unset]) rfl k) ?_
      show Go p e below _ (T7.setTop (mkF m 68 #[.val (.int p0), .val (.int p1), .val (.int val), .val (.int (0 : Int32)), .val (.ref r_7), .val (.int (val / (10 : Int32))), .val (.int (val % (10 : Int32))), .val (.int (1 : Int32)), .unset] []))
      refine Go.of (fun _ k => XS.iload X7.here hx rfl (hb hby at_68) rfl  k) ?_
      show Go p e below _ (T7.setTop (mkF m 70 #[.val (.int p0), .val (.int p1), .val (.int val), .val (.int (0 : Int32)), .val (.ref r_7), .val (.int (val / (10 : Int32))), .val (.int (val % (10 : Int32))), .val (.int (1 : Int32)), .unset] [(.int (1 : Int32))]))
      refine Go.of (fun _ k => XS.iloadN X7.here hx rfl (hb hby at_70) rfl  k) ?_
      show Go p e below _ (T7.setTop (mkF m 71 #[.val (.int p0), .val (.int p1), .val (.int val), .val (.int (0 : Int32)), .val (.ref r_7), .val (.int (val / (10 : Int32))), .val (.int (val % (10 : Int32))), .val (.int (1 : Int32)), .unset] [(.int (0 : Int32)), (.int (1 : Int32))]))
      refine Go.of (fun _ k => XS.ifYes X7.here hx rfl (pc0 := 71) (pc' := 78) rfl (hb hby at_71) rfl ((if0 _ _).trans (teq (by decide : (0 : Int32) = (0 : Int32))).1) (by decide) (by decide) k) ?_
      show Go p e below _ (T7.setTop (mkF m 78 #[.val (.int p0), .val (.int p1), .val (.int val), .val (.int (0 : Int32)), .val (.ref r_7), .val (.int (val / (10 : Int32))), .val (.int (val % (10 : Int32))), .val (.int (1 : Int32)), .unset] [(.int (1 : Int32))]))
      refine Go.of (fun _ k => XS.iconst X7.here hx rfl (hb hby at_78) k) ?_
      show Go p e below _ (T7.setTop (mkF m 79 #[.val (.int p0), .val (.int p1), .val (.int val), .val (.int (0 : Int32)), .val (.ref r_7), .val (.int (val / (10 : Int32))), .val (.int (val % (10 : Int32))), .val (.int (1 : Int32)), .unset] [(.int (0 : Int32)), (.int (1 : Int32))]))
      refine Go.of (fun _ k => XS.iadd X7.here hx rfl (hb hby at_79) rfl k) ?_
      show Go p e below _ (T7.setTop (mkF m 80 #[.val (.int p0), .val (.int p1), .val (.int val), .val (.int (0 : Int32)), .val (.ref r_7), .val (.int (val / (10 : Int32))), .val (.int (val % (10 : Int32))), .val (.int (1 : Int32)), .unset] [(.int (1 : Int32))]))
      refine Go.of (fun _ k => XS.istore X7.here hx rfl (hb hby at_80) rfl (l' := #[.val (.int p0), .val (.int p1), .val (.int val), .val (.int (0 : Int32)), .val (.ref r_7), .val (.int (val / (10 : Int32))), .val (.int (val % (10 : Int32))), .val (.int (1 : Int32)), .val (.int (1 : Int32))]) rfl k) ?_
      show Go p e below _ (T7.setTop (mkF m 82 #[.val (.int p0), .val (.int p1), .val (.int val), .val (.int (0 : Int32)), .val (.ref r_7), .val (.int (val / (10 : Int32))), .val (.int (val % (10 : Int32))), .val (.int (1 : Int32)), .val (.int (1 : Int32))] []))
      refine Go.of (fun _ k => XS.aload X7.here hx rfl (hb hby at_82) rfl rfl k) ?_
      show Go p e below _ (T7.setTop (mkF m 84 #[.val (.int p0), .val (.int p1), .val (.int val), .val (.int (0 : Int32)), .val (.ref r_7), .val (.int (val / (10 : Int32))), .val (.int (val % (10 : Int32))), .val (.int (1 : Int32)), .val (.int (1 : Int32))] [(.ref r_7)]))
      have c13 : Sta Z T7.heap "java/lang/String" "COMPACT_STRINGS" "Z" (.int w_COMPACT_STRINGS) := (own_Sta_keep S_COMPACT_STRINGS K7 own_p0)
      obtain ⟨cq12, kq12, q12a, q12b, q12c⟩ := isOf hZ rfl q7_2
      obtain ⟨_, _, ⟨T12, L12, k12, n12⟩, -, X12, ⟨Lc12, hQ12, l12, y12, z12⟩, st12⟩ := X7.virtualBack hx (y := (⟨"java/lang/String", "length", "()I"⟩ : MethodName)) (z := (⟨"java/lang/String", "length", "()I"⟩ : MethodName)) hown (mvT hZ (hw _ (List.mem_of_getElem? (i := 165) rfl))) (mvT hZ (hw _ (List.mem_of_getElem? (i := 90) rfl))) (notFace_of_selects (args := #[]) (mvT hZ (hw _ (List.mem_of_getElem? (i := 92) rfl)))) (mvT hZ (hw _ (List.mem_of_getElem? (i := 92) rfl))) (mvT hZ (hw _ (List.mem_of_getElem? (i := 91) rfl))) (by decide) (backOf (W := 0) (rm15_1 l Z a0 hw [] r_7 eo.toInt8.toInt32 r1_7 rk2_7 w_COMPACT_STRINGS T7.heap n0 Z7 q7_4 q7_6 c13 hc8_3_7 q7_3 q7_2) hZ (hw _ (List.mem_of_getElem? (i := 93) rfl)) (hw _ (List.mem_of_getElem? (i := 38) rfl)) (by decide) (by decide)) q12a q12c (g := (mkF m 84 #[.val (.int p0), .val (.int p1), .val (.int val), .val (.int (0 : Int32)), .val (.ref r_7), .val (.int (val / (10 : Int32))), .val (.int (val % (10 : Int32))), .val (.int (1 : Int32)), .val (.int (1 : Int32))] [(.ref r_7)])) rfl (by rw [hml]; rfl) (Steps.refl _) (argsL := []) (rest := []) (lenOf pd_8 rfl) rfl (by show 2 * 0 + _ ≤ _; exact Nat.le_of_eq rfl) (hb hby at_84) (fun _ _ => ⟨rfl, rfl, (by decide : 3 + 0 ≤ _), (by decide : 7 + 0 ≤ _)⟩)
      dsimp only [Pt.U, Pt.locs, Pt.cells, Pt.slots] at X12 l12 y12 z12 st12 hQ12
      subst l12 y12 z12
      obtain ⟨rfl, Nq12, q12_0⟩ := hQ12
      have N12 := Fr.app N7 Nq12
      refine Go.tr st12 ?_
      show Go p e below _ (T12.setTop (mkF m 87 #[.val (.int p0), .val (.int p1), .val (.int val), .val (.int (0 : Int32)), .val (.ref r_7), .val (.int (val / (10 : Int32))), .val (.int (val % (10 : Int32))), .val (.int (1 : Int32)), .val (.int (1 : Int32))] [(.int (1 : Int32))]))
      refine Go.of (fun _ k => XS.iload X12.here hx rfl (hb hby at_87) rfl  k) ?_
      show Go p e below _ (T12.setTop (mkF m 89 #[.val (.int p0), .val (.int p1), .val (.int val), .val (.int (0 : Int32)), .val (.ref r_7), .val (.int (val / (10 : Int32))), .val (.int (val % (10 : Int32))), .val (.int (1 : Int32)), .val (.int (1 : Int32))] [(.int (1 : Int32)), (.int (1 : Int32))]))
      refine Go.of (fun _ k => XS.icmpYes X12.here hx rfl (pc0 := 89) (pc' := 94) rfl (hb hby at_89) rfl (teq (by decide : (1 : Int32) = (1 : Int32))).1 (by decide) (by decide) k) ?_
      show Go p e below _ (T12.setTop (mkF m 94 #[.val (.int p0), .val (.int p1), .val (.int val), .val (.int (0 : Int32)), .val (.ref r_7), .val (.int (val / (10 : Int32))), .val (.int (val % (10 : Int32))), .val (.int (1 : Int32)), .val (.int (1 : Int32))] []))
      refine Go.of (fun _ k => XS.iload X12.here hx rfl (hb hby at_94) rfl  k) ?_
      show Go p e below _ (T12.setTop (mkF m 96 #[.val (.int p0), .val (.int p1), .val (.int val), .val (.int (0 : Int32)), .val (.ref r_7), .val (.int (val / (10 : Int32))), .val (.int (val % (10 : Int32))), .val (.int (1 : Int32)), .val (.int (1 : Int32))] [(.int (1 : Int32))]))
      refine Go.of (fun _ k => XS.iconst X12.here hx rfl (hb hby at_96) k) ?_
      show Go p e below _ (T12.setTop (mkF m 97 #[.val (.int p0), .val (.int p1), .val (.int val), .val (.int (0 : Int32)), .val (.ref r_7), .val (.int (val / (10 : Int32))), .val (.int (val % (10 : Int32))), .val (.int (1 : Int32)), .val (.int (1 : Int32))] [(.int (2 : Int32)), (.int (1 : Int32))]))
      refine Go.of (fun _ k => XS.icmpYes X12.here hx rfl (pc0 := 97) (pc' := 134) rfl (hb hby at_97) rfl (feq (by decide : ¬ ((1 : Int32) = (2 : Int32)))).2 (by decide) (by decide) k) ?_
      show Go p e below _ (T12.setTop (mkF m 134 #[.val (.int p0), .val (.int p1), .val (.int val), .val (.int (0 : Int32)), .val (.ref r_7), .val (.int (val / (10 : Int32))), .val (.int (val % (10 : Int32))), .val (.int (1 : Int32)), .val (.int (1 : Int32))] []))
      refine Go.of (fun _ k => XS.aload X12.here hx rfl (hb hby at_134) rfl rfl k) ?_
      show Go p e below _ (T12.setTop (mkF m 136 #[.val (.int p0), .val (.int p1), .val (.int val), .val (.int (0 : Int32)), .val (.ref r_7), .val (.int (val / (10 : Int32))), .val (.int (val % (10 : Int32))), .val (.int (1 : Int32)), .val (.int (1 : Int32))] [(.ref r_7)]))
      refine Go.of (fun _ k => XS.iconst X12.here hx rfl (hb hby at_136) k) ?_
      show Go p e below _ (T12.setTop (mkF m 137 #[.val (.int p0), .val (.int p1), .val (.int val), .val (.int (0 : Int32)), .val (.ref r_7), .val (.int (val / (10 : Int32))), .val (.int (val % (10 : Int32))), .val (.int (1 : Int32)), .val (.int (1 : Int32))] [(.int (0 : Int32)), (.ref r_7)]))
      have c15 : Sta Z T7.heap "jdk/internal/util/Preconditions" "SIOOBE_FORMATTER" "Ljava/util/function/BiFunction;" v_SIOOBE_FORMATTER := (own_Sta_keep S_SIOOBE_FORMATTER K7 own_p0)
      obtain ⟨cq14, kq14, q14a, q14b, q14c⟩ := isOf hZ q12_0 q7_2
      obtain ⟨_, _, ⟨T14, L14, k14, n14⟩, -, X14, ⟨Lc14, hQ14, l14, y14, z14⟩, st14⟩ := X12.virtualBack hx (y := (⟨"java/lang/String", "charAt", "(I)C"⟩ : MethodName)) (z := (⟨"java/lang/String", "charAt", "(I)C"⟩ : MethodName)) hown (mvT hZ (hw _ (List.mem_of_getElem? (i := 166) rfl))) (mvT hZ (hw _ (List.mem_of_getElem? (i := 167) rfl))) (notFace_of_selects (args := #[]) (mvT hZ (hw _ (List.mem_of_getElem? (i := 169) rfl)))) (mvT hZ (hw _ (List.mem_of_getElem? (i := 169) rfl))) (mvT hZ (hw _ (List.mem_of_getElem? (i := 168) rfl))) (by decide) (backOf (W := 0) (rm30_10 l Z a0 hw [] r_7 eo.toInt8.toInt32 w_COMPACT_STRINGS r1_7 rk2_7 v_SIOOBE_FORMATTER T7.heap n0 Z7 c13 hc8_3_7 q7_3 q7_2 q7_4 q7_6 c15 hr_v_SIOOBE_FORMATTER) hZ (hw _ (List.mem_of_getElem? (i := 170) rfl)) (hw _ (List.mem_of_getElem? (i := 38) rfl)) (by decide) (by decide)) q14a q14c (g := (mkF m 137 #[.val (.int p0), .val (.int p1), .val (.int val), .val (.int (0 : Int32)), .val (.ref r_7), .val (.int (val / (10 : Int32))), .val (.int (val % (10 : Int32))), .val (.int (1 : Int32)), .val (.int (1 : Int32))] [(.int (0 : Int32)), (.ref r_7)])) rfl (by rw [hml]; rfl) (Steps.refl _) (argsL := [(.int (0 : Int32))]) (rest := []) (lenOf pd_26 rfl) rfl (by show 2 * 0 + _ ≤ _; exact Nat.le_of_eq rfl) (hb hby at_137) (fun _ _ => ⟨rfl, q12_0, (by decide : 3 + 0 ≤ _), (by decide : 7 + 0 ≤ _)⟩)
      dsimp only [Pt.U, Pt.locs, Pt.cells, Pt.slots] at X14 l14 y14 z14 st14 hQ14
      subst l14 y14 z14
      obtain ⟨rfl, Nq14, q14_0⟩ := hQ14
      have N14 := Fr.app N12 Nq14
      refine Go.tr st14 ?_
      show Go p e below _ (T14.setTop (mkF m 140 #[.val (.int p0), .val (.int p1), .val (.int val), .val (.int (0 : Int32)), .val (.ref r_7), .val (.int (val / (10 : Int32))), .val (.int (val % (10 : Int32))), .val (.int (1 : Int32)), .val (.int (1 : Int32))] [(.int (nar .char (nar .char ((eo.toInt8.toInt32 &&& (255 : Int32)).toUInt32.toUInt16.toUInt32.toInt32))))]))
      refine Go.of (fun _ k => XS.bipush X14.here hx rfl (hb hby at_140) k) ?_
      show Go p e below _ (T14.setTop (mkF m 142 #[.val (.int p0), .val (.int p1), .val (.int val), .val (.int (0 : Int32)), .val (.ref r_7), .val (.int (val / (10 : Int32))), .val (.int (val % (10 : Int32))), .val (.int (1 : Int32)), .val (.int (1 : Int32))] [(.int (48 : Int32)), (.int (nar .char (nar .char ((eo.toInt8.toInt32 &&& (255 : Int32)).toUInt32.toUInt16.toUInt32.toInt32))))]))
      refine Go.of (fun _ k => XS.iload X14.here hx rfl (hb hby at_142) rfl  k) ?_
      show Go p e below _ (T14.setTop (mkF m 144 #[.val (.int p0), .val (.int p1), .val (.int val), .val (.int (0 : Int32)), .val (.ref r_7), .val (.int (val / (10 : Int32))), .val (.int (val % (10 : Int32))), .val (.int (1 : Int32)), .val (.int (1 : Int32))] [(.int (val % (10 : Int32))), (.int (48 : Int32)), (.int (nar .char (nar .char ((eo.toInt8.toInt32 &&& (255 : Int32)).toUInt32.toUInt16.toUInt32.toInt32))))]))
      refine Go.of (fun _ k => XS.iadd X14.here hx rfl (hb hby at_144) rfl k) ?_
      show Go p e below _ (T14.setTop (mkF m 145 #[.val (.int p0), .val (.int p1), .val (.int val), .val (.int (0 : Int32)), .val (.ref r_7), .val (.int (val / (10 : Int32))), .val (.int (val % (10 : Int32))), .val (.int (1 : Int32)), .val (.int (1 : Int32))] [(.int ((48 : Int32) + (val % (10 : Int32)))), (.int (nar .char (nar .char ((eo.toInt8.toInt32 &&& (255 : Int32)).toUInt32.toUInt16.toUInt32.toInt32))))]))
      refine Go.of (fun _ k => XS.i2c X14.here hx rfl (hb hby at_145) rfl k) ?_
      show Go p e below _ (T14.setTop (mkF m 146 #[.val (.int p0), .val (.int p1), .val (.int val), .val (.int (0 : Int32)), .val (.ref r_7), .val (.int (val / (10 : Int32))), .val (.int (val % (10 : Int32))), .val (.int (1 : Int32)), .val (.int (1 : Int32))] [(.int (((48 : Int32) + (val % (10 : Int32))).toUInt32.toUInt16.toUInt32.toInt32)), (.int (nar .char (nar .char ((eo.toInt8.toInt32 &&& (255 : Int32)).toUInt32.toUInt16.toUInt32.toInt32))))]))
      refine Go.of (fun _ k => XS.icmpYes X14.here hx rfl (pc0 := 146) (pc' := 151) rfl (hb hby at_146) rfl (teq ((own_v4 val eo et hR heo het hs6) : (nar .char (nar .char ((eo.toInt8.toInt32 &&& (255 : Int32)).toUInt32.toUInt16.toUInt32.toInt32))) = (((48 : Int32) + (val % (10 : Int32))).toUInt32.toUInt16.toUInt32.toInt32))).1 (by decide) (by decide) k) ?_
      show Go p e below _ (T14.setTop (mkF m 151 #[.val (.int p0), .val (.int p1), .val (.int val), .val (.int (0 : Int32)), .val (.ref r_7), .val (.int (val / (10 : Int32))), .val (.int (val % (10 : Int32))), .val (.int (1 : Int32)), .val (.int (1 : Int32))] []))
      refine Go.of (fun _ k => XS.iloadN X14.here hx rfl (hb hby at_151) rfl  k) ?_
      show Go p e below _ (T14.setTop (mkF m 152 #[.val (.int p0), .val (.int p1), .val (.int val), .val (.int (0 : Int32)), .val (.ref r_7), .val (.int (val / (10 : Int32))), .val (.int (val % (10 : Int32))), .val (.int (1 : Int32)), .val (.int (1 : Int32))] [(.int (0 : Int32))]))
      refine Go.of (fun _ k => XS.ifYes X14.here hx rfl (pc0 := 152) (pc' := 169) rfl (hb hby at_152) rfl ((if0 _ _).trans (teq (by decide : (0 : Int32) = (0 : Int32))).1) (by decide) (by decide) k) ?_
      show Go p e below _ (T14.setTop (mkF m 169 #[.val (.int p0), .val (.int p1), .val (.int val), .val (.int (0 : Int32)), .val (.ref r_7), .val (.int (val / (10 : Int32))), .val (.int (val % (10 : Int32))), .val (.int (1 : Int32)), .val (.int (1 : Int32))] []))
      refine Go.of (fun _ k => XS.iconst X14.here hx rfl (hb hby at_169) k) ?_
      show Go p e below _ (T14.setTop (mkF m 170 #[.val (.int p0), .val (.int p1), .val (.int val), .val (.int (0 : Int32)), .val (.ref r_7), .val (.int (val / (10 : Int32))), .val (.int (val % (10 : Int32))), .val (.int (1 : Int32)), .val (.int (1 : Int32))] [(.int (1 : Int32))]))
      obtain ⟨fs, hr, hrun, hended, hW, hsame⟩ := X14.leave (v := some (.int (1 : Int32))) (fun h => by rw [Bd.returns] at h; cases h)
      refine Go.mk _ _ ?_ hrun hended ⟨_, _, rfl, ?_, ReturnedEndW.of_narrow ⟨_, rfl⟩ hW (hsame.mono (by decide) (by decide))⟩
      · exact retN X14 hx (t := .boolean) Bd.returns (by simp) (hb hby at_170) hr
      · show Q0 Z val eo et p0 p1 w_COMPACT_STRINGS w_DigitOnes cl_w_DigitOnes v_SIOOBE_FORMATTER w_DigitTens cl_w_DigitTens h0 n0 _ T14.heap _
        rw [q14_0]
        exact ⟨rfl, N14⟩
    ·
      show Go p e below _ (T5.setTop (mkF m 31 #[.val (.int p0), .val (.int p1), .val (.int val), .val (.int (0 : Int32)), .unset, .unset, .unset, .unset, .unset] [(.ref ob2)]))
      have c18 : Sta Z T5.heap "java/lang/String" "COMPACT_STRINGS" "Z" (.int w_COMPACT_STRINGS) := (own_Sta_keep S_COMPACT_STRINGS K5 own_p0)
      have c19 : Sta Z T5.heap "java/lang/Integer" "DigitOnes" "[B" (.ref w_DigitOnes) := (own_Sta_keep S_DigitOnes K5 own_p0)
      have c20 : Arr Z h2 w_DigitOnes cl_w_DigitOnes .byte := (Arr.ext E2 Ar_w_DigitOnes)
      have c21 : Arr Z T5.heap w_DigitOnes cl_w_DigitOnes .byte := ⟨q5_0.2.1 _ _ c20.1 (ninS (Nat.ne_of_lt (Nat.lt_of_lt_of_le Ar_w_DigitOnes.lt (Nat.le_of_eq g2.symm))) nin0), c20.2⟩
      have c22 : Sta Z T5.heap "java/lang/Integer" "DigitTens" "[B" (.ref w_DigitTens) := (own_Sta_keep S_DigitTens K5 own_p0)
      have c23 : Arr Z h2 w_DigitTens cl_w_DigitTens .byte := (Arr.ext E2 Ar_w_DigitTens)
      have c24 : Arr Z T5.heap w_DigitTens cl_w_DigitTens .byte := ⟨q5_0.2.1 _ _ c23.1 (ninS (Nat.ne_of_lt (Nat.lt_of_lt_of_le Ar_w_DigitTens.lt (Nat.le_of_eq g2.symm))) nin0), c23.2⟩
      obtain ⟨cq17, kq17, q17a, q17b, q17c⟩ := isOf hZ rfl q5_1
      obtain ⟨_, _, ⟨T17, L17, k17, n17⟩, -, X17, ⟨Lc17, hQ17, l17, y17, z17⟩, st17⟩ := X5.virtualBack hx (y := (⟨"org/hourbook/calendar/HourEnding", "label", "()Ljava/lang/String;"⟩ : MethodName)) (z := (⟨"org/hourbook/calendar/HourEnding", "label", "()Ljava/lang/String;"⟩ : MethodName)) hown (mvT hZ (hw _ (List.mem_of_getElem? (i := 19) rfl))) (mvT hZ (hw _ (List.mem_of_getElem? (i := 20) rfl))) (notFace_of_selects (args := #[]) (mvT hZ (hw _ (List.mem_of_getElem? (i := 22) rfl)))) (mvT hZ (hw _ (List.mem_of_getElem? (i := 22) rfl))) (mvT hZ (hw _ (List.mem_of_getElem? (i := 21) rfl))) (by decide) (backOf (W := 0) (rm4_02 l Z a0 hw [] ob2 val eo et w_COMPACT_STRINGS w_DigitOnes cl_w_DigitOnes w_DigitTens cl_w_DigitTens T5.heap n0 Z5 q5_2 q5_3 (own_v5 val eo et hR heo het hs6) (own_v6 val eo et hR heo het hs6) (own_v7 val eo et hR heo het hs6) c18 hc8_3_7 c19 c21 hin83_4_3_7 hat83_4_3_7 (own_v8 val eo et hR heo het hs6) c22 c24 hin102_4_3_17 hat102_4_3_17) hZ (hw _ (List.mem_of_getElem? (i := 23) rfl)) (hw _ (List.mem_of_getElem? (i := 3) rfl)) (by decide) (by decide)) q17a q17c (g := (mkF m 31 #[.val (.int p0), .val (.int p1), .val (.int val), .val (.int (0 : Int32)), .unset, .unset, .unset, .unset, .unset] [(.ref ob2)])) rfl (by rw [hml]; rfl) (Steps.refl _) (argsL := []) (rest := []) (lenOf pd_24 rfl) rfl (by show 2 * 0 + _ ≤ _; exact Nat.le_of_eq rfl) (hb hby at_31) (fun _ _ => ⟨rfl, rfl, (by decide : 1 + 2 ≤ _), (by decide : 2 + 6 ≤ _)⟩)
      dsimp only [Pt.U, Pt.locs, Pt.cells, Pt.slots] at X17 l17 y17 z17 st17 hQ17
      subst l17 y17 z17
      obtain ⟨r_17, r1_17, rk2_17, rfl, Nq17, q17_0, q17_1, q17_2, q17_3, q17_4, q17_5, q17_6⟩ := hQ17
      have N17 := Fr.app N5 Nq17
      refine Go.tr st17 ?_
      have K17 : Keep h0 T17.heap [] := (K5).trans q17_0 all0
      have Z17 : n0 ≤ T17.heap.size := Nat.le_trans Z5 q17_0.1
      have g_r_17 : n0 ≤ r_17 := q17_1.2
      have sz_r_17 : h0.size ≤ r_17 := Nat.le_trans (K5).1 q17_1.1
      have g_r1_17 : n0 ≤ r1_17 := q17_5.2
      have sz_r1_17 : h0.size ≤ r1_17 := Nat.le_trans (K5).1 q17_5.1
      show Go p e below _ (T17.setTop (mkF m 34 #[.val (.int p0), .val (.int p1), .val (.int val), .val (.int (0 : Int32)), .unset, .unset, .unset, .unset, .unset] [(.ref r_17)]))
      refine Go.of (fun _ k => XS.astore X17.here hx rfl (hb hby at_34) rfl rfl (l' := #[.val (.int p0), .val (.int p1), .val (.int val), .val (.int (0 : Int32)), .val (.ref r_17), .unset, .unset, .unset, .unset]) rfl k) ?_
      show Go p e below _ (T17.setTop (mkF m 36 #[.val (.int p0), .val (.int p1), .val (.int val), .val (.int (0 : Int32)), .val (.ref r_17), .unset, .unset, .unset, .unset] []))
      refine Go.of (fun _ k => XS.aload X17.here hx rfl (hb hby at_36) rfl rfl k) ?_
      show Go p e below _ (T17.setTop (mkF m 38 #[.val (.int p0), .val (.int p1), .val (.int val), .val (.int (0 : Int32)), .val (.ref r_17), .unset, .unset, .unset, .unset] [(.ref r_17)]))
      refine Go.of (fun _ k => XS.ifnonnullYes X17.here hx rfl (pc0 := 38) (pc' := 43) rfl (hb hby at_38) rfl (by decide) (by decide) k) ?_
      show Go p e below _ (T17.setTop (mkF m 43 #[.val (.int p0), .val (.int p1), .val (.int val), .val (.int (0 : Int32)), .val (.ref r_17), .unset, .unset, .unset, .unset] []))
      refine Go.of (fun _ k => XS.iloadN X17.here hx rfl (hb hby at_43) rfl  k) ?_
      show Go p e below _ (T17.setTop (mkF m 44 #[.val (.int p0), .val (.int p1), .val (.int val), .val (.int (0 : Int32)), .val (.ref r_17), .unset, .unset, .unset, .unset] [(.int val)]))
      refine Go.of (fun _ k => XS.bipush X17.here hx rfl (hb hby at_44) k) ?_
      show Go p e below _ (T17.setTop (mkF m 46 #[.val (.int p0), .val (.int p1), .val (.int val), .val (.int (0 : Int32)), .val (.ref r_17), .unset, .unset, .unset, .unset] [(.int (10 : Int32)), (.int val)]))
      refine Go.of (fun _ k => XS.idiv X17.here hx rfl (hb hby at_46) rfl (by decide) k) ?_
      show Go p e below _ (T17.setTop (mkF m 47 #[.val (.int p0), .val (.int p1), .val (.int val), .val (.int (0 : Int32)), .val (.ref r_17), .unset, .unset, .unset, .unset] [(.int (val / (10 : Int32)))]))
      refine Go.of (fun _ k => XS.istore X17.here hx rfl (hb hby at_47) rfl (l' := #[.val (.int p0), .val (.int p1), .val (.int val), .val (.int (0 : Int32)), .val (.ref r_17), .val (.int (val / (10 : Int32))), .unset, .unset, .unset]) rfl k) ?_
      show Go p e below _ (T17.setTop (mkF m 49 #[.val (.int p0), .val (.int p1), .val (.int val), .val (.int (0 : Int32)), .val (.ref r_17), .val (.int (val / (10 : Int32))), .unset, .unset, .unset] []))
      refine Go.of (fun _ k => XS.iloadN X17.here hx rfl (hb hby at_49) rfl  k) ?_
      show Go p e below _ (T17.setTop (mkF m 50 #[.val (.int p0), .val (.int p1), .val (.int val), .val (.int (0 : Int32)), .val (.ref r_17), .val (.int (val / (10 : Int32))), .unset, .unset, .unset] [(.int val)]))
      refine Go.of (fun _ k => XS.bipush X17.here hx rfl (hb hby at_50) k) ?_
      show Go p e below _ (T17.setTop (mkF m 52 #[.val (.int p0), .val (.int p1), .val (.int val), .val (.int (0 : Int32)), .val (.ref r_17), .val (.int (val / (10 : Int32))), .unset, .unset, .unset] [(.int (10 : Int32)), (.int val)]))
      refine Go.of (fun _ k => iremM X17 hx rfl (hb hby at_52) rfl (by decide) k) ?_
      show Go p e below _ (T17.setTop (mkF m 53 #[.val (.int p0), .val (.int p1), .val (.int val), .val (.int (0 : Int32)), .val (.ref r_17), .val (.int (val / (10 : Int32))), .unset, .unset, .unset] [(.int (val % (10 : Int32)))]))
      refine Go.of (fun _ k => XS.istore X17.here hx rfl (hb hby at_53) rfl (l' := #[.val (.int p0), .val (.int p1), .val (.int val), .val (.int (0 : Int32)), .val (.ref r_17), .val (.int (val / (10 : Int32))), .val (.int (val % (10 : Int32))), .unset, .unset]) rfl k) ?_
      show Go p e below _ (T17.setTop (mkF m 55 #[.val (.int p0), .val (.int p1), .val (.int val), .val (.int (0 : Int32)), .val (.ref r_17), .val (.int (val / (10 : Int32))), .val (.int (val % (10 : Int32))), .unset, .unset] []))
      refine Go.of (fun _ k => XS.iloadN X17.here hx rfl (hb hby at_55) rfl  k) ?_
      show Go p e below _ (T17.setTop (mkF m 56 #[.val (.int p0), .val (.int p1), .val (.int val), .val (.int (0 : Int32)), .val (.ref r_17), .val (.int (val / (10 : Int32))), .val (.int (val % (10 : Int32))), .unset, .unset] [(.int val)]))
      refine Go.of (fun _ k => XS.bipush X17.here hx rfl (hb hby at_56) k) ?_
      show Go p e below _ (T17.setTop (mkF m 58 #[.val (.int p0), .val (.int p1), .val (.int val), .val (.int (0 : Int32)), .val (.ref r_17), .val (.int (val / (10 : Int32))), .val (.int (val % (10 : Int32))), .unset, .unset] [(.int (10 : Int32)), (.int val)]))
      refine Go.of (fun _ k => XS.icmpYes X17.here hx rfl (pc0 := 58) (pc' := 65) rfl (hb hby at_58) rfl (flt hs6).2.1 (by decide) (by decide) k) ?_
      show Go p e below _ (T17.setTop (mkF m 65 #[.val (.int p0), .val (.int p1), .val (.int val), .val (.int (0 : Int32)), .val (.ref r_17), .val (.int (val / (10 : Int32))), .val (.int (val % (10 : Int32))), .unset, .unset] []))
      refine Go.of (fun _ k => XS.iconst X17.here hx rfl (hb hby at_65) k) ?_
      show Go p e below _ (T17.setTop (mkF m 66 #[.val (.int p0), .val (.int p1), .val (.int val), .val (.int (0 : Int32)), .val (.ref r_17), .val (.int (val / (10 : Int32))), .val (.int (val % (10 : Int32))), .unset, .unset] [(.int (2 : Int32))]))
      refine Go.of (fun _ k => XS.istore X17.here hx rfl (hb hby at_66) rfl (l' := #[.val (.int p0), .val (.int p1), .val (.int val), .val (.int (0 : Int32)), .val (.ref r_17), .val (.int (val / (10 : Int32))), .val (.int (val % (10 : Int32))), .val (.int (2 : Int32)), .unset]) rfl k) ?_
      show Go p e below _ (T17.setTop (mkF m 68 #[.val (.int p0), .val (.int p1), .val (.int val), .val (.int (0 : Int32)), .val (.ref r_17), .val (.int (val / (10 : Int32))), .val (.int (val % (10 : Int32))), .val (.int (2 : Int32)), .unset] []))
      refine Go.of (fun _ k => XS.iload X17.here hx rfl (hb hby at_68) rfl  k) ?_
      show Go p e below _ (T17.setTop (mkF m 70 #[.val (.int p0), .val (.int p1), .val (.int val), .val (.int (0 : Int32)), .val (.ref r_17), .val (.int (val / (10 : Int32))), .val (.int (val % (10 : Int32))), .val (.int (2 : Int32)), .unset] [(.int (2 : Int32))]))
      refine Go.of (fun _ k => XS.iloadN X17.here hx rfl (hb hby at_70) rfl  k) ?_
      show Go p e below _ (T17.setTop (mkF m 71 #[.val (.int p0), .val (.int p1), .val (.int val), .val (.int (0 : Int32)), .val (.ref r_17), .val (.int (val / (10 : Int32))), .val (.int (val % (10 : Int32))), .val (.int (2 : Int32)), .unset] [(.int (0 : Int32)), (.int (2 : Int32))]))
      refine Go.of (fun _ k => XS.ifYes X17.here hx rfl (pc0 := 71) (pc' := 78) rfl (hb hby at_71) rfl ((if0 _ _).trans (teq (by decide : (0 : Int32) = (0 : Int32))).1) (by decide) (by decide) k) ?_
      show Go p e below _ (T17.setTop (mkF m 78 #[.val (.int p0), .val (.int p1), .val (.int val), .val (.int (0 : Int32)), .val (.ref r_17), .val (.int (val / (10 : Int32))), .val (.int (val % (10 : Int32))), .val (.int (2 : Int32)), .unset] [(.int (2 : Int32))]))
      refine Go.of (fun _ k => XS.iconst X17.here hx rfl (hb hby at_78) k) ?_
      show Go p e below _ (T17.setTop (mkF m 79 #[.val (.int p0), .val (.int p1), .val (.int val), .val (.int (0 : Int32)), .val (.ref r_17), .val (.int (val / (10 : Int32))), .val (.int (val % (10 : Int32))), .val (.int (2 : Int32)), .unset] [(.int (0 : Int32)), (.int (2 : Int32))]))
      refine Go.of (fun _ k => XS.iadd X17.here hx rfl (hb hby at_79) rfl k) ?_
      show Go p e below _ (T17.setTop (mkF m 80 #[.val (.int p0), .val (.int p1), .val (.int val), .val (.int (0 : Int32)), .val (.ref r_17), .val (.int (val / (10 : Int32))), .val (.int (val % (10 : Int32))), .val (.int (2 : Int32)), .unset] [(.int (2 : Int32))]))
      refine Go.of (fun _ k => XS.istore X17.here hx rfl (hb hby at_80) rfl (l' := #[.val (.int p0), .val (.int p1), .val (.int val), .val (.int (0 : Int32)), .val (.ref r_17), .val (.int (val / (10 : Int32))), .val (.int (val % (10 : Int32))), .val (.int (2 : Int32)), .val (.int (2 : Int32))]) rfl k) ?_
      show Go p e below _ (T17.setTop (mkF m 82 #[.val (.int p0), .val (.int p1), .val (.int val), .val (.int (0 : Int32)), .val (.ref r_17), .val (.int (val / (10 : Int32))), .val (.int (val % (10 : Int32))), .val (.int (2 : Int32)), .val (.int (2 : Int32))] []))
      refine Go.of (fun _ k => XS.aload X17.here hx rfl (hb hby at_82) rfl rfl k) ?_
      show Go p e below _ (T17.setTop (mkF m 84 #[.val (.int p0), .val (.int p1), .val (.int val), .val (.int (0 : Int32)), .val (.ref r_17), .val (.int (val / (10 : Int32))), .val (.int (val % (10 : Int32))), .val (.int (2 : Int32)), .val (.int (2 : Int32))] [(.ref r_17)]))
      have c26 : Sta Z T17.heap "java/lang/String" "COMPACT_STRINGS" "Z" (.int w_COMPACT_STRINGS) := (own_Sta_keep S_COMPACT_STRINGS K17 own_p0)
      obtain ⟨cq25, kq25, q25a, q25b, q25c⟩ := isOf hZ rfl q17_2
      obtain ⟨_, _, ⟨T25, L25, k25, n25⟩, -, X25, ⟨Lc25, hQ25, l25, y25, z25⟩, st25⟩ := X17.virtualBack hx (y := (⟨"java/lang/String", "length", "()I"⟩ : MethodName)) (z := (⟨"java/lang/String", "length", "()I"⟩ : MethodName)) hown (mvT hZ (hw _ (List.mem_of_getElem? (i := 165) rfl))) (mvT hZ (hw _ (List.mem_of_getElem? (i := 90) rfl))) (notFace_of_selects (args := #[]) (mvT hZ (hw _ (List.mem_of_getElem? (i := 92) rfl)))) (mvT hZ (hw _ (List.mem_of_getElem? (i := 92) rfl))) (mvT hZ (hw _ (List.mem_of_getElem? (i := 91) rfl))) (by decide) (backOf (W := 0) (rm15_2 l Z a0 hw [] r_17 et.toInt8.toInt32 eo.toInt8.toInt32 r1_17 rk2_17 w_COMPACT_STRINGS T17.heap n0 Z17 q17_4 q17_6 c26 hc8_3_7 q17_3 q17_2) hZ (hw _ (List.mem_of_getElem? (i := 93) rfl)) (hw _ (List.mem_of_getElem? (i := 38) rfl)) (by decide) (by decide)) q25a q25c (g := (mkF m 84 #[.val (.int p0), .val (.int p1), .val (.int val), .val (.int (0 : Int32)), .val (.ref r_17), .val (.int (val / (10 : Int32))), .val (.int (val % (10 : Int32))), .val (.int (2 : Int32)), .val (.int (2 : Int32))] [(.ref r_17)])) rfl (by rw [hml]; rfl) (Steps.refl _) (argsL := []) (rest := []) (lenOf pd_8 rfl) rfl (by show 2 * 0 + _ ≤ _; exact Nat.le_of_eq rfl) (hb hby at_84) (fun _ _ => ⟨rfl, rfl, (by decide : 3 + 0 ≤ _), (by decide : 8 + 0 ≤ _)⟩)
      dsimp only [Pt.U, Pt.locs, Pt.cells, Pt.slots] at X25 l25 y25 z25 st25 hQ25
      subst l25 y25 z25
      obtain ⟨rfl, Nq25, q25_0⟩ := hQ25
      have N25 := Fr.app N17 Nq25
      refine Go.tr st25 ?_
      show Go p e below _ (T25.setTop (mkF m 87 #[.val (.int p0), .val (.int p1), .val (.int val), .val (.int (0 : Int32)), .val (.ref r_17), .val (.int (val / (10 : Int32))), .val (.int (val % (10 : Int32))), .val (.int (2 : Int32)), .val (.int (2 : Int32))] [(.int (2 : Int32))]))
      refine Go.of (fun _ k => XS.iload X25.here hx rfl (hb hby at_87) rfl  k) ?_
      show Go p e below _ (T25.setTop (mkF m 89 #[.val (.int p0), .val (.int p1), .val (.int val), .val (.int (0 : Int32)), .val (.ref r_17), .val (.int (val / (10 : Int32))), .val (.int (val % (10 : Int32))), .val (.int (2 : Int32)), .val (.int (2 : Int32))] [(.int (2 : Int32)), (.int (2 : Int32))]))
      refine Go.of (fun _ k => XS.icmpYes X25.here hx rfl (pc0 := 89) (pc' := 94) rfl (hb hby at_89) rfl (teq (by decide : (2 : Int32) = (2 : Int32))).1 (by decide) (by decide) k) ?_
      show Go p e below _ (T25.setTop (mkF m 94 #[.val (.int p0), .val (.int p1), .val (.int val), .val (.int (0 : Int32)), .val (.ref r_17), .val (.int (val / (10 : Int32))), .val (.int (val % (10 : Int32))), .val (.int (2 : Int32)), .val (.int (2 : Int32))] []))
      refine Go.of (fun _ k => XS.iload X25.here hx rfl (hb hby at_94) rfl  k) ?_
      show Go p e below _ (T25.setTop (mkF m 96 #[.val (.int p0), .val (.int p1), .val (.int val), .val (.int (0 : Int32)), .val (.ref r_17), .val (.int (val / (10 : Int32))), .val (.int (val % (10 : Int32))), .val (.int (2 : Int32)), .val (.int (2 : Int32))] [(.int (2 : Int32))]))
      refine Go.of (fun _ k => XS.iconst X25.here hx rfl (hb hby at_96) k) ?_
      show Go p e below _ (T25.setTop (mkF m 97 #[.val (.int p0), .val (.int p1), .val (.int val), .val (.int (0 : Int32)), .val (.ref r_17), .val (.int (val / (10 : Int32))), .val (.int (val % (10 : Int32))), .val (.int (2 : Int32)), .val (.int (2 : Int32))] [(.int (2 : Int32)), (.int (2 : Int32))]))
      refine Go.of (fun _ k => XS.icmpNo X25.here hx rfl (hb hby at_97) rfl (teq (by decide : (2 : Int32) = (2 : Int32))).2 k) ?_
      show Go p e below _ (T25.setTop (mkF m 100 #[.val (.int p0), .val (.int p1), .val (.int val), .val (.int (0 : Int32)), .val (.ref r_17), .val (.int (val / (10 : Int32))), .val (.int (val % (10 : Int32))), .val (.int (2 : Int32)), .val (.int (2 : Int32))] []))
      refine Go.of (fun _ k => XS.aload X25.here hx rfl (hb hby at_100) rfl rfl k) ?_
      show Go p e below _ (T25.setTop (mkF m 102 #[.val (.int p0), .val (.int p1), .val (.int val), .val (.int (0 : Int32)), .val (.ref r_17), .val (.int (val / (10 : Int32))), .val (.int (val % (10 : Int32))), .val (.int (2 : Int32)), .val (.int (2 : Int32))] [(.ref r_17)]))
      refine Go.of (fun _ k => XS.iconst X25.here hx rfl (hb hby at_102) k) ?_
      show Go p e below _ (T25.setTop (mkF m 103 #[.val (.int p0), .val (.int p1), .val (.int val), .val (.int (0 : Int32)), .val (.ref r_17), .val (.int (val / (10 : Int32))), .val (.int (val % (10 : Int32))), .val (.int (2 : Int32)), .val (.int (2 : Int32))] [(.int (0 : Int32)), (.ref r_17)]))
      have c28 : Sta Z T17.heap "jdk/internal/util/Preconditions" "SIOOBE_FORMATTER" "Ljava/util/function/BiFunction;" v_SIOOBE_FORMATTER := (own_Sta_keep S_SIOOBE_FORMATTER K17 own_p0)
      obtain ⟨cq27, kq27, q27a, q27b, q27c⟩ := isOf hZ q25_0 q17_2
      obtain ⟨_, _, ⟨T27, L27, k27, n27⟩, -, X27, ⟨Lc27, hQ27, l27, y27, z27⟩, st27⟩ := X25.virtualBack hx (y := (⟨"java/lang/String", "charAt", "(I)C"⟩ : MethodName)) (z := (⟨"java/lang/String", "charAt", "(I)C"⟩ : MethodName)) hown (mvT hZ (hw _ (List.mem_of_getElem? (i := 166) rfl))) (mvT hZ (hw _ (List.mem_of_getElem? (i := 167) rfl))) (notFace_of_selects (args := #[]) (mvT hZ (hw _ (List.mem_of_getElem? (i := 169) rfl)))) (mvT hZ (hw _ (List.mem_of_getElem? (i := 169) rfl))) (mvT hZ (hw _ (List.mem_of_getElem? (i := 168) rfl))) (by decide) (backOf (W := 0) (rm30_20 l Z a0 hw [] r_17 et.toInt8.toInt32 eo.toInt8.toInt32 w_COMPACT_STRINGS r1_17 rk2_17 v_SIOOBE_FORMATTER T17.heap n0 Z17 c26 hc8_3_7 q17_3 q17_2 q17_4 q17_6 c28 hr_v_SIOOBE_FORMATTER) hZ (hw _ (List.mem_of_getElem? (i := 170) rfl)) (hw _ (List.mem_of_getElem? (i := 38) rfl)) (by decide) (by decide)) q27a q27c (g := (mkF m 103 #[.val (.int p0), .val (.int p1), .val (.int val), .val (.int (0 : Int32)), .val (.ref r_17), .val (.int (val / (10 : Int32))), .val (.int (val % (10 : Int32))), .val (.int (2 : Int32)), .val (.int (2 : Int32))] [(.int (0 : Int32)), (.ref r_17)])) rfl (by rw [hml]; rfl) (Steps.refl _) (argsL := [(.int (0 : Int32))]) (rest := []) (lenOf pd_26 rfl) rfl (by show 2 * 0 + _ ≤ _; exact Nat.le_of_eq rfl) (hb hby at_103) (fun _ _ => ⟨rfl, q25_0, (by decide : 3 + 0 ≤ _), (by decide : 8 + 0 ≤ _)⟩)
      dsimp only [Pt.U, Pt.locs, Pt.cells, Pt.slots] at X27 l27 y27 z27 st27 hQ27
      subst l27 y27 z27
      obtain ⟨rfl, Nq27, q27_0⟩ := hQ27
      have N27 := Fr.app N25 Nq27
      refine Go.tr st27 ?_
      show Go p e below _ (T27.setTop (mkF m 106 #[.val (.int p0), .val (.int p1), .val (.int val), .val (.int (0 : Int32)), .val (.ref r_17), .val (.int (val / (10 : Int32))), .val (.int (val % (10 : Int32))), .val (.int (2 : Int32)), .val (.int (2 : Int32))] [(.int (nar .char (nar .char ((et.toInt8.toInt32 &&& (255 : Int32)).toUInt32.toUInt16.toUInt32.toInt32))))]))
      refine Go.of (fun _ k => XS.bipush X27.here hx rfl (hb hby at_106) k) ?_
      show Go p e below _ (T27.setTop (mkF m 108 #[.val (.int p0), .val (.int p1), .val (.int val), .val (.int (0 : Int32)), .val (.ref r_17), .val (.int (val / (10 : Int32))), .val (.int (val % (10 : Int32))), .val (.int (2 : Int32)), .val (.int (2 : Int32))] [(.int (48 : Int32)), (.int (nar .char (nar .char ((et.toInt8.toInt32 &&& (255 : Int32)).toUInt32.toUInt16.toUInt32.toInt32))))]))
      refine Go.of (fun _ k => XS.iload X27.here hx rfl (hb hby at_108) rfl  k) ?_
      show Go p e below _ (T27.setTop (mkF m 110 #[.val (.int p0), .val (.int p1), .val (.int val), .val (.int (0 : Int32)), .val (.ref r_17), .val (.int (val / (10 : Int32))), .val (.int (val % (10 : Int32))), .val (.int (2 : Int32)), .val (.int (2 : Int32))] [(.int (val / (10 : Int32))), (.int (48 : Int32)), (.int (nar .char (nar .char ((et.toInt8.toInt32 &&& (255 : Int32)).toUInt32.toUInt16.toUInt32.toInt32))))]))
      refine Go.of (fun _ k => XS.iadd X27.here hx rfl (hb hby at_110) rfl k) ?_
      show Go p e below _ (T27.setTop (mkF m 111 #[.val (.int p0), .val (.int p1), .val (.int val), .val (.int (0 : Int32)), .val (.ref r_17), .val (.int (val / (10 : Int32))), .val (.int (val % (10 : Int32))), .val (.int (2 : Int32)), .val (.int (2 : Int32))] [(.int ((48 : Int32) + (val / (10 : Int32)))), (.int (nar .char (nar .char ((et.toInt8.toInt32 &&& (255 : Int32)).toUInt32.toUInt16.toUInt32.toInt32))))]))
      refine Go.of (fun _ k => XS.i2c X27.here hx rfl (hb hby at_111) rfl k) ?_
      show Go p e below _ (T27.setTop (mkF m 112 #[.val (.int p0), .val (.int p1), .val (.int val), .val (.int (0 : Int32)), .val (.ref r_17), .val (.int (val / (10 : Int32))), .val (.int (val % (10 : Int32))), .val (.int (2 : Int32)), .val (.int (2 : Int32))] [(.int (((48 : Int32) + (val / (10 : Int32))).toUInt32.toUInt16.toUInt32.toInt32)), (.int (nar .char (nar .char ((et.toInt8.toInt32 &&& (255 : Int32)).toUInt32.toUInt16.toUInt32.toInt32))))]))
      refine Go.of (fun _ k => XS.icmpYes X27.here hx rfl (pc0 := 112) (pc' := 117) rfl (hb hby at_112) rfl (teq ((own_v9 val eo et hR heo het hs6) : (nar .char (nar .char ((et.toInt8.toInt32 &&& (255 : Int32)).toUInt32.toUInt16.toUInt32.toInt32))) = (((48 : Int32) + (val / (10 : Int32))).toUInt32.toUInt16.toUInt32.toInt32))).1 (by decide) (by decide) k) ?_
      show Go p e below _ (T27.setTop (mkF m 117 #[.val (.int p0), .val (.int p1), .val (.int val), .val (.int (0 : Int32)), .val (.ref r_17), .val (.int (val / (10 : Int32))), .val (.int (val % (10 : Int32))), .val (.int (2 : Int32)), .val (.int (2 : Int32))] []))
      refine Go.of (fun _ k => XS.aload X27.here hx rfl (hb hby at_117) rfl rfl k) ?_
      show Go p e below _ (T27.setTop (mkF m 119 #[.val (.int p0), .val (.int p1), .val (.int val), .val (.int (0 : Int32)), .val (.ref r_17), .val (.int (val / (10 : Int32))), .val (.int (val % (10 : Int32))), .val (.int (2 : Int32)), .val (.int (2 : Int32))] [(.ref r_17)]))
      refine Go.of (fun _ k => XS.iconst X27.here hx rfl (hb hby at_119) k) ?_
      show Go p e below _ (T27.setTop (mkF m 120 #[.val (.int p0), .val (.int p1), .val (.int val), .val (.int (0 : Int32)), .val (.ref r_17), .val (.int (val / (10 : Int32))), .val (.int (val % (10 : Int32))), .val (.int (2 : Int32)), .val (.int (2 : Int32))] [(.int (1 : Int32)), (.ref r_17)]))
      obtain ⟨cq29, kq29, q29a, q29b, q29c⟩ := isOf hZ q27_0 q17_2
      obtain ⟨_, _, ⟨T29, L29, k29, n29⟩, -, X29, ⟨Lc29, hQ29, l29, y29, z29⟩, st29⟩ := X27.virtualBack hx (y := (⟨"java/lang/String", "charAt", "(I)C"⟩ : MethodName)) (z := (⟨"java/lang/String", "charAt", "(I)C"⟩ : MethodName)) hown (mvT hZ (hw _ (List.mem_of_getElem? (i := 166) rfl))) (mvT hZ (hw _ (List.mem_of_getElem? (i := 167) rfl))) (notFace_of_selects (args := #[]) (mvT hZ (hw _ (List.mem_of_getElem? (i := 169) rfl)))) (mvT hZ (hw _ (List.mem_of_getElem? (i := 169) rfl))) (mvT hZ (hw _ (List.mem_of_getElem? (i := 168) rfl))) (by decide) (backOf (W := 0) (rm30_21 l Z a0 hw [] r_17 et.toInt8.toInt32 eo.toInt8.toInt32 w_COMPACT_STRINGS r1_17 rk2_17 v_SIOOBE_FORMATTER T17.heap n0 Z17 c26 hc8_3_7 q17_3 q17_2 q17_4 q17_6 c28 hr_v_SIOOBE_FORMATTER) hZ (hw _ (List.mem_of_getElem? (i := 170) rfl)) (hw _ (List.mem_of_getElem? (i := 38) rfl)) (by decide) (by decide)) q29a q29c (g := (mkF m 120 #[.val (.int p0), .val (.int p1), .val (.int val), .val (.int (0 : Int32)), .val (.ref r_17), .val (.int (val / (10 : Int32))), .val (.int (val % (10 : Int32))), .val (.int (2 : Int32)), .val (.int (2 : Int32))] [(.int (1 : Int32)), (.ref r_17)])) rfl (by rw [hml]; rfl) (Steps.refl _) (argsL := [(.int (1 : Int32))]) (rest := []) (lenOf pd_26 rfl) rfl (by show 2 * 0 + _ ≤ _; exact Nat.le_of_eq rfl) (hb hby at_120) (fun _ _ => ⟨rfl, q27_0, (by decide : 3 + 0 ≤ _), (by decide : 8 + 0 ≤ _)⟩)
      dsimp only [Pt.U, Pt.locs, Pt.cells, Pt.slots] at X29 l29 y29 z29 st29 hQ29
      subst l29 y29 z29
      obtain ⟨rfl, Nq29, q29_0⟩ := hQ29
      have N29 := Fr.app N27 Nq29
      refine Go.tr st29 ?_
      show Go p e below _ (T29.setTop (mkF m 123 #[.val (.int p0), .val (.int p1), .val (.int val), .val (.int (0 : Int32)), .val (.ref r_17), .val (.int (val / (10 : Int32))), .val (.int (val % (10 : Int32))), .val (.int (2 : Int32)), .val (.int (2 : Int32))] [(.int (nar .char (nar .char ((eo.toInt8.toInt32 &&& (255 : Int32)).toUInt32.toUInt16.toUInt32.toInt32))))]))
      refine Go.of (fun _ k => XS.bipush X29.here hx rfl (hb hby at_123) k) ?_
      show Go p e below _ (T29.setTop (mkF m 125 #[.val (.int p0), .val (.int p1), .val (.int val), .val (.int (0 : Int32)), .val (.ref r_17), .val (.int (val / (10 : Int32))), .val (.int (val % (10 : Int32))), .val (.int (2 : Int32)), .val (.int (2 : Int32))] [(.int (48 : Int32)), (.int (nar .char (nar .char ((eo.toInt8.toInt32 &&& (255 : Int32)).toUInt32.toUInt16.toUInt32.toInt32))))]))
      refine Go.of (fun _ k => XS.iload X29.here hx rfl (hb hby at_125) rfl  k) ?_
      show Go p e below _ (T29.setTop (mkF m 127 #[.val (.int p0), .val (.int p1), .val (.int val), .val (.int (0 : Int32)), .val (.ref r_17), .val (.int (val / (10 : Int32))), .val (.int (val % (10 : Int32))), .val (.int (2 : Int32)), .val (.int (2 : Int32))] [(.int (val % (10 : Int32))), (.int (48 : Int32)), (.int (nar .char (nar .char ((eo.toInt8.toInt32 &&& (255 : Int32)).toUInt32.toUInt16.toUInt32.toInt32))))]))
      refine Go.of (fun _ k => XS.iadd X29.here hx rfl (hb hby at_127) rfl k) ?_
      show Go p e below _ (T29.setTop (mkF m 128 #[.val (.int p0), .val (.int p1), .val (.int val), .val (.int (0 : Int32)), .val (.ref r_17), .val (.int (val / (10 : Int32))), .val (.int (val % (10 : Int32))), .val (.int (2 : Int32)), .val (.int (2 : Int32))] [(.int ((48 : Int32) + (val % (10 : Int32)))), (.int (nar .char (nar .char ((eo.toInt8.toInt32 &&& (255 : Int32)).toUInt32.toUInt16.toUInt32.toInt32))))]))
      refine Go.of (fun _ k => XS.i2c X29.here hx rfl (hb hby at_128) rfl k) ?_
      show Go p e below _ (T29.setTop (mkF m 129 #[.val (.int p0), .val (.int p1), .val (.int val), .val (.int (0 : Int32)), .val (.ref r_17), .val (.int (val / (10 : Int32))), .val (.int (val % (10 : Int32))), .val (.int (2 : Int32)), .val (.int (2 : Int32))] [(.int (((48 : Int32) + (val % (10 : Int32))).toUInt32.toUInt16.toUInt32.toInt32)), (.int (nar .char (nar .char ((eo.toInt8.toInt32 &&& (255 : Int32)).toUInt32.toUInt16.toUInt32.toInt32))))]))
      refine Go.of (fun _ k => XS.icmpYes X29.here hx rfl (pc0 := 129) (pc' := 151) rfl (hb hby at_129) rfl (teq ((own_v10 val eo et hR heo het hs6) : (nar .char (nar .char ((eo.toInt8.toInt32 &&& (255 : Int32)).toUInt32.toUInt16.toUInt32.toInt32))) = (((48 : Int32) + (val % (10 : Int32))).toUInt32.toUInt16.toUInt32.toInt32))).1 (by decide) (by decide) k) ?_
      show Go p e below _ (T29.setTop (mkF m 151 #[.val (.int p0), .val (.int p1), .val (.int val), .val (.int (0 : Int32)), .val (.ref r_17), .val (.int (val / (10 : Int32))), .val (.int (val % (10 : Int32))), .val (.int (2 : Int32)), .val (.int (2 : Int32))] []))
      refine Go.of (fun _ k => XS.iloadN X29.here hx rfl (hb hby at_151) rfl  k) ?_
      show Go p e below _ (T29.setTop (mkF m 152 #[.val (.int p0), .val (.int p1), .val (.int val), .val (.int (0 : Int32)), .val (.ref r_17), .val (.int (val / (10 : Int32))), .val (.int (val % (10 : Int32))), .val (.int (2 : Int32)), .val (.int (2 : Int32))] [(.int (0 : Int32))]))
      refine Go.of (fun _ k => XS.ifYes X29.here hx rfl (pc0 := 152) (pc' := 169) rfl (hb hby at_152) rfl ((if0 _ _).trans (teq (by decide : (0 : Int32) = (0 : Int32))).1) (by decide) (by decide) k) ?_
      show Go p e below _ (T29.setTop (mkF m 169 #[.val (.int p0), .val (.int p1), .val (.int val), .val (.int (0 : Int32)), .val (.ref r_17), .val (.int (val / (10 : Int32))), .val (.int (val % (10 : Int32))), .val (.int (2 : Int32)), .val (.int (2 : Int32))] []))
      refine Go.of (fun _ k => XS.iconst X29.here hx rfl (hb hby at_169) k) ?_
      show Go p e below _ (T29.setTop (mkF m 170 #[.val (.int p0), .val (.int p1), .val (.int val), .val (.int (0 : Int32)), .val (.ref r_17), .val (.int (val / (10 : Int32))), .val (.int (val % (10 : Int32))), .val (.int (2 : Int32)), .val (.int (2 : Int32))] [(.int (1 : Int32))]))
      obtain ⟨fs, hr, hrun, hended, hW, hsame⟩ := X29.leave (v := some (.int (1 : Int32))) (fun h => by rw [Bd.returns] at h; cases h)
      refine Go.mk _ _ ?_ hrun hended ⟨_, _, rfl, ?_, ReturnedEndW.of_narrow ⟨_, rfl⟩ hW (hsame.mono (by decide) (by decide))⟩
      · exact retN X29 hx (t := .boolean) Bd.returns (by simp) (hb hby at_170) hr
      · show Q0 Z val eo et p0 p1 w_COMPACT_STRINGS w_DigitOnes cl_w_DigitOnes v_SIOOBE_FORMATTER w_DigitTens cl_w_DigitTens h0 n0 _ T29.heap _
        rw [q29_0]
        exact ⟨rfl, N29⟩
  ·
    refine Go.of (fun _ k => XS.ifNo X0.here hx rfl (hb hby at_13) rfl ((if0 _ _).trans (feq hc1).1) k) ?_
    show Go p e below _ (s₁.setTop (mkF m 16 #[.val (.int p0), .val (.int p1), .val (.int val), .unset, .unset, .unset, .unset, .unset, .unset] []))
    refine Go.of (fun _ k => XS.iconst X0.here hx rfl (hb hby at_16) k) ?_
    show Go p e below _ (s₁.setTop (mkF m 17 #[.val (.int p0), .val (.int p1), .val (.int val), .unset, .unset, .unset, .unset, .unset, .unset] [(.int (1 : Int32))]))
    refine Go.of (fun _ k => XS.goto X0.here hx rfl (pc0 := 17) (pc' := 21) rfl (hb hby at_17) (by decide) (by decide) k) ?_
    show Go p e below _ (s₁.setTop (mkF m 21 #[.val (.int p0), .val (.int p1), .val (.int val), .unset, .unset, .unset, .unset, .unset, .unset] [(.int (1 : Int32))]))
    refine Go.of (fun _ k => XS.istoreN X0.here hx rfl (hb hby at_21) rfl (l' := #[.val (.int p0), .val (.int p1), .val (.int val), .val (.int (1 : Int32)), .unset, .unset, .unset, .unset, .unset]) rfl k) ?_
    show Go p e below _ (s₁.setTop (mkF m 22 #[.val (.int p0), .val (.int p1), .val (.int val), .val (.int (1 : Int32)), .unset, .unset, .unset, .unset, .unset] []))
    obtain ⟨T31, h31, X31, e31, E31, A31, D31, -, st31⟩ := newO X0 hx hZ hown (hw _ (List.mem_of_getElem? (i := 1) rfl)) (hw _ (List.mem_of_getElem? (i := 2) rfl)) (hw _ (List.mem_of_getElem? (i := 3) rfl)) e0 (g := (mkF m 22 #[.val (.int p0), .val (.int p1), .val (.int val), .val (.int (1 : Int32)), .unset, .unset, .unset, .unset, .unset] [])) rfl (hb hby at_22) (by decide) (by decide)
    obtain ⟨ob31, g31⟩ : ∃ z, z = h0.size := ⟨_, rfl⟩
    rw [← g31] at A31 D31 st31
    refine Go.of st31 ?_
    have g_ob31 : n0 ≤ ob31 := Nat.le_trans Z0 (Nat.le_of_eq g31.symm)
    have sz_ob31 : h0.size ≤ ob31 := Nat.le_trans ((Keep.refl h0 [])).1 (Nat.le_of_eq g31.symm)
    have K31 : Keep h0 h31 [] := ((Keep.refl h0 [])).ext E31
    have Z31 : n0 ≤ h31.size := Nat.le_trans Z0 E31.1
    have f32 : Fld Z h31 ob31 "org/hourbook/calendar/HourEnding" "value" "I" (.int (0 : Int32)) := D31 (Or.inr (hw _ (List.mem_of_getElem? (i := 16) rfl))) (ty := .int) (by decide)
    have f33 : Fld Z h31 ob31 "org/hourbook/calendar/HourEnding" "repeated" "Z" (.int (0 : Int32)) := D31 (Or.inr (hw _ (List.mem_of_getElem? (i := 18) rfl))) (ty := .boolean) (by decide)
    show Go p e below _ (T31.setTop (mkF m 25 #[.val (.int p0), .val (.int p1), .val (.int val), .val (.int (1 : Int32)), .unset, .unset, .unset, .unset, .unset] [(.ref ob31)]))
    refine Go.of (fun _ k => XS.dup X31.here hx rfl (hb hby at_25) rfl rfl k) ?_
    show Go p e below _ (T31.setTop (mkF m 26 #[.val (.int p0), .val (.int p1), .val (.int val), .val (.int (1 : Int32)), .unset, .unset, .unset, .unset, .unset] [(.ref ob31), (.ref ob31)]))
    refine Go.of (fun _ k => XS.iloadN X31.here hx rfl (hb hby at_26) rfl  k) ?_
    show Go p e below _ (T31.setTop (mkF m 27 #[.val (.int p0), .val (.int p1), .val (.int val), .val (.int (1 : Int32)), .unset, .unset, .unset, .unset, .unset] [(.int val), (.ref ob31), (.ref ob31)]))
    refine Go.of (fun _ k => XS.iloadN X31.here hx rfl (hb hby at_27) rfl  k) ?_
    show Go p e below _ (T31.setTop (mkF m 28 #[.val (.int p0), .val (.int p1), .val (.int val), .val (.int (1 : Int32)), .unset, .unset, .unset, .unset, .unset] [(.int (1 : Int32)), (.int val), (.ref ob31), (.ref ob31)]))
    obtain ⟨_, _, ⟨T34, L34, k34, n34⟩, -, X34, ⟨Lc34, hQ34, l34, y34, z34⟩, st34⟩ := X31.specialBack hx (y := (⟨"org/hourbook/calendar/HourEnding", "<init>", "(IZ)V"⟩ : MethodName)) rfl hown (mvT hZ (hw _ (List.mem_of_getElem? (i := 4) rfl))) (mvT hZ (hw _ (List.mem_of_getElem? (i := 5) rfl))) (mvT hZ (hw _ (List.mem_of_getElem? (i := 6) rfl))) (by decide) (backOf (W := 1) (rm1_1 l Z a0 hw [] ob31 val (.int (0 : Int32)) (.int (0 : Int32)) h31 n0 Z31 A31 f32 g_ob31 f33) hZ (hw _ (List.mem_of_getElem? (i := 6) rfl)) (hw _ (List.mem_of_getElem? (i := 3) rfl)) (by decide) (by decide)) (g := (mkF m 28 #[.val (.int p0), .val (.int p1), .val (.int val), .val (.int (1 : Int32)), .unset, .unset, .unset, .unset, .unset] [(.int (1 : Int32)), (.int val), (.ref ob31), (.ref ob31)])) rfl (by rw [hml]; rfl) (Steps.refl _) (a := ob31) (argsL := [(.int val), (.int (1 : Int32))]) (rest := [(.ref ob31)]) (lenOf pd_25 rfl) rfl (by show 2 * 0 + _ ≤ _; exact Nat.le_of_eq rfl) (hb hby at_28) (fun _ _ => ⟨rfl, e31, (by decide : 1 + 0 ≤ _), (by decide : 2 + 0 ≤ _)⟩)
    dsimp only [Pt.U, Pt.locs, Pt.cells, Pt.slots] at X34 l34 y34 z34 st34 hQ34
    subst l34 y34 z34
    obtain ⟨rfl, Nq34, q34_0, q34_1, q34_2, q34_3⟩ := hQ34
    have N34 := Fr.app N0 Nq34
    refine Go.tr st34 ?_
    have K34 : Keep h0 T34.heap [] := (K31).trans q34_0 (allS (Or.inr sz_ob31) all0)
    have Z34 : n0 ≤ T34.heap.size := Nat.le_trans Z31 q34_0.1
    show Go p e below _ (T34.setTop (mkF m 31 #[.val (.int p0), .val (.int p1), .val (.int val), .val (.int (1 : Int32)), .unset, .unset, .unset, .unset, .unset] [(.ref ob31)]))
    by_cases hs35 : val < (10 : Int32)
    ·
      show Go p e below _ (T34.setTop (mkF m 31 #[.val (.int p0), .val (.int p1), .val (.int val), .val (.int (1 : Int32)), .unset, .unset, .unset, .unset, .unset] [(.ref ob31)]))
      have c37 : Sta Z T34.heap "java/lang/String" "COMPACT_STRINGS" "Z" (.int w_COMPACT_STRINGS) := (own_Sta_keep S_COMPACT_STRINGS K34 own_p0)
      have c38 : Sta Z T34.heap "java/lang/Integer" "DigitOnes" "[B" (.ref w_DigitOnes) := (own_Sta_keep S_DigitOnes K34 own_p0)
      have c39 : Arr Z h31 w_DigitOnes cl_w_DigitOnes .byte := (Arr.ext E31 Ar_w_DigitOnes)
      have c40 : Arr Z T34.heap w_DigitOnes cl_w_DigitOnes .byte := ⟨q34_0.2.1 _ _ c39.1 (ninS (Nat.ne_of_lt (Nat.lt_of_lt_of_le Ar_w_DigitOnes.lt (Nat.le_of_eq g31.symm))) nin0), c39.2⟩
      have CA36 : CHr Z own_EL s.vm h0 s.vm T34.heap := CHr.keep (K34) sf0 hCH
      obtain ⟨cq36, kq36, q36a, q36b, q36c⟩ := isOf hZ rfl q34_1
      obtain ⟨_, _, ⟨T36, L36, k36, n36⟩, -, X36, hS36, gr36, ⟨Lc36, hQ36, l36, y36, z36, CB36⟩, st36⟩ := X34.virtualBackS hx (y := (⟨"org/hourbook/calendar/HourEnding", "label", "()Ljava/lang/String;"⟩ : MethodName)) (z := (⟨"org/hourbook/calendar/HourEnding", "label", "()Ljava/lang/String;"⟩ : MethodName)) hown (mvT hZ (hw _ (List.mem_of_getElem? (i := 19) rfl))) (mvT hZ (hw _ (List.mem_of_getElem? (i := 20) rfl))) (notFace_of_selects (args := #[]) (mvT hZ (hw _ (List.mem_of_getElem? (i := 22) rfl)))) (mvT hZ (hw _ (List.mem_of_getElem? (i := 22) rfl))) (mvT hZ (hw _ (List.mem_of_getElem? (i := 21) rfl))) (by decide) (backOfSH (s := s) (vm0 := s.vm) (W := 0) (rm4_11 l Z a0 hw [] ob31 w_COMPACT_STRINGS val eo w_DigitOnes cl_w_DigitOnes T34.heap n0 Z34 q34_2 c37 hc8_3_7 q34_3 (own_v0 val eo et hR heo het hs35) (own_v1 val eo et hR heo het hs35) (own_v2 val eo et hR heo het hs35) c38 c40 hin83_4_3_7 hat83_4_3_7 (own_v3 val eo et hR heo het hs35)) hZ (hw _ (List.mem_of_getElem? (i := 23) rfl)) (hw _ (List.mem_of_getElem? (i := 3) rfl)) (by decide) (by decide) (own_ew hw) CA36.1) q36a q36c (g := (mkF m 31 #[.val (.int p0), .val (.int p1), .val (.int val), .val (.int (1 : Int32)), .unset, .unset, .unset, .unset, .unset] [(.ref ob31)])) rfl (by rw [hml]; rfl) (Steps.refl _) (argsL := []) (rest := []) (lenOf pd_24 rfl) rfl (by show 2 * 0 + _ ≤ _; exact Nat.le_of_eq rfl) (hb hby at_31) (fun _ _ => ⟨rfl, rfl, (by decide : 1 + 6 ≤ _), (by decide : 2 + 34 ≤ _)⟩)
      dsimp only [Pt.U, Pt.locs, Pt.cells, Pt.slots] at X36 l36 y36 z36 st36 hQ36
      subst l36 y36 z36
      obtain ⟨r_36, r1_36, rk2_36, rfl, Nq36, q36_0, q36_1, q36_2, q36_3, q36_4, q36_5, q36_6⟩ := hQ36
      have N36 := Fr.app N34 Nq36
      refine Go.tr st36 ?_
      have K36 : Keep h0 T36.heap [] := (K34).trans q36_0 all0
      have Z36 : n0 ≤ T36.heap.size := Nat.le_trans Z34 q36_0.1
      have g_r_36 : n0 ≤ r_36 := q36_1.2
      have sz_r_36 : h0.size ≤ r_36 := Nat.le_trans (K34).1 q36_1.1
      have g_r1_36 : n0 ≤ r1_36 := q36_5.2
      have sz_r1_36 : h0.size ≤ r1_36 := Nat.le_trans (K34).1 q36_5.1
      have hZ36 : Z.Warmed39 (s.setVm T36.vm).vm := State.Warmed39.trans hZ hS36.1
      have hown36 : (s.setVm T36.vm).vm.findClass "org/hourbook/calendar/HourEndingLabelPinLaw" = some m.cls := (hS36.1.alike.findClass _ _).trans hown
      have hk36 : T36.heap.size ≤ T36.heap.size := Nat.le_refl _
      show Go p e below _ (T36.setTop (mkF m 34 #[.val (.int p0), .val (.int p1), .val (.int val), .val (.int (1 : Int32)), .unset, .unset, .unset, .unset, .unset] [(.ref r_36)]))
      refine Go.of (fun _ k => XS.astore X36.here hx rfl (hb hby at_34) rfl rfl (l' := #[.val (.int p0), .val (.int p1), .val (.int val), .val (.int (1 : Int32)), .val (.ref r_36), .unset, .unset, .unset, .unset]) rfl k) ?_
      show Go p e below _ (T36.setTop (mkF m 36 #[.val (.int p0), .val (.int p1), .val (.int val), .val (.int (1 : Int32)), .val (.ref r_36), .unset, .unset, .unset, .unset] []))
      refine Go.of (fun _ k => XS.aload X36.here hx rfl (hb hby at_36) rfl rfl k) ?_
      show Go p e below _ (T36.setTop (mkF m 38 #[.val (.int p0), .val (.int p1), .val (.int val), .val (.int (1 : Int32)), .val (.ref r_36), .unset, .unset, .unset, .unset] [(.ref r_36)]))
      refine Go.of (fun _ k => XS.ifnonnullYes X36.here hx rfl (pc0 := 38) (pc' := 43) rfl (hb hby at_38) rfl (by decide) (by decide) k) ?_
      show Go p e below _ (T36.setTop (mkF m 43 #[.val (.int p0), .val (.int p1), .val (.int val), .val (.int (1 : Int32)), .val (.ref r_36), .unset, .unset, .unset, .unset] []))
      refine Go.of (fun _ k => XS.iloadN X36.here hx rfl (hb hby at_43) rfl  k) ?_
      show Go p e below _ (T36.setTop (mkF m 44 #[.val (.int p0), .val (.int p1), .val (.int val), .val (.int (1 : Int32)), .val (.ref r_36), .unset, .unset, .unset, .unset] [(.int val)]))
      refine Go.of (fun _ k => XS.bipush X36.here hx rfl (hb hby at_44) k) ?_
      show Go p e below _ (T36.setTop (mkF m 46 #[.val (.int p0), .val (.int p1), .val (.int val), .val (.int (1 : Int32)), .val (.ref r_36), .unset, .unset, .unset, .unset] [(.int (10 : Int32)), (.int val)]))
      refine Go.of (fun _ k => XS.idiv X36.here hx rfl (hb hby at_46) rfl (by decide) k) ?_
      show Go p e below _ (T36.setTop (mkF m 47 #[.val (.int p0), .val (.int p1), .val (.int val), .val (.int (1 : Int32)), .val (.ref r_36), .unset, .unset, .unset, .unset] [(.int (val / (10 : Int32)))]))
      refine Go.of (fun _ k => XS.istore X36.here hx rfl (hb hby at_47) rfl (l' := #[.val (.int p0), .val (.int p1), .val (.int val), .val (.int (1 : Int32)), .val (.ref r_36), .val (.int (val / (10 : Int32))), .unset, .unset, .unset]) rfl k) ?_
      show Go p e below _ (T36.setTop (mkF m 49 #[.val (.int p0), .val (.int p1), .val (.int val), .val (.int (1 : Int32)), .val (.ref r_36), .val (.int (val / (10 : Int32))), .unset, .unset, .unset] []))
      refine Go.of (fun _ k => XS.iloadN X36.here hx rfl (hb hby at_49) rfl  k) ?_
      show Go p e below _ (T36.setTop (mkF m 50 #[.val (.int p0), .val (.int p1), .val (.int val), .val (.int (1 : Int32)), .val (.ref r_36), .val (.int (val / (10 : Int32))), .unset, .unset, .unset] [(.int val)]))
      refine Go.of (fun _ k => XS.bipush X36.here hx rfl (hb hby at_50) k) ?_
      show Go p e below _ (T36.setTop (mkF m 52 #[.val (.int p0), .val (.int p1), .val (.int val), .val (.int (1 : Int32)), .val (.ref r_36), .val (.int (val / (10 : Int32))), .unset, .unset, .unset] [(.int (10 : Int32)), (.int val)]))
      refine Go.of (fun _ k => iremM X36 hx rfl (hb hby at_52) rfl (by decide) k) ?_
      show Go p e below _ (T36.setTop (mkF m 53 #[.val (.int p0), .val (.int p1), .val (.int val), .val (.int (1 : Int32)), .val (.ref r_36), .val (.int (val / (10 : Int32))), .unset, .unset, .unset] [(.int (val % (10 : Int32)))]))
      refine Go.of (fun _ k => XS.istore X36.here hx rfl (hb hby at_53) rfl (l' := #[.val (.int p0), .val (.int p1), .val (.int val), .val (.int (1 : Int32)), .val (.ref r_36), .val (.int (val / (10 : Int32))), .val (.int (val % (10 : Int32))), .unset, .unset]) rfl k) ?_
      show Go p e below _ (T36.setTop (mkF m 55 #[.val (.int p0), .val (.int p1), .val (.int val), .val (.int (1 : Int32)), .val (.ref r_36), .val (.int (val / (10 : Int32))), .val (.int (val % (10 : Int32))), .unset, .unset] []))
      refine Go.of (fun _ k => XS.iloadN X36.here hx rfl (hb hby at_55) rfl  k) ?_
      show Go p e below _ (T36.setTop (mkF m 56 #[.val (.int p0), .val (.int p1), .val (.int val), .val (.int (1 : Int32)), .val (.ref r_36), .val (.int (val / (10 : Int32))), .val (.int (val % (10 : Int32))), .unset, .unset] [(.int val)]))
      refine Go.of (fun _ k => XS.bipush X36.here hx rfl (hb hby at_56) k) ?_
      show Go p e below _ (T36.setTop (mkF m 58 #[.val (.int p0), .val (.int p1), .val (.int val), .val (.int (1 : Int32)), .val (.ref r_36), .val (.int (val / (10 : Int32))), .val (.int (val % (10 : Int32))), .unset, .unset] [(.int (10 : Int32)), (.int val)]))
      refine Go.of (fun _ k => XS.icmpNo X36.here hx rfl (hb hby at_58) rfl (tlt hs35).2.1 k) ?_
      show Go p e below _ (T36.setTop (mkF m 61 #[.val (.int p0), .val (.int p1), .val (.int val), .val (.int (1 : Int32)), .val (.ref r_36), .val (.int (val / (10 : Int32))), .val (.int (val % (10 : Int32))), .unset, .unset] []))
      refine Go.of (fun _ k => XS.iconst X36.here hx rfl (hb hby at_61) k) ?_
      show Go p e below _ (T36.setTop (mkF m 62 #[.val (.int p0), .val (.int p1), .val (.int val), .val (.int (1 : Int32)), .val (.ref r_36), .val (.int (val / (10 : Int32))), .val (.int (val % (10 : Int32))), .unset, .unset] [(.int (1 : Int32))]))
      refine Go.of (fun _ k => XS.goto X36.here hx rfl (pc0 := 62) (pc' := 66) rfl (hb hby at_62) (by decide) (by decide) k) ?_
      show Go p e below _ (T36.setTop (mkF m 66 #[.val (.int p0), .val (.int p1), .val (.int val), .val (.int (1 : Int32)), .val (.ref r_36), .val (.int (val / (10 : Int32))), .val (.int (val % (10 : Int32))), .unset, .unset] [(.int (1 : Int32))]))
      refine Go.of (fun _ k => XS.istore X36.here hx rfl (hb hby at_66) rfl (l' := #[.val (.int p0), .val (.int p1), .val (.int val), .val (.int (1 : Int32)), .val (.ref r_36), .val (.int (val / (10 : Int32))), .val (.int (val % (10 : Int32))), .val (.int (1 : Int32)), .unset]) rfl k) ?_
      show Go p e below _ (T36.setTop (mkF m 68 #[.val (.int p0), .val (.int p1), .val (.int val), .val (.int (1 : Int32)), .val (.ref r_36), .val (.int (val / (10 : Int32))), .val (.int (val % (10 : Int32))), .val (.int (1 : Int32)), .unset] []))
      refine Go.of (fun _ k => XS.iload X36.here hx rfl (hb hby at_68) rfl  k) ?_
      show Go p e below _ (T36.setTop (mkF m 70 #[.val (.int p0), .val (.int p1), .val (.int val), .val (.int (1 : Int32)), .val (.ref r_36), .val (.int (val / (10 : Int32))), .val (.int (val % (10 : Int32))), .val (.int (1 : Int32)), .unset] [(.int (1 : Int32))]))
      refine Go.of (fun _ k => XS.iloadN X36.here hx rfl (hb hby at_70) rfl  k) ?_
      show Go p e below _ (T36.setTop (mkF m 71 #[.val (.int p0), .val (.int p1), .val (.int val), .val (.int (1 : Int32)), .val (.ref r_36), .val (.int (val / (10 : Int32))), .val (.int (val % (10 : Int32))), .val (.int (1 : Int32)), .unset] [(.int (1 : Int32)), (.int (1 : Int32))]))
      refine Go.of (fun _ k => XS.ifNo X36.here hx rfl (hb hby at_71) rfl ((if0 _ _).trans (feq (by decide : ¬ ((1 : Int32) = (0 : Int32)))).1) k) ?_
      show Go p e below _ (T36.setTop (mkF m 74 #[.val (.int p0), .val (.int p1), .val (.int val), .val (.int (1 : Int32)), .val (.ref r_36), .val (.int (val / (10 : Int32))), .val (.int (val % (10 : Int32))), .val (.int (1 : Int32)), .unset] [(.int (1 : Int32))]))
      refine Go.of (fun _ k => XS.iconst X36.here hx rfl (hb hby at_74) k) ?_
      show Go p e below _ (T36.setTop (mkF m 75 #[.val (.int p0), .val (.int p1), .val (.int val), .val (.int (1 : Int32)), .val (.ref r_36), .val (.int (val / (10 : Int32))), .val (.int (val % (10 : Int32))), .val (.int (1 : Int32)), .unset] [(.int (1 : Int32)), (.int (1 : Int32))]))
      refine Go.of (fun _ k => XS.goto X36.here hx rfl (pc0 := 75) (pc' := 79) rfl (hb hby at_75) (by decide) (by decide) k) ?_
      show Go p e below _ (T36.setTop (mkF m 79 #[.val (.int p0), .val (.int p1), .val (.int val), .val (.int (1 : Int32)), .val (.ref r_36), .val (.int (val / (10 : Int32))), .val (.int (val % (10 : Int32))), .val (.int (1 : Int32)), .unset] [(.int (1 : Int32)), (.int (1 : Int32))]))
      refine Go.of (fun _ k => XS.iadd X36.here hx rfl (hb hby at_79) rfl k) ?_
      show Go p e below _ (T36.setTop (mkF m 80 #[.val (.int p0), .val (.int p1), .val (.int val), .val (.int (1 : Int32)), .val (.ref r_36), .val (.int (val / (10 : Int32))), .val (.int (val % (10 : Int32))), .val (.int (1 : Int32)), .unset] [(.int (2 : Int32))]))
      refine Go.of (fun _ k => XS.istore X36.here hx rfl (hb hby at_80) rfl (l' := #[.val (.int p0), .val (.int p1), .val (.int val), .val (.int (1 : Int32)), .val (.ref r_36), .val (.int (val / (10 : Int32))), .val (.int (val % (10 : Int32))), .val (.int (1 : Int32)), .val (.int (2 : Int32))]) rfl k) ?_
      show Go p e below _ (T36.setTop (mkF m 82 #[.val (.int p0), .val (.int p1), .val (.int val), .val (.int (1 : Int32)), .val (.ref r_36), .val (.int (val / (10 : Int32))), .val (.int (val % (10 : Int32))), .val (.int (1 : Int32)), .val (.int (2 : Int32))] []))
      refine Go.of (fun _ k => XS.aload X36.here hx rfl (hb hby at_82) rfl rfl k) ?_
      show Go p e below _ (T36.setTop (mkF m 84 #[.val (.int p0), .val (.int p1), .val (.int val), .val (.int (1 : Int32)), .val (.ref r_36), .val (.int (val / (10 : Int32))), .val (.int (val % (10 : Int32))), .val (.int (1 : Int32)), .val (.int (2 : Int32))] [(.ref r_36)]))
      have c42 : Sta Z T36.heap "java/lang/String" "COMPACT_STRINGS" "Z" (.int w_COMPACT_STRINGS) := (own_Sta_keep S_COMPACT_STRINGS K36 own_p0)
      obtain ⟨cq41, kq41, q41a, q41b, q41c⟩ := isOf hZ36 rfl q36_2
      obtain ⟨_, _, ⟨T41, L41, k41, n41⟩, -, X41, ⟨Lc41, hQ41, l41, y41, z41⟩, st41⟩ := X36.virtualBack hx (y := (⟨"java/lang/String", "length", "()I"⟩ : MethodName)) (z := (⟨"java/lang/String", "length", "()I"⟩ : MethodName)) hown36 (mvT hZ36 (hw _ (List.mem_of_getElem? (i := 165) rfl))) (mvT hZ36 (hw _ (List.mem_of_getElem? (i := 90) rfl))) (notFace_of_selects (args := #[]) (mvT hZ36 (hw _ (List.mem_of_getElem? (i := 92) rfl)))) (mvT hZ36 (hw _ (List.mem_of_getElem? (i := 92) rfl))) (mvT hZ36 (hw _ (List.mem_of_getElem? (i := 91) rfl))) (by decide) (backOf (W := 0) (rm15_2 l Z a0 hw [] r_36 eo.toInt8.toInt32 (82 : Int32) r1_36 rk2_36 w_COMPACT_STRINGS T36.heap n0 Z36 q36_4 q36_6 c42 hc8_3_7 q36_3 q36_2) hZ36 (hw _ (List.mem_of_getElem? (i := 93) rfl)) (hw _ (List.mem_of_getElem? (i := 38) rfl)) (by decide) (by decide)) q41a q41c (g := (mkF m 84 #[.val (.int p0), .val (.int p1), .val (.int val), .val (.int (1 : Int32)), .val (.ref r_36), .val (.int (val / (10 : Int32))), .val (.int (val % (10 : Int32))), .val (.int (1 : Int32)), .val (.int (2 : Int32))] [(.ref r_36)])) rfl (by rw [hml]; rfl) (Steps.refl _) (argsL := []) (rest := []) (lenOf pd_8 rfl) rfl (by show 2 * 0 + _ ≤ _; exact Nat.le_of_eq rfl) (hb hby at_84) (fun _ _ => ⟨rfl, rfl, (by decide : 7 + 0 ≤ _), (by decide : 36 + 0 ≤ _)⟩)
      dsimp only [Pt.U, Pt.locs, Pt.cells, Pt.slots] at X41 l41 y41 z41 st41 hQ41
      subst l41 y41 z41
      obtain ⟨rfl, Nq41, q41_0⟩ := hQ41
      have N41 := Fr.app N36 Nq41
      refine Go.tr st41 ?_
      show Go p e below _ (T41.setTop (mkF m 87 #[.val (.int p0), .val (.int p1), .val (.int val), .val (.int (1 : Int32)), .val (.ref r_36), .val (.int (val / (10 : Int32))), .val (.int (val % (10 : Int32))), .val (.int (1 : Int32)), .val (.int (2 : Int32))] [(.int (2 : Int32))]))
      refine Go.of (fun _ k => XS.iload X41.here hx rfl (hb hby at_87) rfl  k) ?_
      show Go p e below _ (T41.setTop (mkF m 89 #[.val (.int p0), .val (.int p1), .val (.int val), .val (.int (1 : Int32)), .val (.ref r_36), .val (.int (val / (10 : Int32))), .val (.int (val % (10 : Int32))), .val (.int (1 : Int32)), .val (.int (2 : Int32))] [(.int (2 : Int32)), (.int (2 : Int32))]))
      refine Go.of (fun _ k => XS.icmpYes X41.here hx rfl (pc0 := 89) (pc' := 94) rfl (hb hby at_89) rfl (teq (by decide : (2 : Int32) = (2 : Int32))).1 (by decide) (by decide) k) ?_
      show Go p e below _ (T41.setTop (mkF m 94 #[.val (.int p0), .val (.int p1), .val (.int val), .val (.int (1 : Int32)), .val (.ref r_36), .val (.int (val / (10 : Int32))), .val (.int (val % (10 : Int32))), .val (.int (1 : Int32)), .val (.int (2 : Int32))] []))
      refine Go.of (fun _ k => XS.iload X41.here hx rfl (hb hby at_94) rfl  k) ?_
      show Go p e below _ (T41.setTop (mkF m 96 #[.val (.int p0), .val (.int p1), .val (.int val), .val (.int (1 : Int32)), .val (.ref r_36), .val (.int (val / (10 : Int32))), .val (.int (val % (10 : Int32))), .val (.int (1 : Int32)), .val (.int (2 : Int32))] [(.int (1 : Int32))]))
      refine Go.of (fun _ k => XS.iconst X41.here hx rfl (hb hby at_96) k) ?_
      show Go p e below _ (T41.setTop (mkF m 97 #[.val (.int p0), .val (.int p1), .val (.int val), .val (.int (1 : Int32)), .val (.ref r_36), .val (.int (val / (10 : Int32))), .val (.int (val % (10 : Int32))), .val (.int (1 : Int32)), .val (.int (2 : Int32))] [(.int (2 : Int32)), (.int (1 : Int32))]))
      refine Go.of (fun _ k => XS.icmpYes X41.here hx rfl (pc0 := 97) (pc' := 134) rfl (hb hby at_97) rfl (feq (by decide : ¬ ((1 : Int32) = (2 : Int32)))).2 (by decide) (by decide) k) ?_
      show Go p e below _ (T41.setTop (mkF m 134 #[.val (.int p0), .val (.int p1), .val (.int val), .val (.int (1 : Int32)), .val (.ref r_36), .val (.int (val / (10 : Int32))), .val (.int (val % (10 : Int32))), .val (.int (1 : Int32)), .val (.int (2 : Int32))] []))
      refine Go.of (fun _ k => XS.aload X41.here hx rfl (hb hby at_134) rfl rfl k) ?_
      show Go p e below _ (T41.setTop (mkF m 136 #[.val (.int p0), .val (.int p1), .val (.int val), .val (.int (1 : Int32)), .val (.ref r_36), .val (.int (val / (10 : Int32))), .val (.int (val % (10 : Int32))), .val (.int (1 : Int32)), .val (.int (2 : Int32))] [(.ref r_36)]))
      refine Go.of (fun _ k => XS.iconst X41.here hx rfl (hb hby at_136) k) ?_
      show Go p e below _ (T41.setTop (mkF m 137 #[.val (.int p0), .val (.int p1), .val (.int val), .val (.int (1 : Int32)), .val (.ref r_36), .val (.int (val / (10 : Int32))), .val (.int (val % (10 : Int32))), .val (.int (1 : Int32)), .val (.int (2 : Int32))] [(.int (0 : Int32)), (.ref r_36)]))
      have c44 : Sta Z T36.heap "jdk/internal/util/Preconditions" "SIOOBE_FORMATTER" "Ljava/util/function/BiFunction;" v_SIOOBE_FORMATTER := (own_Sta_keep S_SIOOBE_FORMATTER K36 own_p0)
      obtain ⟨cq43, kq43, q43a, q43b, q43c⟩ := isOf hZ36 q41_0 q36_2
      obtain ⟨_, _, ⟨T43, L43, k43, n43⟩, -, X43, ⟨Lc43, hQ43, l43, y43, z43⟩, st43⟩ := X41.virtualBack hx (y := (⟨"java/lang/String", "charAt", "(I)C"⟩ : MethodName)) (z := (⟨"java/lang/String", "charAt", "(I)C"⟩ : MethodName)) hown36 (mvT hZ36 (hw _ (List.mem_of_getElem? (i := 166) rfl))) (mvT hZ36 (hw _ (List.mem_of_getElem? (i := 167) rfl))) (notFace_of_selects (args := #[]) (mvT hZ36 (hw _ (List.mem_of_getElem? (i := 169) rfl)))) (mvT hZ36 (hw _ (List.mem_of_getElem? (i := 169) rfl))) (mvT hZ36 (hw _ (List.mem_of_getElem? (i := 168) rfl))) (by decide) (backOf (W := 0) (rm30_20 l Z a0 hw [] r_36 eo.toInt8.toInt32 (82 : Int32) w_COMPACT_STRINGS r1_36 rk2_36 v_SIOOBE_FORMATTER T36.heap n0 Z36 c42 hc8_3_7 q36_3 q36_2 q36_4 q36_6 c44 hr_v_SIOOBE_FORMATTER) hZ36 (hw _ (List.mem_of_getElem? (i := 170) rfl)) (hw _ (List.mem_of_getElem? (i := 38) rfl)) (by decide) (by decide)) q43a q43c (g := (mkF m 137 #[.val (.int p0), .val (.int p1), .val (.int val), .val (.int (1 : Int32)), .val (.ref r_36), .val (.int (val / (10 : Int32))), .val (.int (val % (10 : Int32))), .val (.int (1 : Int32)), .val (.int (2 : Int32))] [(.int (0 : Int32)), (.ref r_36)])) rfl (by rw [hml]; rfl) (Steps.refl _) (argsL := [(.int (0 : Int32))]) (rest := []) (lenOf pd_26 rfl) rfl (by show 2 * 0 + _ ≤ _; exact Nat.le_of_eq rfl) (hb hby at_137) (fun _ _ => ⟨rfl, q41_0, (by decide : 7 + 0 ≤ _), (by decide : 36 + 0 ≤ _)⟩)
      dsimp only [Pt.U, Pt.locs, Pt.cells, Pt.slots] at X43 l43 y43 z43 st43 hQ43
      subst l43 y43 z43
      obtain ⟨rfl, Nq43, q43_0⟩ := hQ43
      have N43 := Fr.app N41 Nq43
      refine Go.tr st43 ?_
      show Go p e below _ (T43.setTop (mkF m 140 #[.val (.int p0), .val (.int p1), .val (.int val), .val (.int (1 : Int32)), .val (.ref r_36), .val (.int (val / (10 : Int32))), .val (.int (val % (10 : Int32))), .val (.int (1 : Int32)), .val (.int (2 : Int32))] [(.int (nar .char (nar .char ((eo.toInt8.toInt32 &&& (255 : Int32)).toUInt32.toUInt16.toUInt32.toInt32))))]))
      refine Go.of (fun _ k => XS.bipush X43.here hx rfl (hb hby at_140) k) ?_
      show Go p e below _ (T43.setTop (mkF m 142 #[.val (.int p0), .val (.int p1), .val (.int val), .val (.int (1 : Int32)), .val (.ref r_36), .val (.int (val / (10 : Int32))), .val (.int (val % (10 : Int32))), .val (.int (1 : Int32)), .val (.int (2 : Int32))] [(.int (48 : Int32)), (.int (nar .char (nar .char ((eo.toInt8.toInt32 &&& (255 : Int32)).toUInt32.toUInt16.toUInt32.toInt32))))]))
      refine Go.of (fun _ k => XS.iload X43.here hx rfl (hb hby at_142) rfl  k) ?_
      show Go p e below _ (T43.setTop (mkF m 144 #[.val (.int p0), .val (.int p1), .val (.int val), .val (.int (1 : Int32)), .val (.ref r_36), .val (.int (val / (10 : Int32))), .val (.int (val % (10 : Int32))), .val (.int (1 : Int32)), .val (.int (2 : Int32))] [(.int (val % (10 : Int32))), (.int (48 : Int32)), (.int (nar .char (nar .char ((eo.toInt8.toInt32 &&& (255 : Int32)).toUInt32.toUInt16.toUInt32.toInt32))))]))
      refine Go.of (fun _ k => XS.iadd X43.here hx rfl (hb hby at_144) rfl k) ?_
      show Go p e below _ (T43.setTop (mkF m 145 #[.val (.int p0), .val (.int p1), .val (.int val), .val (.int (1 : Int32)), .val (.ref r_36), .val (.int (val / (10 : Int32))), .val (.int (val % (10 : Int32))), .val (.int (1 : Int32)), .val (.int (2 : Int32))] [(.int ((48 : Int32) + (val % (10 : Int32)))), (.int (nar .char (nar .char ((eo.toInt8.toInt32 &&& (255 : Int32)).toUInt32.toUInt16.toUInt32.toInt32))))]))
      refine Go.of (fun _ k => XS.i2c X43.here hx rfl (hb hby at_145) rfl k) ?_
      show Go p e below _ (T43.setTop (mkF m 146 #[.val (.int p0), .val (.int p1), .val (.int val), .val (.int (1 : Int32)), .val (.ref r_36), .val (.int (val / (10 : Int32))), .val (.int (val % (10 : Int32))), .val (.int (1 : Int32)), .val (.int (2 : Int32))] [(.int (((48 : Int32) + (val % (10 : Int32))).toUInt32.toUInt16.toUInt32.toInt32)), (.int (nar .char (nar .char ((eo.toInt8.toInt32 &&& (255 : Int32)).toUInt32.toUInt16.toUInt32.toInt32))))]))
      refine Go.of (fun _ k => XS.icmpYes X43.here hx rfl (pc0 := 146) (pc' := 151) rfl (hb hby at_146) rfl (teq ((own_v4 val eo et hR heo het hs35) : (nar .char (nar .char ((eo.toInt8.toInt32 &&& (255 : Int32)).toUInt32.toUInt16.toUInt32.toInt32))) = (((48 : Int32) + (val % (10 : Int32))).toUInt32.toUInt16.toUInt32.toInt32))).1 (by decide) (by decide) k) ?_
      show Go p e below _ (T43.setTop (mkF m 151 #[.val (.int p0), .val (.int p1), .val (.int val), .val (.int (1 : Int32)), .val (.ref r_36), .val (.int (val / (10 : Int32))), .val (.int (val % (10 : Int32))), .val (.int (1 : Int32)), .val (.int (2 : Int32))] []))
      refine Go.of (fun _ k => XS.iloadN X43.here hx rfl (hb hby at_151) rfl  k) ?_
      show Go p e below _ (T43.setTop (mkF m 152 #[.val (.int p0), .val (.int p1), .val (.int val), .val (.int (1 : Int32)), .val (.ref r_36), .val (.int (val / (10 : Int32))), .val (.int (val % (10 : Int32))), .val (.int (1 : Int32)), .val (.int (2 : Int32))] [(.int (1 : Int32))]))
      refine Go.of (fun _ k => XS.ifNo X43.here hx rfl (hb hby at_152) rfl ((if0 _ _).trans (feq (by decide : ¬ ((1 : Int32) = (0 : Int32)))).1) k) ?_
      show Go p e below _ (T43.setTop (mkF m 155 #[.val (.int p0), .val (.int p1), .val (.int val), .val (.int (1 : Int32)), .val (.ref r_36), .val (.int (val / (10 : Int32))), .val (.int (val % (10 : Int32))), .val (.int (1 : Int32)), .val (.int (2 : Int32))] []))
      refine Go.of (fun _ k => XS.aload X43.here hx rfl (hb hby at_155) rfl rfl k) ?_
      show Go p e below _ (T43.setTop (mkF m 157 #[.val (.int p0), .val (.int p1), .val (.int val), .val (.int (1 : Int32)), .val (.ref r_36), .val (.int (val / (10 : Int32))), .val (.int (val % (10 : Int32))), .val (.int (1 : Int32)), .val (.int (2 : Int32))] [(.ref r_36)]))
      refine Go.of (fun _ k => XS.iload X43.here hx rfl (hb hby at_157) rfl  k) ?_
      show Go p e below _ (T43.setTop (mkF m 159 #[.val (.int p0), .val (.int p1), .val (.int val), .val (.int (1 : Int32)), .val (.ref r_36), .val (.int (val / (10 : Int32))), .val (.int (val % (10 : Int32))), .val (.int (1 : Int32)), .val (.int (2 : Int32))] [(.int (1 : Int32)), (.ref r_36)]))
      obtain ⟨cq45, kq45, q45a, q45b, q45c⟩ := isOf hZ36 q43_0 q36_2
      obtain ⟨_, _, ⟨T45, L45, k45, n45⟩, -, X45, ⟨Lc45, hQ45, l45, y45, z45⟩, st45⟩ := X43.virtualBack hx (y := (⟨"java/lang/String", "charAt", "(I)C"⟩ : MethodName)) (z := (⟨"java/lang/String", "charAt", "(I)C"⟩ : MethodName)) hown36 (mvT hZ36 (hw _ (List.mem_of_getElem? (i := 166) rfl))) (mvT hZ36 (hw _ (List.mem_of_getElem? (i := 167) rfl))) (notFace_of_selects (args := #[]) (mvT hZ36 (hw _ (List.mem_of_getElem? (i := 169) rfl)))) (mvT hZ36 (hw _ (List.mem_of_getElem? (i := 169) rfl))) (mvT hZ36 (hw _ (List.mem_of_getElem? (i := 168) rfl))) (by decide) (backOf (W := 0) (rm30_21 l Z a0 hw [] r_36 eo.toInt8.toInt32 (82 : Int32) w_COMPACT_STRINGS r1_36 rk2_36 v_SIOOBE_FORMATTER T36.heap n0 Z36 c42 hc8_3_7 q36_3 q36_2 q36_4 q36_6 c44 hr_v_SIOOBE_FORMATTER) hZ36 (hw _ (List.mem_of_getElem? (i := 170) rfl)) (hw _ (List.mem_of_getElem? (i := 38) rfl)) (by decide) (by decide)) q45a q45c (g := (mkF m 159 #[.val (.int p0), .val (.int p1), .val (.int val), .val (.int (1 : Int32)), .val (.ref r_36), .val (.int (val / (10 : Int32))), .val (.int (val % (10 : Int32))), .val (.int (1 : Int32)), .val (.int (2 : Int32))] [(.int (1 : Int32)), (.ref r_36)])) rfl (by rw [hml]; rfl) (Steps.refl _) (argsL := [(.int (1 : Int32))]) (rest := []) (lenOf pd_26 rfl) rfl (by show 2 * 0 + _ ≤ _; exact Nat.le_of_eq rfl) (hb hby at_159) (fun _ _ => ⟨rfl, q43_0, (by decide : 7 + 0 ≤ _), (by decide : 36 + 0 ≤ _)⟩)
      dsimp only [Pt.U, Pt.locs, Pt.cells, Pt.slots] at X45 l45 y45 z45 st45 hQ45
      subst l45 y45 z45
      obtain ⟨rfl, Nq45, q45_0⟩ := hQ45
      have N45 := Fr.app N43 Nq45
      refine Go.tr st45 ?_
      show Go p e below _ (T45.setTop (mkF m 162 #[.val (.int p0), .val (.int p1), .val (.int val), .val (.int (1 : Int32)), .val (.ref r_36), .val (.int (val / (10 : Int32))), .val (.int (val % (10 : Int32))), .val (.int (1 : Int32)), .val (.int (2 : Int32))] [(.int (nar .char (nar .char (((82 : Int32) &&& (255 : Int32)).toUInt32.toUInt16.toUInt32.toInt32))))]))
      refine Go.of (fun _ k => XS.bipush X45.here hx rfl (hb hby at_162) k) ?_
      show Go p e below _ (T45.setTop (mkF m 164 #[.val (.int p0), .val (.int p1), .val (.int val), .val (.int (1 : Int32)), .val (.ref r_36), .val (.int (val / (10 : Int32))), .val (.int (val % (10 : Int32))), .val (.int (1 : Int32)), .val (.int (2 : Int32))] [(.int (82 : Int32)), (.int (nar .char (nar .char (((82 : Int32) &&& (255 : Int32)).toUInt32.toUInt16.toUInt32.toInt32))))]))
      refine Go.of (fun _ k => XS.icmpYes X45.here hx rfl (pc0 := 164) (pc' := 169) rfl (hb hby at_164) rfl (teq ((own_v11 val eo et hR heo het hs35) : (nar .char (nar .char (((82 : Int32) &&& (255 : Int32)).toUInt32.toUInt16.toUInt32.toInt32))) = (82 : Int32))).1 (by decide) (by decide) k) ?_
      show Go p e below _ (T45.setTop (mkF m 169 #[.val (.int p0), .val (.int p1), .val (.int val), .val (.int (1 : Int32)), .val (.ref r_36), .val (.int (val / (10 : Int32))), .val (.int (val % (10 : Int32))), .val (.int (1 : Int32)), .val (.int (2 : Int32))] []))
      refine Go.of (fun _ k => XS.iconst X45.here hx rfl (hb hby at_169) k) ?_
      show Go p e below _ (T45.setTop (mkF m 170 #[.val (.int p0), .val (.int p1), .val (.int val), .val (.int (1 : Int32)), .val (.ref r_36), .val (.int (val / (10 : Int32))), .val (.int (val % (10 : Int32))), .val (.int (1 : Int32)), .val (.int (2 : Int32))] [(.int (1 : Int32))]))
      obtain ⟨fs, hr, hrun, hended, hRW⟩ := X45.leaveW (s := s) hS36 (by rw [q45_0]; exact Nat.le_trans hk36 ((Keep.refl T36.heap [])).1) (v := some (.int (1 : Int32))) (fun h => by rw [Bd.returns] at h; cases h)
      refine Go.mk _ _ ?_ hrun hended ⟨_, _, rfl, ?_, ⟨hRW.1, hRW.2.1, hRW.2.2.1, hRW.2.2.2.mono (by decide) (by decide)⟩⟩
      · exact retN X45 hx (t := .boolean) Bd.returns (by simp) (hb hby at_170) hr
      · show Q0 Z val eo et p0 p1 w_COMPACT_STRINGS w_DigitOnes cl_w_DigitOnes v_SIOOBE_FORMATTER w_DigitTens cl_w_DigitTens h0 n0 _ T45.heap _
        rw [q45_0]
        exact ⟨rfl, N45⟩
    ·
      show Go p e below _ (T34.setTop (mkF m 31 #[.val (.int p0), .val (.int p1), .val (.int val), .val (.int (1 : Int32)), .unset, .unset, .unset, .unset, .unset] [(.ref ob31)]))
      have c48 : Sta Z T34.heap "java/lang/String" "COMPACT_STRINGS" "Z" (.int w_COMPACT_STRINGS) := (own_Sta_keep S_COMPACT_STRINGS K34 own_p0)
      have c49 : Sta Z T34.heap "java/lang/Integer" "DigitOnes" "[B" (.ref w_DigitOnes) := (own_Sta_keep S_DigitOnes K34 own_p0)
      have c50 : Arr Z h31 w_DigitOnes cl_w_DigitOnes .byte := (Arr.ext E31 Ar_w_DigitOnes)
      have c51 : Arr Z T34.heap w_DigitOnes cl_w_DigitOnes .byte := ⟨q34_0.2.1 _ _ c50.1 (ninS (Nat.ne_of_lt (Nat.lt_of_lt_of_le Ar_w_DigitOnes.lt (Nat.le_of_eq g31.symm))) nin0), c50.2⟩
      have c52 : Sta Z T34.heap "java/lang/Integer" "DigitTens" "[B" (.ref w_DigitTens) := (own_Sta_keep S_DigitTens K34 own_p0)
      have c53 : Arr Z h31 w_DigitTens cl_w_DigitTens .byte := (Arr.ext E31 Ar_w_DigitTens)
      have c54 : Arr Z T34.heap w_DigitTens cl_w_DigitTens .byte := ⟨q34_0.2.1 _ _ c53.1 (ninS (Nat.ne_of_lt (Nat.lt_of_lt_of_le Ar_w_DigitTens.lt (Nat.le_of_eq g31.symm))) nin0), c53.2⟩
      have CA47 : CHr Z own_EL s.vm h0 s.vm T34.heap := CHr.keep (K34) sf0 hCH
      obtain ⟨cq47, kq47, q47a, q47b, q47c⟩ := isOf hZ rfl q34_1
      obtain ⟨_, _, ⟨T47, L47, k47, n47⟩, -, X47, hS47, gr47, ⟨Lc47, hQ47, l47, y47, z47, CB47⟩, st47⟩ := X34.virtualBackS hx (y := (⟨"org/hourbook/calendar/HourEnding", "label", "()Ljava/lang/String;"⟩ : MethodName)) (z := (⟨"org/hourbook/calendar/HourEnding", "label", "()Ljava/lang/String;"⟩ : MethodName)) hown (mvT hZ (hw _ (List.mem_of_getElem? (i := 19) rfl))) (mvT hZ (hw _ (List.mem_of_getElem? (i := 20) rfl))) (notFace_of_selects (args := #[]) (mvT hZ (hw _ (List.mem_of_getElem? (i := 22) rfl)))) (mvT hZ (hw _ (List.mem_of_getElem? (i := 22) rfl))) (mvT hZ (hw _ (List.mem_of_getElem? (i := 21) rfl))) (by decide) (backOfSH (s := s) (vm0 := s.vm) (W := 0) (rm4_12 l Z a0 hw [] ob31 w_COMPACT_STRINGS val eo et w_DigitOnes cl_w_DigitOnes w_DigitTens cl_w_DigitTens T34.heap n0 Z34 q34_2 c48 hc8_3_7 q34_3 (own_v5 val eo et hR heo het hs35) (own_v6 val eo et hR heo het hs35) (own_v7 val eo et hR heo het hs35) c49 c51 hin83_4_3_7 hat83_4_3_7 (own_v8 val eo et hR heo het hs35) c52 c54 hin102_4_3_17 hat102_4_3_17) hZ (hw _ (List.mem_of_getElem? (i := 23) rfl)) (hw _ (List.mem_of_getElem? (i := 3) rfl)) (by decide) (by decide) (own_ew hw) CA47.1) q47a q47c (g := (mkF m 31 #[.val (.int p0), .val (.int p1), .val (.int val), .val (.int (1 : Int32)), .unset, .unset, .unset, .unset, .unset] [(.ref ob31)])) rfl (by rw [hml]; rfl) (Steps.refl _) (argsL := []) (rest := []) (lenOf pd_24 rfl) rfl (by show 2 * 0 + _ ≤ _; exact Nat.le_of_eq rfl) (hb hby at_31) (fun _ _ => ⟨rfl, rfl, (by decide : 1 + 6 ≤ _), (by decide : 2 + 35 ≤ _)⟩)
      dsimp only [Pt.U, Pt.locs, Pt.cells, Pt.slots] at X47 l47 y47 z47 st47 hQ47
      subst l47 y47 z47
      obtain ⟨r_47, r1_47, rk2_47, rfl, Nq47, q47_0, q47_1, q47_2, q47_3, q47_4, q47_5, q47_6⟩ := hQ47
      have N47 := Fr.app N34 Nq47
      refine Go.tr st47 ?_
      have K47 : Keep h0 T47.heap [] := (K34).trans q47_0 all0
      have Z47 : n0 ≤ T47.heap.size := Nat.le_trans Z34 q47_0.1
      have g_r_47 : n0 ≤ r_47 := q47_1.2
      have sz_r_47 : h0.size ≤ r_47 := Nat.le_trans (K34).1 q47_1.1
      have g_r1_47 : n0 ≤ r1_47 := q47_5.2
      have sz_r1_47 : h0.size ≤ r1_47 := Nat.le_trans (K34).1 q47_5.1
      have hZ47 : Z.Warmed39 (s.setVm T47.vm).vm := State.Warmed39.trans hZ hS47.1
      have hown47 : (s.setVm T47.vm).vm.findClass "org/hourbook/calendar/HourEndingLabelPinLaw" = some m.cls := (hS47.1.alike.findClass _ _).trans hown
      have hk47 : T47.heap.size ≤ T47.heap.size := Nat.le_refl _
      show Go p e below _ (T47.setTop (mkF m 34 #[.val (.int p0), .val (.int p1), .val (.int val), .val (.int (1 : Int32)), .unset, .unset, .unset, .unset, .unset] [(.ref r_47)]))
      refine Go.of (fun _ k => XS.astore X47.here hx rfl (hb hby at_34) rfl rfl (l' := #[.val (.int p0), .val (.int p1), .val (.int val), .val (.int (1 : Int32)), .val (.ref r_47), .unset, .unset, .unset, .unset]) rfl k) ?_
      show Go p e below _ (T47.setTop (mkF m 36 #[.val (.int p0), .val (.int p1), .val (.int val), .val (.int (1 : Int32)), .val (.ref r_47), .unset, .unset, .unset, .unset] []))
      refine Go.of (fun _ k => XS.aload X47.here hx rfl (hb hby at_36) rfl rfl k) ?_
      show Go p e below _ (T47.setTop (mkF m 38 #[.val (.int p0), .val (.int p1), .val (.int val), .val (.int (1 : Int32)), .val (.ref r_47), .unset, .unset, .unset, .unset] [(.ref r_47)]))
      refine Go.of (fun _ k => XS.ifnonnullYes X47.here hx rfl (pc0 := 38) (pc' := 43) rfl (hb hby at_38) rfl (by decide) (by decide) k) ?_
      show Go p e below _ (T47.setTop (mkF m 43 #[.val (.int p0), .val (.int p1), .val (.int val), .val (.int (1 : Int32)), .val (.ref r_47), .unset, .unset, .unset, .unset] []))
      refine Go.of (fun _ k => XS.iloadN X47.here hx rfl (hb hby at_43) rfl  k) ?_
      show Go p e below _ (T47.setTop (mkF m 44 #[.val (.int p0), .val (.int p1), .val (.int val), .val (.int (1 : Int32)), .val (.ref r_47), .unset, .unset, .unset, .unset] [(.int val)]))
      refine Go.of (fun _ k => XS.bipush X47.here hx rfl (hb hby at_44) k) ?_
      show Go p e below _ (T47.setTop (mkF m 46 #[.val (.int p0), .val (.int p1), .val (.int val), .val (.int (1 : Int32)), .val (.ref r_47), .unset, .unset, .unset, .unset] [(.int (10 : Int32)), (.int val)]))
      refine Go.of (fun _ k => XS.idiv X47.here hx rfl (hb hby at_46) rfl (by decide) k) ?_
      show Go p e below _ (T47.setTop (mkF m 47 #[.val (.int p0), .val (.int p1), .val (.int val), .val (.int (1 : Int32)), .val (.ref r_47), .unset, .unset, .unset, .unset] [(.int (val / (10 : Int32)))]))
      refine Go.of (fun _ k => XS.istore X47.here hx rfl (hb hby at_47) rfl (l' := #[.val (.int p0), .val (.int p1), .val (.int val), .val (.int (1 : Int32)), .val (.ref r_47), .val (.int (val / (10 : Int32))), .unset, .unset, .unset]) rfl k) ?_
      show Go p e below _ (T47.setTop (mkF m 49 #[.val (.int p0), .val (.int p1), .val (.int val), .val (.int (1 : Int32)), .val (.ref r_47), .val (.int (val / (10 : Int32))), .unset, .unset, .unset] []))
      refine Go.of (fun _ k => XS.iloadN X47.here hx rfl (hb hby at_49) rfl  k) ?_
      show Go p e below _ (T47.setTop (mkF m 50 #[.val (.int p0), .val (.int p1), .val (.int val), .val (.int (1 : Int32)), .val (.ref r_47), .val (.int (val / (10 : Int32))), .unset, .unset, .unset] [(.int val)]))
      refine Go.of (fun _ k => XS.bipush X47.here hx rfl (hb hby at_50) k) ?_
      show Go p e below _ (T47.setTop (mkF m 52 #[.val (.int p0), .val (.int p1), .val (.int val), .val (.int (1 : Int32)), .val (.ref r_47), .val (.int (val / (10 : Int32))), .unset, .unset, .unset] [(.int (10 : Int32)), (.int val)]))
      refine Go.of (fun _ k => iremM X47 hx rfl (hb hby at_52) rfl (by decide) k) ?_
      show Go p e below _ (T47.setTop (mkF m 53 #[.val (.int p0), .val (.int p1), .val (.int val), .val (.int (1 : Int32)), .val (.ref r_47), .val (.int (val / (10 : Int32))), .unset, .unset, .unset] [(.int (val % (10 : Int32)))]))
      refine Go.of (fun _ k => XS.istore X47.here hx rfl (hb hby at_53) rfl (l' := #[.val (.int p0), .val (.int p1), .val (.int val), .val (.int (1 : Int32)), .val (.ref r_47), .val (.int (val / (10 : Int32))), .val (.int (val % (10 : Int32))), .unset, .unset]) rfl k) ?_
      show Go p e below _ (T47.setTop (mkF m 55 #[.val (.int p0), .val (.int p1), .val (.int val), .val (.int (1 : Int32)), .val (.ref r_47), .val (.int (val / (10 : Int32))), .val (.int (val % (10 : Int32))), .unset, .unset] []))
      refine Go.of (fun _ k => XS.iloadN X47.here hx rfl (hb hby at_55) rfl  k) ?_
      show Go p e below _ (T47.setTop (mkF m 56 #[.val (.int p0), .val (.int p1), .val (.int val), .val (.int (1 : Int32)), .val (.ref r_47), .val (.int (val / (10 : Int32))), .val (.int (val % (10 : Int32))), .unset, .unset] [(.int val)]))
      refine Go.of (fun _ k => XS.bipush X47.here hx rfl (hb hby at_56) k) ?_
      show Go p e below _ (T47.setTop (mkF m 58 #[.val (.int p0), .val (.int p1), .val (.int val), .val (.int (1 : Int32)), .val (.ref r_47), .val (.int (val / (10 : Int32))), .val (.int (val % (10 : Int32))), .unset, .unset] [(.int (10 : Int32)), (.int val)]))
      refine Go.of (fun _ k => XS.icmpYes X47.here hx rfl (pc0 := 58) (pc' := 65) rfl (hb hby at_58) rfl (flt hs35).2.1 (by decide) (by decide) k) ?_
      show Go p e below _ (T47.setTop (mkF m 65 #[.val (.int p0), .val (.int p1), .val (.int val), .val (.int (1 : Int32)), .val (.ref r_47), .val (.int (val / (10 : Int32))), .val (.int (val % (10 : Int32))), .unset, .unset] []))
      refine Go.of (fun _ k => XS.iconst X47.here hx rfl (hb hby at_65) k) ?_
      show Go p e below _ (T47.setTop (mkF m 66 #[.val (.int p0), .val (.int p1), .val (.int val), .val (.int (1 : Int32)), .val (.ref r_47), .val (.int (val / (10 : Int32))), .val (.int (val % (10 : Int32))), .unset, .unset] [(.int (2 : Int32))]))
      refine Go.of (fun _ k => XS.istore X47.here hx rfl (hb hby at_66) rfl (l' := #[.val (.int p0), .val (.int p1), .val (.int val), .val (.int (1 : Int32)), .val (.ref r_47), .val (.int (val / (10 : Int32))), .val (.int (val % (10 : Int32))), .val (.int (2 : Int32)), .unset]) rfl k) ?_
      show Go p e below _ (T47.setTop (mkF m 68 #[.val (.int p0), .val (.int p1), .val (.int val), .val (.int (1 : Int32)), .val (.ref r_47), .val (.int (val / (10 : Int32))), .val (.int (val % (10 : Int32))), .val (.int (2 : Int32)), .unset] []))
      refine Go.of (fun _ k => XS.iload X47.here hx rfl (hb hby at_68) rfl  k) ?_
      show Go p e below _ (T47.setTop (mkF m 70 #[.val (.int p0), .val (.int p1), .val (.int val), .val (.int (1 : Int32)), .val (.ref r_47), .val (.int (val / (10 : Int32))), .val (.int (val % (10 : Int32))), .val (.int (2 : Int32)), .unset] [(.int (2 : Int32))]))
      refine Go.of (fun _ k => XS.iloadN X47.here hx rfl (hb hby at_70) rfl  k) ?_
      show Go p e below _ (T47.setTop (mkF m 71 #[.val (.int p0), .val (.int p1), .val (.int val), .val (.int (1 : Int32)), .val (.ref r_47), .val (.int (val / (10 : Int32))), .val (.int (val % (10 : Int32))), .val (.int (2 : Int32)), .unset] [(.int (1 : Int32)), (.int (2 : Int32))]))
      refine Go.of (fun _ k => XS.ifNo X47.here hx rfl (hb hby at_71) rfl ((if0 _ _).trans (feq (by decide : ¬ ((1 : Int32) = (0 : Int32)))).1) k) ?_
      show Go p e below _ (T47.setTop (mkF m 74 #[.val (.int p0), .val (.int p1), .val (.int val), .val (.int (1 : Int32)), .val (.ref r_47), .val (.int (val / (10 : Int32))), .val (.int (val % (10 : Int32))), .val (.int (2 : Int32)), .unset] [(.int (2 : Int32))]))
      refine Go.of (fun _ k => XS.iconst X47.here hx rfl (hb hby at_74) k) ?_
      show Go p e below _ (T47.setTop (mkF m 75 #[.val (.int p0), .val (.int p1), .val (.int val), .val (.int (1 : Int32)), .val (.ref r_47), .val (.int (val / (10 : Int32))), .val (.int (val % (10 : Int32))), .val (.int (2 : Int32)), .unset] [(.int (1 : Int32)), (.int (2 : Int32))]))
      refine Go.of (fun _ k => XS.goto X47.here hx rfl (pc0 := 75) (pc' := 79) rfl (hb hby at_75) (by decide) (by decide) k) ?_
      show Go p e below _ (T47.setTop (mkF m 79 #[.val (.int p0), .val (.int p1), .val (.int val), .val (.int (1 : Int32)), .val (.ref r_47), .val (.int (val / (10 : Int32))), .val (.int (val % (10 : Int32))), .val (.int (2 : Int32)), .unset] [(.int (1 : Int32)), (.int (2 : Int32))]))
      refine Go.of (fun _ k => XS.iadd X47.here hx rfl (hb hby at_79) rfl k) ?_
      show Go p e below _ (T47.setTop (mkF m 80 #[.val (.int p0), .val (.int p1), .val (.int val), .val (.int (1 : Int32)), .val (.ref r_47), .val (.int (val / (10 : Int32))), .val (.int (val % (10 : Int32))), .val (.int (2 : Int32)), .unset] [(.int (3 : Int32))]))
      refine Go.of (fun _ k => XS.istore X47.here hx rfl (hb hby at_80) rfl (l' := #[.val (.int p0), .val (.int p1), .val (.int val), .val (.int (1 : Int32)), .val (.ref r_47), .val (.int (val / (10 : Int32))), .val (.int (val % (10 : Int32))), .val (.int (2 : Int32)), .val (.int (3 : Int32))]) rfl k) ?_
      show Go p e below _ (T47.setTop (mkF m 82 #[.val (.int p0), .val (.int p1), .val (.int val), .val (.int (1 : Int32)), .val (.ref r_47), .val (.int (val / (10 : Int32))), .val (.int (val % (10 : Int32))), .val (.int (2 : Int32)), .val (.int (3 : Int32))] []))
      refine Go.of (fun _ k => XS.aload X47.here hx rfl (hb hby at_82) rfl rfl k) ?_
      show Go p e below _ (T47.setTop (mkF m 84 #[.val (.int p0), .val (.int p1), .val (.int val), .val (.int (1 : Int32)), .val (.ref r_47), .val (.int (val / (10 : Int32))), .val (.int (val % (10 : Int32))), .val (.int (2 : Int32)), .val (.int (3 : Int32))] [(.ref r_47)]))
      have c56 : Sta Z T47.heap "java/lang/String" "COMPACT_STRINGS" "Z" (.int w_COMPACT_STRINGS) := (own_Sta_keep S_COMPACT_STRINGS K47 own_p0)
      obtain ⟨cq55, kq55, q55a, q55b, q55c⟩ := isOf hZ47 rfl q47_2
      obtain ⟨_, _, ⟨T55, L55, k55, n55⟩, -, X55, ⟨Lc55, hQ55, l55, y55, z55⟩, st55⟩ := X47.virtualBack hx (y := (⟨"java/lang/String", "length", "()I"⟩ : MethodName)) (z := (⟨"java/lang/String", "length", "()I"⟩ : MethodName)) hown47 (mvT hZ47 (hw _ (List.mem_of_getElem? (i := 165) rfl))) (mvT hZ47 (hw _ (List.mem_of_getElem? (i := 90) rfl))) (notFace_of_selects (args := #[]) (mvT hZ47 (hw _ (List.mem_of_getElem? (i := 92) rfl)))) (mvT hZ47 (hw _ (List.mem_of_getElem? (i := 92) rfl))) (mvT hZ47 (hw _ (List.mem_of_getElem? (i := 91) rfl))) (by decide) (backOf (W := 0) (rm15_3 l Z a0 hw [] r_47 et.toInt8.toInt32 eo.toInt8.toInt32 (82 : Int32) r1_47 rk2_47 w_COMPACT_STRINGS T47.heap n0 Z47 q47_4 q47_6 c56 hc8_3_7 q47_3 q47_2) hZ47 (hw _ (List.mem_of_getElem? (i := 93) rfl)) (hw _ (List.mem_of_getElem? (i := 38) rfl)) (by decide) (by decide)) q55a q55c (g := (mkF m 84 #[.val (.int p0), .val (.int p1), .val (.int val), .val (.int (1 : Int32)), .val (.ref r_47), .val (.int (val / (10 : Int32))), .val (.int (val % (10 : Int32))), .val (.int (2 : Int32)), .val (.int (3 : Int32))] [(.ref r_47)])) rfl (by rw [hml]; rfl) (Steps.refl _) (argsL := []) (rest := []) (lenOf pd_8 rfl) rfl (by show 2 * 0 + _ ≤ _; exact Nat.le_of_eq rfl) (hb hby at_84) (fun _ _ => ⟨rfl, rfl, (by decide : 7 + 0 ≤ _), (by decide : 37 + 0 ≤ _)⟩)
      dsimp only [Pt.U, Pt.locs, Pt.cells, Pt.slots] at X55 l55 y55 z55 st55 hQ55
      subst l55 y55 z55
      obtain ⟨rfl, Nq55, q55_0⟩ := hQ55
      have N55 := Fr.app N47 Nq55
      refine Go.tr st55 ?_
      show Go p e below _ (T55.setTop (mkF m 87 #[.val (.int p0), .val (.int p1), .val (.int val), .val (.int (1 : Int32)), .val (.ref r_47), .val (.int (val / (10 : Int32))), .val (.int (val % (10 : Int32))), .val (.int (2 : Int32)), .val (.int (3 : Int32))] [(.int (3 : Int32))]))
      refine Go.of (fun _ k => XS.iload X55.here hx rfl (hb hby at_87) rfl  k) ?_
      show Go p e below _ (T55.setTop (mkF m 89 #[.val (.int p0), .val (.int p1), .val (.int val), .val (.int (1 : Int32)), .val (.ref r_47), .val (.int (val / (10 : Int32))), .val (.int (val % (10 : Int32))), .val (.int (2 : Int32)), .val (.int (3 : Int32))] [(.int (3 : Int32)), (.int (3 : Int32))]))
      refine Go.of (fun _ k => XS.icmpYes X55.here hx rfl (pc0 := 89) (pc' := 94) rfl (hb hby at_89) rfl (teq (by decide : (3 : Int32) = (3 : Int32))).1 (by decide) (by decide) k) ?_
      show Go p e below _ (T55.setTop (mkF m 94 #[.val (.int p0), .val (.int p1), .val (.int val), .val (.int (1 : Int32)), .val (.ref r_47), .val (.int (val / (10 : Int32))), .val (.int (val % (10 : Int32))), .val (.int (2 : Int32)), .val (.int (3 : Int32))] []))
      refine Go.of (fun _ k => XS.iload X55.here hx rfl (hb hby at_94) rfl  k) ?_
      show Go p e below _ (T55.setTop (mkF m 96 #[.val (.int p0), .val (.int p1), .val (.int val), .val (.int (1 : Int32)), .val (.ref r_47), .val (.int (val / (10 : Int32))), .val (.int (val % (10 : Int32))), .val (.int (2 : Int32)), .val (.int (3 : Int32))] [(.int (2 : Int32))]))
      refine Go.of (fun _ k => XS.iconst X55.here hx rfl (hb hby at_96) k) ?_
      show Go p e below _ (T55.setTop (mkF m 97 #[.val (.int p0), .val (.int p1), .val (.int val), .val (.int (1 : Int32)), .val (.ref r_47), .val (.int (val / (10 : Int32))), .val (.int (val % (10 : Int32))), .val (.int (2 : Int32)), .val (.int (3 : Int32))] [(.int (2 : Int32)), (.int (2 : Int32))]))
      refine Go.of (fun _ k => XS.icmpNo X55.here hx rfl (hb hby at_97) rfl (teq (by decide : (2 : Int32) = (2 : Int32))).2 k) ?_
      show Go p e below _ (T55.setTop (mkF m 100 #[.val (.int p0), .val (.int p1), .val (.int val), .val (.int (1 : Int32)), .val (.ref r_47), .val (.int (val / (10 : Int32))), .val (.int (val % (10 : Int32))), .val (.int (2 : Int32)), .val (.int (3 : Int32))] []))
      refine Go.of (fun _ k => XS.aload X55.here hx rfl (hb hby at_100) rfl rfl k) ?_
      show Go p e below _ (T55.setTop (mkF m 102 #[.val (.int p0), .val (.int p1), .val (.int val), .val (.int (1 : Int32)), .val (.ref r_47), .val (.int (val / (10 : Int32))), .val (.int (val % (10 : Int32))), .val (.int (2 : Int32)), .val (.int (3 : Int32))] [(.ref r_47)]))
      refine Go.of (fun _ k => XS.iconst X55.here hx rfl (hb hby at_102) k) ?_
      show Go p e below _ (T55.setTop (mkF m 103 #[.val (.int p0), .val (.int p1), .val (.int val), .val (.int (1 : Int32)), .val (.ref r_47), .val (.int (val / (10 : Int32))), .val (.int (val % (10 : Int32))), .val (.int (2 : Int32)), .val (.int (3 : Int32))] [(.int (0 : Int32)), (.ref r_47)]))
      have c58 : Sta Z T47.heap "jdk/internal/util/Preconditions" "SIOOBE_FORMATTER" "Ljava/util/function/BiFunction;" v_SIOOBE_FORMATTER := (own_Sta_keep S_SIOOBE_FORMATTER K47 own_p0)
      obtain ⟨cq57, kq57, q57a, q57b, q57c⟩ := isOf hZ47 q55_0 q47_2
      obtain ⟨_, _, ⟨T57, L57, k57, n57⟩, -, X57, ⟨Lc57, hQ57, l57, y57, z57⟩, st57⟩ := X55.virtualBack hx (y := (⟨"java/lang/String", "charAt", "(I)C"⟩ : MethodName)) (z := (⟨"java/lang/String", "charAt", "(I)C"⟩ : MethodName)) hown47 (mvT hZ47 (hw _ (List.mem_of_getElem? (i := 166) rfl))) (mvT hZ47 (hw _ (List.mem_of_getElem? (i := 167) rfl))) (notFace_of_selects (args := #[]) (mvT hZ47 (hw _ (List.mem_of_getElem? (i := 169) rfl)))) (mvT hZ47 (hw _ (List.mem_of_getElem? (i := 169) rfl))) (mvT hZ47 (hw _ (List.mem_of_getElem? (i := 168) rfl))) (by decide) (backOf (W := 0) (rm30_30 l Z a0 hw [] r_47 et.toInt8.toInt32 eo.toInt8.toInt32 (82 : Int32) w_COMPACT_STRINGS r1_47 rk2_47 v_SIOOBE_FORMATTER T47.heap n0 Z47 c56 hc8_3_7 q47_3 q47_2 q47_4 q47_6 c58 hr_v_SIOOBE_FORMATTER) hZ47 (hw _ (List.mem_of_getElem? (i := 170) rfl)) (hw _ (List.mem_of_getElem? (i := 38) rfl)) (by decide) (by decide)) q57a q57c (g := (mkF m 103 #[.val (.int p0), .val (.int p1), .val (.int val), .val (.int (1 : Int32)), .val (.ref r_47), .val (.int (val / (10 : Int32))), .val (.int (val % (10 : Int32))), .val (.int (2 : Int32)), .val (.int (3 : Int32))] [(.int (0 : Int32)), (.ref r_47)])) rfl (by rw [hml]; rfl) (Steps.refl _) (argsL := [(.int (0 : Int32))]) (rest := []) (lenOf pd_26 rfl) rfl (by show 2 * 0 + _ ≤ _; exact Nat.le_of_eq rfl) (hb hby at_103) (fun _ _ => ⟨rfl, q55_0, (by decide : 7 + 0 ≤ _), (by decide : 37 + 0 ≤ _)⟩)
      dsimp only [Pt.U, Pt.locs, Pt.cells, Pt.slots] at X57 l57 y57 z57 st57 hQ57
      subst l57 y57 z57
      obtain ⟨rfl, Nq57, q57_0⟩ := hQ57
      have N57 := Fr.app N55 Nq57
      refine Go.tr st57 ?_
      show Go p e below _ (T57.setTop (mkF m 106 #[.val (.int p0), .val (.int p1), .val (.int val), .val (.int (1 : Int32)), .val (.ref r_47), .val (.int (val / (10 : Int32))), .val (.int (val % (10 : Int32))), .val (.int (2 : Int32)), .val (.int (3 : Int32))] [(.int (nar .char (nar .char ((et.toInt8.toInt32 &&& (255 : Int32)).toUInt32.toUInt16.toUInt32.toInt32))))]))
      refine Go.of (fun _ k => XS.bipush X57.here hx rfl (hb hby at_106) k) ?_
      show Go p e below _ (T57.setTop (mkF m 108 #[.val (.int p0), .val (.int p1), .val (.int val), .val (.int (1 : Int32)), .val (.ref r_47), .val (.int (val / (10 : Int32))), .val (.int (val % (10 : Int32))), .val (.int (2 : Int32)), .val (.int (3 : Int32))] [(.int (48 : Int32)), (.int (nar .char (nar .char ((et.toInt8.toInt32 &&& (255 : Int32)).toUInt32.toUInt16.toUInt32.toInt32))))]))
      refine Go.of (fun _ k => XS.iload X57.here hx rfl (hb hby at_108) rfl  k) ?_
      show Go p e below _ (T57.setTop (mkF m 110 #[.val (.int p0), .val (.int p1), .val (.int val), .val (.int (1 : Int32)), .val (.ref r_47), .val (.int (val / (10 : Int32))), .val (.int (val % (10 : Int32))), .val (.int (2 : Int32)), .val (.int (3 : Int32))] [(.int (val / (10 : Int32))), (.int (48 : Int32)), (.int (nar .char (nar .char ((et.toInt8.toInt32 &&& (255 : Int32)).toUInt32.toUInt16.toUInt32.toInt32))))]))
      refine Go.of (fun _ k => XS.iadd X57.here hx rfl (hb hby at_110) rfl k) ?_
      show Go p e below _ (T57.setTop (mkF m 111 #[.val (.int p0), .val (.int p1), .val (.int val), .val (.int (1 : Int32)), .val (.ref r_47), .val (.int (val / (10 : Int32))), .val (.int (val % (10 : Int32))), .val (.int (2 : Int32)), .val (.int (3 : Int32))] [(.int ((48 : Int32) + (val / (10 : Int32)))), (.int (nar .char (nar .char ((et.toInt8.toInt32 &&& (255 : Int32)).toUInt32.toUInt16.toUInt32.toInt32))))]))
      refine Go.of (fun _ k => XS.i2c X57.here hx rfl (hb hby at_111) rfl k) ?_
      show Go p e below _ (T57.setTop (mkF m 112 #[.val (.int p0), .val (.int p1), .val (.int val), .val (.int (1 : Int32)), .val (.ref r_47), .val (.int (val / (10 : Int32))), .val (.int (val % (10 : Int32))), .val (.int (2 : Int32)), .val (.int (3 : Int32))] [(.int (((48 : Int32) + (val / (10 : Int32))).toUInt32.toUInt16.toUInt32.toInt32)), (.int (nar .char (nar .char ((et.toInt8.toInt32 &&& (255 : Int32)).toUInt32.toUInt16.toUInt32.toInt32))))]))
      refine Go.of (fun _ k => XS.icmpYes X57.here hx rfl (pc0 := 112) (pc' := 117) rfl (hb hby at_112) rfl (teq ((own_v9 val eo et hR heo het hs35) : (nar .char (nar .char ((et.toInt8.toInt32 &&& (255 : Int32)).toUInt32.toUInt16.toUInt32.toInt32))) = (((48 : Int32) + (val / (10 : Int32))).toUInt32.toUInt16.toUInt32.toInt32))).1 (by decide) (by decide) k) ?_
      show Go p e below _ (T57.setTop (mkF m 117 #[.val (.int p0), .val (.int p1), .val (.int val), .val (.int (1 : Int32)), .val (.ref r_47), .val (.int (val / (10 : Int32))), .val (.int (val % (10 : Int32))), .val (.int (2 : Int32)), .val (.int (3 : Int32))] []))
      refine Go.of (fun _ k => XS.aload X57.here hx rfl (hb hby at_117) rfl rfl k) ?_
      show Go p e below _ (T57.setTop (mkF m 119 #[.val (.int p0), .val (.int p1), .val (.int val), .val (.int (1 : Int32)), .val (.ref r_47), .val (.int (val / (10 : Int32))), .val (.int (val % (10 : Int32))), .val (.int (2 : Int32)), .val (.int (3 : Int32))] [(.ref r_47)]))
      refine Go.of (fun _ k => XS.iconst X57.here hx rfl (hb hby at_119) k) ?_
      show Go p e below _ (T57.setTop (mkF m 120 #[.val (.int p0), .val (.int p1), .val (.int val), .val (.int (1 : Int32)), .val (.ref r_47), .val (.int (val / (10 : Int32))), .val (.int (val % (10 : Int32))), .val (.int (2 : Int32)), .val (.int (3 : Int32))] [(.int (1 : Int32)), (.ref r_47)]))
      obtain ⟨cq59, kq59, q59a, q59b, q59c⟩ := isOf hZ47 q57_0 q47_2
      obtain ⟨_, _, ⟨T59, L59, k59, n59⟩, -, X59, ⟨Lc59, hQ59, l59, y59, z59⟩, st59⟩ := X57.virtualBack hx (y := (⟨"java/lang/String", "charAt", "(I)C"⟩ : MethodName)) (z := (⟨"java/lang/String", "charAt", "(I)C"⟩ : MethodName)) hown47 (mvT hZ47 (hw _ (List.mem_of_getElem? (i := 166) rfl))) (mvT hZ47 (hw _ (List.mem_of_getElem? (i := 167) rfl))) (notFace_of_selects (args := #[]) (mvT hZ47 (hw _ (List.mem_of_getElem? (i := 169) rfl)))) (mvT hZ47 (hw _ (List.mem_of_getElem? (i := 169) rfl))) (mvT hZ47 (hw _ (List.mem_of_getElem? (i := 168) rfl))) (by decide) (backOf (W := 0) (rm30_31 l Z a0 hw [] r_47 et.toInt8.toInt32 eo.toInt8.toInt32 (82 : Int32) w_COMPACT_STRINGS r1_47 rk2_47 v_SIOOBE_FORMATTER T47.heap n0 Z47 c56 hc8_3_7 q47_3 q47_2 q47_4 q47_6 c58 hr_v_SIOOBE_FORMATTER) hZ47 (hw _ (List.mem_of_getElem? (i := 170) rfl)) (hw _ (List.mem_of_getElem? (i := 38) rfl)) (by decide) (by decide)) q59a q59c (g := (mkF m 120 #[.val (.int p0), .val (.int p1), .val (.int val), .val (.int (1 : Int32)), .val (.ref r_47), .val (.int (val / (10 : Int32))), .val (.int (val % (10 : Int32))), .val (.int (2 : Int32)), .val (.int (3 : Int32))] [(.int (1 : Int32)), (.ref r_47)])) rfl (by rw [hml]; rfl) (Steps.refl _) (argsL := [(.int (1 : Int32))]) (rest := []) (lenOf pd_26 rfl) rfl (by show 2 * 0 + _ ≤ _; exact Nat.le_of_eq rfl) (hb hby at_120) (fun _ _ => ⟨rfl, q57_0, (by decide : 7 + 0 ≤ _), (by decide : 37 + 0 ≤ _)⟩)
      dsimp only [Pt.U, Pt.locs, Pt.cells, Pt.slots] at X59 l59 y59 z59 st59 hQ59
      subst l59 y59 z59
      obtain ⟨rfl, Nq59, q59_0⟩ := hQ59
      have N59 := Fr.app N57 Nq59
      refine Go.tr st59 ?_
      show Go p e below _ (T59.setTop (mkF m 123 #[.val (.int p0), .val (.int p1), .val (.int val), .val (.int (1 : Int32)), .val (.ref r_47), .val (.int (val / (10 : Int32))), .val (.int (val % (10 : Int32))), .val (.int (2 : Int32)), .val (.int (3 : Int32))] [(.int (nar .char (nar .char ((eo.toInt8.toInt32 &&& (255 : Int32)).toUInt32.toUInt16.toUInt32.toInt32))))]))
      refine Go.of (fun _ k => XS.bipush X59.here hx rfl (hb hby at_123) k) ?_
      show Go p e below _ (T59.setTop (mkF m 125 #[.val (.int p0), .val (.int p1), .val (.int val), .val (.int (1 : Int32)), .val (.ref r_47), .val (.int (val / (10 : Int32))), .val (.int (val % (10 : Int32))), .val (.int (2 : Int32)), .val (.int (3 : Int32))] [(.int (48 : Int32)), (.int (nar .char (nar .char ((eo.toInt8.toInt32 &&& (255 : Int32)).toUInt32.toUInt16.toUInt32.toInt32))))]))
      refine Go.of (fun _ k => XS.iload X59.here hx rfl (hb hby at_125) rfl  k) ?_
      show Go p e below _ (T59.setTop (mkF m 127 #[.val (.int p0), .val (.int p1), .val (.int val), .val (.int (1 : Int32)), .val (.ref r_47), .val (.int (val / (10 : Int32))), .val (.int (val % (10 : Int32))), .val (.int (2 : Int32)), .val (.int (3 : Int32))] [(.int (val % (10 : Int32))), (.int (48 : Int32)), (.int (nar .char (nar .char ((eo.toInt8.toInt32 &&& (255 : Int32)).toUInt32.toUInt16.toUInt32.toInt32))))]))
      refine Go.of (fun _ k => XS.iadd X59.here hx rfl (hb hby at_127) rfl k) ?_
      show Go p e below _ (T59.setTop (mkF m 128 #[.val (.int p0), .val (.int p1), .val (.int val), .val (.int (1 : Int32)), .val (.ref r_47), .val (.int (val / (10 : Int32))), .val (.int (val % (10 : Int32))), .val (.int (2 : Int32)), .val (.int (3 : Int32))] [(.int ((48 : Int32) + (val % (10 : Int32)))), (.int (nar .char (nar .char ((eo.toInt8.toInt32 &&& (255 : Int32)).toUInt32.toUInt16.toUInt32.toInt32))))]))
      refine Go.of (fun _ k => XS.i2c X59.here hx rfl (hb hby at_128) rfl k) ?_
      show Go p e below _ (T59.setTop (mkF m 129 #[.val (.int p0), .val (.int p1), .val (.int val), .val (.int (1 : Int32)), .val (.ref r_47), .val (.int (val / (10 : Int32))), .val (.int (val % (10 : Int32))), .val (.int (2 : Int32)), .val (.int (3 : Int32))] [(.int (((48 : Int32) + (val % (10 : Int32))).toUInt32.toUInt16.toUInt32.toInt32)), (.int (nar .char (nar .char ((eo.toInt8.toInt32 &&& (255 : Int32)).toUInt32.toUInt16.toUInt32.toInt32))))]))
      refine Go.of (fun _ k => XS.icmpYes X59.here hx rfl (pc0 := 129) (pc' := 151) rfl (hb hby at_129) rfl (teq ((own_v10 val eo et hR heo het hs35) : (nar .char (nar .char ((eo.toInt8.toInt32 &&& (255 : Int32)).toUInt32.toUInt16.toUInt32.toInt32))) = (((48 : Int32) + (val % (10 : Int32))).toUInt32.toUInt16.toUInt32.toInt32))).1 (by decide) (by decide) k) ?_
      show Go p e below _ (T59.setTop (mkF m 151 #[.val (.int p0), .val (.int p1), .val (.int val), .val (.int (1 : Int32)), .val (.ref r_47), .val (.int (val / (10 : Int32))), .val (.int (val % (10 : Int32))), .val (.int (2 : Int32)), .val (.int (3 : Int32))] []))
      refine Go.of (fun _ k => XS.iloadN X59.here hx rfl (hb hby at_151) rfl  k) ?_
      show Go p e below _ (T59.setTop (mkF m 152 #[.val (.int p0), .val (.int p1), .val (.int val), .val (.int (1 : Int32)), .val (.ref r_47), .val (.int (val / (10 : Int32))), .val (.int (val % (10 : Int32))), .val (.int (2 : Int32)), .val (.int (3 : Int32))] [(.int (1 : Int32))]))
      refine Go.of (fun _ k => XS.ifNo X59.here hx rfl (hb hby at_152) rfl ((if0 _ _).trans (feq (by decide : ¬ ((1 : Int32) = (0 : Int32)))).1) k) ?_
      show Go p e below _ (T59.setTop (mkF m 155 #[.val (.int p0), .val (.int p1), .val (.int val), .val (.int (1 : Int32)), .val (.ref r_47), .val (.int (val / (10 : Int32))), .val (.int (val % (10 : Int32))), .val (.int (2 : Int32)), .val (.int (3 : Int32))] []))
      refine Go.of (fun _ k => XS.aload X59.here hx rfl (hb hby at_155) rfl rfl k) ?_
      show Go p e below _ (T59.setTop (mkF m 157 #[.val (.int p0), .val (.int p1), .val (.int val), .val (.int (1 : Int32)), .val (.ref r_47), .val (.int (val / (10 : Int32))), .val (.int (val % (10 : Int32))), .val (.int (2 : Int32)), .val (.int (3 : Int32))] [(.ref r_47)]))
      refine Go.of (fun _ k => XS.iload X59.here hx rfl (hb hby at_157) rfl  k) ?_
      show Go p e below _ (T59.setTop (mkF m 159 #[.val (.int p0), .val (.int p1), .val (.int val), .val (.int (1 : Int32)), .val (.ref r_47), .val (.int (val / (10 : Int32))), .val (.int (val % (10 : Int32))), .val (.int (2 : Int32)), .val (.int (3 : Int32))] [(.int (2 : Int32)), (.ref r_47)]))
      obtain ⟨cq60, kq60, q60a, q60b, q60c⟩ := isOf hZ47 q59_0 q47_2
      obtain ⟨_, _, ⟨T60, L60, k60, n60⟩, -, X60, ⟨Lc60, hQ60, l60, y60, z60⟩, st60⟩ := X59.virtualBack hx (y := (⟨"java/lang/String", "charAt", "(I)C"⟩ : MethodName)) (z := (⟨"java/lang/String", "charAt", "(I)C"⟩ : MethodName)) hown47 (mvT hZ47 (hw _ (List.mem_of_getElem? (i := 166) rfl))) (mvT hZ47 (hw _ (List.mem_of_getElem? (i := 167) rfl))) (notFace_of_selects (args := #[]) (mvT hZ47 (hw _ (List.mem_of_getElem? (i := 169) rfl)))) (mvT hZ47 (hw _ (List.mem_of_getElem? (i := 169) rfl))) (mvT hZ47 (hw _ (List.mem_of_getElem? (i := 168) rfl))) (by decide) (backOf (W := 0) (rm30_32 l Z a0 hw [] r_47 et.toInt8.toInt32 eo.toInt8.toInt32 (82 : Int32) w_COMPACT_STRINGS r1_47 rk2_47 v_SIOOBE_FORMATTER T47.heap n0 Z47 c56 hc8_3_7 q47_3 q47_2 q47_4 q47_6 c58 hr_v_SIOOBE_FORMATTER) hZ47 (hw _ (List.mem_of_getElem? (i := 170) rfl)) (hw _ (List.mem_of_getElem? (i := 38) rfl)) (by decide) (by decide)) q60a q60c (g := (mkF m 159 #[.val (.int p0), .val (.int p1), .val (.int val), .val (.int (1 : Int32)), .val (.ref r_47), .val (.int (val / (10 : Int32))), .val (.int (val % (10 : Int32))), .val (.int (2 : Int32)), .val (.int (3 : Int32))] [(.int (2 : Int32)), (.ref r_47)])) rfl (by rw [hml]; rfl) (Steps.refl _) (argsL := [(.int (2 : Int32))]) (rest := []) (lenOf pd_26 rfl) rfl (by show 2 * 0 + _ ≤ _; exact Nat.le_of_eq rfl) (hb hby at_159) (fun _ _ => ⟨rfl, q59_0, (by decide : 7 + 0 ≤ _), (by decide : 37 + 0 ≤ _)⟩)
      dsimp only [Pt.U, Pt.locs, Pt.cells, Pt.slots] at X60 l60 y60 z60 st60 hQ60
      subst l60 y60 z60
      obtain ⟨rfl, Nq60, q60_0⟩ := hQ60
      have N60 := Fr.app N59 Nq60
      refine Go.tr st60 ?_
      show Go p e below _ (T60.setTop (mkF m 162 #[.val (.int p0), .val (.int p1), .val (.int val), .val (.int (1 : Int32)), .val (.ref r_47), .val (.int (val / (10 : Int32))), .val (.int (val % (10 : Int32))), .val (.int (2 : Int32)), .val (.int (3 : Int32))] [(.int (nar .char (nar .char (((82 : Int32) &&& (255 : Int32)).toUInt32.toUInt16.toUInt32.toInt32))))]))
      refine Go.of (fun _ k => XS.bipush X60.here hx rfl (hb hby at_162) k) ?_
      show Go p e below _ (T60.setTop (mkF m 164 #[.val (.int p0), .val (.int p1), .val (.int val), .val (.int (1 : Int32)), .val (.ref r_47), .val (.int (val / (10 : Int32))), .val (.int (val % (10 : Int32))), .val (.int (2 : Int32)), .val (.int (3 : Int32))] [(.int (82 : Int32)), (.int (nar .char (nar .char (((82 : Int32) &&& (255 : Int32)).toUInt32.toUInt16.toUInt32.toInt32))))]))
      refine Go.of (fun _ k => XS.icmpYes X60.here hx rfl (pc0 := 164) (pc' := 169) rfl (hb hby at_164) rfl (teq ((own_v12 val eo et hR heo het hs35) : (nar .char (nar .char (((82 : Int32) &&& (255 : Int32)).toUInt32.toUInt16.toUInt32.toInt32))) = (82 : Int32))).1 (by decide) (by decide) k) ?_
      show Go p e below _ (T60.setTop (mkF m 169 #[.val (.int p0), .val (.int p1), .val (.int val), .val (.int (1 : Int32)), .val (.ref r_47), .val (.int (val / (10 : Int32))), .val (.int (val % (10 : Int32))), .val (.int (2 : Int32)), .val (.int (3 : Int32))] []))
      refine Go.of (fun _ k => XS.iconst X60.here hx rfl (hb hby at_169) k) ?_
      show Go p e below _ (T60.setTop (mkF m 170 #[.val (.int p0), .val (.int p1), .val (.int val), .val (.int (1 : Int32)), .val (.ref r_47), .val (.int (val / (10 : Int32))), .val (.int (val % (10 : Int32))), .val (.int (2 : Int32)), .val (.int (3 : Int32))] [(.int (1 : Int32))]))
      obtain ⟨fs, hr, hrun, hended, hRW⟩ := X60.leaveW (s := s) hS47 (by rw [q60_0]; exact Nat.le_trans hk47 ((Keep.refl T47.heap [])).1) (v := some (.int (1 : Int32))) (fun h => by rw [Bd.returns] at h; cases h)
      refine Go.mk _ _ ?_ hrun hended ⟨_, _, rfl, ?_, ⟨hRW.1, hRW.2.1, hRW.2.2.1, hRW.2.2.2.mono (by decide) (by decide)⟩⟩
      · exact retN X60 hx (t := .boolean) Bd.returns (by simp) (hb hby at_170) hr
      · show Q0 Z val eo et p0 p1 w_COMPACT_STRINGS w_DigitOnes cl_w_DigitOnes v_SIOOBE_FORMATTER w_DigitTens cl_w_DigitTens h0 n0 _ T60.heap _
        rw [q60_0]
        exact ⟨rfl, N60⟩
theorem own_len {args : Array Value} {s : State} {t : Term} {a : Addr} {k : Int32} (ev : t.eval args s none [] s = some (.ref a)) (h : (Jvm.Cond.eq (.length t) (.int k)).value args s none s [] = some true) : ∃ cl : Cell, s.arrayAt? a = some cl ∧ cl.slots.size < 2 ^ 31 ∧ cl.slots.size.toInt32 = k := by
  obtain ⟨x, y, h1, h2, k1, -⟩ := cmp_v (Or.inl h)
  cases h2
  obtain ⟨a', cl, e1, e2, e3⟩ := Term.length_spec h1
  cases ev.symm.trans e1
  subst e3
  refine ⟨cl, e2, ?_, ?_⟩
  · by_cases q : cl.slots.size < 2 ^ 31
    · exact q
    · simp [Term.eval, ev, e2, q] at h1
  · exact gotT (Cond.eq_ints h1 rfl) h
theorem own_eqI {args : Array Value} {s : State} {t : Term} {k : Int32} (h : (Jvm.Cond.eq t (.int k)).value args s none s [] = some true) : t.eval args s none [] s = some (.int k) := by
  obtain ⟨x, y, h1, h2, k1, -⟩ := cmp_v (Or.inl h)
  cases h2
  obtain ⟨z, rfl⟩ : ∃ z, x = .int z := by cases x <;> simp [Kin, Value.isRef] at k1 ⊢
  have e : z = k := gotT (Cond.eq_ints h1 rfl) h
  rw [h1, e]
theorem own_size {n : Nat} {k : Int32} (h : n < 2 ^ 31) (e : n.toInt32 = k) : (n : Int) = k.toInt := by rw [← e, len_toInt h]
theorem own_arrB {args : Array Value} {s : State} {t : Term} {w : Addr} {cl : Cell} (ev : t.eval args s none [] s = some (.ref w)) (hx : (Jvm.Cond.exactly t "[B").value args s none s [] = some true) (wa : (Jvm.Cond.arrayClass .byte).before args s = true) (e : s.arrayAt? w = some cl) : Arr s s.heap w cl .byte := by
  obtain ⟨cell, k, h1, h2, h3, h4, -⟩ := Exa.start ev hx
  obtain ⟨c2, k2, comp, q1, q2, q3⟩ := Cond.arrayClass_spec wa
  have q1' : s.vm.findClass "[B" = some c2 := q1
  cases h2.symm.trans q1'
  simp only [State.arrayAt?, h1, q2, Option.bind_eq_bind, Option.bind_some] at e
  by_cases u : cell.vm = .unknown ∨ cell.vm.isStatics = true
  · rw [if_pos u] at e; cases e
  · rw [if_neg u, q3] at e
    cases e
    exact ⟨h1, ⟨fun q r => (by rw [r] at h4; cases h4), k2, q2, comp, q3⟩, fun r => u (Or.inl r)⟩
theorem own_tab {args : Array Value} {s : State} {C n d : String} {w : Addr} {f : Term} {g : Int32 → Int32} (ev : (Term.static C n d).eval args s none [] s = some (.ref w)) (hx : (Jvm.Cond.exactly (Term.static C n d) "[B").value args s none s [] = some true) (wa : (Jvm.Cond.arrayClass .byte).before args s = true)
    (hl : (Jvm.Cond.eq (.length (Term.static C n d)) (.int 100)).value args s none s [] = some true) (hall : (Jvm.Cond.all (Term.static C n d) (.eq (.elem (Term.static C n d) (.index 0)) f)).value args s none s [] = some true)
    (hf : ∀ i : Nat, f.eval args s none [i] s = some (.int (g (Nat.toInt32 i)))) :
    ∃ cl : Cell, Arr s s.heap w cl .byte ∧ ∀ v : Int32, ¬ v < 0 → v < 100 → ¬ (v < 0 ∨ cl.slots.size ≤ v.toNatClampNeg) ∧ cl.slots[v.toNatClampNeg]? = some (.int (g v)) := by
  obtain ⟨cl, e1, sm, e2⟩ := own_len ev hl
  have A := own_arrB ev hx wa e1
  have sz : cl.slots.size = 100 := by have := own_size sm e2; have : (100 : Int32).toInt = 100 := rfl; omega
  refine ⟨cl, A, fun v h0 h1 => ?_⟩
  have l0 : (0 : Int32).toInt = 0 := rfl
  have l1 : (100 : Int32).toInt = 100 := rfl
  have h0' := h0
  rw [Int32.lt_iff_toInt_lt] at h0' h1
  have nn : (v.toNatClampNeg : Int) = v.toInt := (nat_of h0).symm
  have lt : v.toNatClampNeg < cl.slots.size := by omega
  have h := Cond.all_elim ev e1 hall v.toNatClampNeg lt
  have evi : (Term.static C n d).eval args s none [v.toNatClampNeg] s = some (.ref w) := ev
  have ix : (Term.index 0).eval args s none [v.toNatClampNeg] s = some (.int v) := idx_at h0
  have hb := hf v.toNatClampNeg
  rw [(back32 h0).1] at hb
  obtain ⟨x, y, r1, r2, k1, -⟩ := cmp_v (Or.inl h)
  cases hb.symm.trans r2
  obtain ⟨z, rfl⟩ : ∃ z, x = .int z := by cases x <;> simp [Kin, Value.isRef] at k1 ⊢
  have ez : z = g v := gotT (Cond.eq_ints r1 r2) h
  refine ⟨fun q => by rcases q with q | q <;> first | exact h0 q | omega, ?_⟩
  rw [← ez]
  exact (elem_in r1 evi ix A.1).2

theorem own_val (p0 : Int32) : own_R (((p0 &&& (2147483647 : Int32)) % (24 : Int32)) + (1 : Int32)) := by
  have h1 := c_mask p0 (2147483647 : Int32) 31 (by decide) (by decide)
  have h2 := (c_irem (p0 &&& (2147483647 : Int32)) (24 : Int32) 24 (by decide)).1 (by omega)
  have h3 := c_iadd ((p0 &&& (2147483647 : Int32)) % (24 : Int32)) (1 : Int32)
  have h4 := rng32 (((p0 &&& (2147483647 : Int32)) % (24 : Int32)) + (1 : Int32))
  have h5 : (1 : Int32).toInt = 1 := rfl
  generalize (p0 &&& (2147483647 : Int32)) % (24 : Int32) + (1 : Int32) = r at *
  unfold own_R
  simp only [← Int32.toInt_inj, Int32.reduceToInt]
  omega
theorem own_nn (v : Int32) : -(-v) = v := by simp
theorem own_rng (v : Int32) (h : own_R v) : ¬ v < 0 ∧ v < 100 := by
  unfold own_R at h
  rcases h with rfl | rfl | rfl | rfl | rfl | rfl | rfl | rfl | rfl | rfl | rfl | rfl | rfl | rfl | rfl | rfl | rfl | rfl | rfl | rfl | rfl | rfl | rfl | rfl <;> decide
set_option maxRecDepth 65536 in
set_option maxHeartbeats 40000000 in
theorem comes_1 {Post : Tables → Env → Array Value → State → Outcome → State → Prop} (hpost : ∀ tb e args s v u, (limb_1_1.after args s (.returned v) u = true ∧ limb_1_2.after args s (.returned v) u = true ∧ True) → ReturnedEndW s (.returned v) u (Jvm.fieldLocs frame_1_writes args s ++ Jvm.arrayLocs frame_1_arrays args s ++ Jvm.staticLocs frame_1_statics s) 24 1152 → Post tb e args s (.returned v) u) :
    ArmFor flags0 classFile x code maxLocals ret World_1 tables_1 room_1 Calls_1 rest_1 Pre_1 Post := by
  intro l hfl _ _ p e ha hc hk s m args below hf hA hF happ hP
  obtain ⟨hcalls, hrest, hpre⟩ := hP
  obtain ⟨-, -, -, hnamed, -, -, -, hat⟩ := (Spec.applies_iff hf).mp happ
  obtain ⟨hg, hn⟩ := and_e (Cond.before_iff.mp (show (Jvm.Cond.and given_1 narrow_1).before args s = true from hpre))
  obtain ⟨g1, g2⟩ := and_e hg
  obtain ⟨g3, g4⟩ := and_e g2
  obtain ⟨w0, w1, rfl⟩ : ∃ w0 w1 : Value, args = #[w0, w1] := by
    have hs : args.size = 2 := by simpa [Cond.value, given_1] using g1
    obtain ⟨L⟩ := args
    match L, hs with
    | [w0, w1], _ => exact ⟨w0, w1, rfl⟩
  have hw := fun d (hd : d ∈ tables_1) => atoms_spec (ws := Jvm.Cond.code x code maxLocals ret :: tables_1) hat d (List.mem_cons_of_mem _ hd)
  have hfit : Fit s := fun {y c} hc i hi => by
    obtain ⟨ha, rfl⟩ := Array.getElem?_eq_some_iff.mp hc
    have q := List.all_eq_true.mp ((Array.all_eq_true_iff_forall_mem.mp hF) _ (Array.getElem_mem ha)) i (List.mem_range.mpr hi)
    simpa [Array.getElem?_eq_getElem hi] using q
  obtain ⟨i0, ei0⟩ := is_v g3
  obtain rfl : w0 = (.int i0) := Option.some.inj ei0
  obtain ⟨i1, ei1⟩ := is_v g4
  obtain rfl : w1 = (.int i1) := Option.some.inj ei1
  obtain ⟨hsets, hown0⟩ := atoms_of _ (rest_1_c_eq ▸ (show rest_1_c.before _ s = true from hrest))
  have hr0 := Cond.before_iff.mp hown0
  obtain ⟨w_COMPACT_STRINGS, evC⟩ := is_v (Cond.before_iff.mp (hsets _ (List.mem_of_getElem? (i := 1) rfl)))
  have S_COMPACT_STRINGS := Sta.start evC (Or.inl (hsets _ (List.mem_of_getElem? (i := 0) rfl)))
  have hC0 : ¬ (w_COMPACT_STRINGS = (0 : Int32)) := gotF (Cond.eq_ints evC rfl) (not_v (Cond.before_iff.mp (hsets _ (List.mem_of_getElem? (i := 2) rfl))))
  obtain ⟨v_SIOOBE_FORMATTER, evF, hrF⟩ := isR_v (Cond.before_iff.mp (hsets _ (List.mem_of_getElem? (i := 8) rfl)))
  have S_SIOOBE_FORMATTER := Sta.start evF (Or.inl (hsets _ (List.mem_of_getElem? (i := 7) rfl)))
  obtain ⟨w_DigitOnes, evO⟩ := exa_v (Cond.before_iff.mp (hsets _ (List.mem_of_getElem? (i := 12) rfl)))
  have S_DigitOnes := Sta.start evO (Or.inl (hsets _ (List.mem_of_getElem? (i := 11) rfl)))
  obtain ⟨clO, ArO, tO⟩ := own_tab (g := fun v => (48 : Int32) + v % (10 : Int32)) evO (Cond.before_iff.mp (hsets _ (List.mem_of_getElem? (i := 12) rfl))) (hw _ (List.mem_of_getElem? (i := 39) rfl)) (Cond.before_iff.mp (hsets _ (List.mem_of_getElem? (i := 13) rfl))) (Cond.before_iff.mp (hsets _ (List.mem_of_getElem? (i := 14) rfl))) (fun _ => rfl)
  obtain ⟨w_DigitTens, evT⟩ := exa_v (Cond.before_iff.mp (hsets _ (List.mem_of_getElem? (i := 17) rfl)))
  have S_DigitTens := Sta.start evT (Or.inl (hsets _ (List.mem_of_getElem? (i := 16) rfl)))
  obtain ⟨clT, ArT, tT⟩ := own_tab (g := fun v => (48 : Int32) + v / (10 : Int32)) evT (Cond.before_iff.mp (hsets _ (List.mem_of_getElem? (i := 17) rfl))) (hw _ (List.mem_of_getElem? (i := 39) rfl)) (Cond.before_iff.mp (hsets _ (List.mem_of_getElem? (i := 18) rfl))) (Cond.before_iff.mp (hsets _ (List.mem_of_getElem? (i := 19) rfl))) (fun _ => rfl)
  have hR := own_val i0
  obtain ⟨rg0, rg1⟩ := own_rng _ hR
  have hCH0 : CHv s own_EL s.vm s.heap := CHv.start (own_ew hw) (fun p hp => by simp only [own_EL, List.mem_cons, List.not_mem_nil, or_false] at hp; subst hp; exact hcalls.1 ("org/hourbook/calendar/HourEnding", 24) (by simp [consts_1])) (hsets _ (List.mem_of_getElem? (i := 2) rfl)) (hw _ (List.mem_of_getElem? (i := 39) rfl)) (hw _ (List.mem_of_getElem? (i := 75) rfl))
  obtain ⟨n, o, h1, h2, h3, _, L, rfl, ⟨rfl, N⟩, hq⟩ := rm0 l s _ hw tables_1 (((i0 &&& (2147483647 : Int32)) % (24 : Int32)) + (1 : Int32)) ((48 : Int32) + (((i0 &&& (2147483647 : Int32)) % (24 : Int32)) + (1 : Int32)) % (10 : Int32)) ((48 : Int32) + (((i0 &&& (2147483647 : Int32)) % (24 : Int32)) + (1 : Int32)) / (10 : Int32)) i0 i1 w_COMPACT_STRINGS w_DigitOnes clO v_SIOOBE_FORMATTER w_DigitTens clT s.heap s.heap.size (Nat.le_refl _) rfl hR rfl rfl S_COMPACT_STRINGS hC0 S_DigitOnes ArO (by rw [own_nn]; exact (tO _ rg0 rg1).1) (by rw [own_nn]; exact (tO _ rg0 rg1).2) S_SIOOBE_FORMATTER hrF S_DigitTens ArT (by rw [own_nn]; exact (tT _ rg0 rg1).1) (by rw [own_nn]; exact (tT _ rg0 rg1).2) p e ha hc hk s m _ below hf ((Spec.applies_iff_loose hf).mp happ).1 ⟨rfl, State.Warmed39.refl s, rfl, hCH0⟩ trivial
  refine ⟨n, _, h1, h2, h3, hpost _ _ _ _ _ _ ⟨Cond.after_iff.mpr rfl, Cond.after_iff.mpr (eq_i res_at (Term.int_eval (1)) rfl), trivial⟩ ⟨hq.1, hq.2.1, hq.2.2.1, (hq.2.2.2.sift fun y hy => Or.inr (N y hy)).mono (by decide) (by decide)⟩⟩
theorem main_1_1 : Claimed_1_1 := comes_1 fun _ _ _ _ _ _ h hF => ⟨h.1, hF⟩
theorem main_1_2 : Claimed_1_2 := comes_1 fun _ _ _ _ _ _ h hF => ⟨h.2.1, hF⟩
end Jvm.Pilot.@@N@@
namespace Jvm.Pilot.@@N@@
open Jvm Jvm.ClassFile Sem Op Lib Jvm.Free Jvm.Stand Jvm.Pilot.@@N@@.Jvm.D
/-! MADE BY PROGRAM (witnessworld.py) out of the Statement's table words and the real class files: 26 classes; the members and pool entries that the words name. The judged class is class 1, her method 1. -/
namespace start1
open Jvm.ClassFile
def u (s : String) : CpInfo := .utf8 (stringToUtf16 s)
/-- a pool by its gaps: so many unusable entries, then the entry; so many at the end -/
def gap : Nat → List CpInfo → List CpInfo
  | 0, r => r
  | n + 1, r => .unusable :: gap n r
def poolList (es : List (Nat × CpInfo)) (last : Nat) : List CpInfo := es.foldr (fun e r => gap e.1 (e.2 :: r)) (gap last [])
def pool (es : List (Nat × CpInfo)) (last : Nat) : Array CpInfo := ⟨poolList es last⟩
def fileOf (pool : Array CpInfo) (this : Nat) (attrs : Array Attribute := #[]) (ms : Array MethodInfo := #[]) (fl : Nat := 33) (sup : Nat := 0) (ifs : Array Nat := #[]) (fds : Array FieldInfo := #[]) : ClassFile where
  minorVersion := 0
  majorVersion := 65
  constantPool := pool
  accessFlags := fl
  thisClass := this
  superClass := sup
  interfaces := ifs
  fields := fds
  methods := ms
  attributes := attrs
def plain (name : String) (sup : Option ClassId) : Class where
  name := name
  kind := .ordinary
  loader := none
  accessFlags := 33
  super := sup
  interfaces := #[]
  cf := none
  fields := #[]
  methods := #[]
  instanceTypes := #[]
  staticTypes := #[]
  resolved := #[]
  callSites := []
  init := .initialized
  statics := none
  mirror := none

def pool0 : Array CpInfo := pool [(5, u "<init>"), (0, u "()V"), (1, .class_ 10), (1, u "java/lang/Object")] 113

def k0c0 : Code := { maxStack := 0, maxLocals := 1, code := object_method_1_code, exceptionTable := #[], attributes := #[] }
def k0m0 : Method := { name := "<init>", desc := "()V", sig := { parameters := [], returnType := none }, accessFlags := 1, code := some k0c0 }
/-- java/lang/Object -/
def k0 : Class := { plain "java/lang/Object" none with
  accessFlags := 33
  interfaces := #[]
  cf := some (fileOf pool0 8 #[] #[{ accessFlags := 1, nameIndex := 5, descriptorIndex := 6, attributes := #[] }] 33 0 #[] #[])
  fields := #[]
  methods := #[k0m0]
  instanceTypes := #[]
  staticTypes := #[]
  resolved := Array.replicate 124 none
  statics := none }

def pool1 : Array CpInfo := pool [(2, .class_ 4), (1, u "java/lang/Object"), (0, u "<init>"), (0, u "()V"), (0, .integer 2147483647), (0, .class_ 9), (0, u "org/hourbook/calendar/HourEnding"), (0, .methodref 8 11), (0, .nameAndType 5 12), (0, u "(IZ)V"), (0, .methodref 8 14), (0, .nameAndType 15 16), (0, u "label"), (0, u "()Ljava/lang/String;"), (0, .methodref 18 19), (0, .class_ 20), (0, .nameAndType 21 22), (0, u "java/lang/String"), (0, u "length"), (0, u "()I"), (0, .methodref 18 24), (0, .nameAndType 25 26), (0, u "charAt"), (0, u "(I)C"), (0, .class_ 28), (0, u "org/hourbook/calendar/HourEndingLabelPinLaw"), (2, u "law"), (0, u "(II)Z")] 3

def k1m0 : Method := { name := "<init>", desc := "()V", sig := { parameters := [], returnType := none }, accessFlags := 1, code := none }
def k1c1 : Code := { maxStack := 4, maxLocals := 9, code := code, exceptionTable := #[], attributes := #[] }
def k1m1 : Method := { name := "law", desc := "(II)Z", sig := { parameters := [.int, .int], returnType := some .boolean }, accessFlags := 9, code := some k1c1 }
/-- org/hourbook/calendar/HourEndingLabelPinLaw -/
def k1 : Class := { plain "org/hourbook/calendar/HourEndingLabelPinLaw" (some 0) with
  accessFlags := 49
  interfaces := #[]
  cf := some (fileOf pool1 27 #[] #[{ accessFlags := 1, nameIndex := 5, descriptorIndex := 6, attributes := #[] }, { accessFlags := 9, nameIndex := 31, descriptorIndex := 32, attributes := #[] }] 49 2 #[] #[])
  fields := #[]
  methods := #[k1m0, k1m1]
  instanceTypes := #[]
  staticTypes := #[]
  resolved := Array.replicate 36 none
  statics := none }

def pool2 : Array CpInfo := pool [(1, .methodref 2 3), (0, .class_ 4), (0, .nameAndType 5 6), (0, u "java/lang/Object"), (0, u "<init>"), (0, u "()V"), (0, .class_ 8), (0, u "java/lang/Record")] 13

def k2c0 : Code := { maxStack := 1, maxLocals := 1, code := jdk_30_method_1_code, exceptionTable := #[], attributes := #[] }
def k2m0 : Method := { name := "<init>", desc := "()V", sig := { parameters := [], returnType := none }, accessFlags := 4, code := some k2c0 }
/-- java/lang/Record -/
def k2 : Class := { plain "java/lang/Record" (some 0) with
  accessFlags := 1057
  interfaces := #[]
  cf := some (fileOf pool2 7 #[] #[{ accessFlags := 4, nameIndex := 5, descriptorIndex := 6, attributes := #[] }] 1057 2 #[] #[])
  fields := #[]
  methods := #[k2m0]
  instanceTypes := #[]
  staticTypes := #[]
  resolved := Array.replicate 22 none
  statics := none }

def pool3 : Array CpInfo := pool [(1, .methodref 2 3), (0, .class_ 4), (0, .nameAndType 5 6), (0, u "java/lang/Record"), (0, u "<init>"), (0, u "()V"), (0, .fieldref 8 9), (0, .class_ 10), (0, .nameAndType 11 12), (0, u "org/hourbook/calendar/HourEnding"), (0, u "value"), (0, u "I"), (0, .fieldref 8 14), (0, .nameAndType 15 16), (0, u "repeated"), (0, u "Z"), (0, .class_ 18), (0, u "java/lang/StringBuilder"), (0, .methodref 17 3), (0, .methodref 17 21), (0, .nameAndType 22 23), (0, u "append"), (0, u "(I)Ljava/lang/StringBuilder;"), (0, .string 25), (0, u "R"), (0, .methodref 17 27), (0, .nameAndType 22 28), (0, u "(Ljava/lang/String;)Ljava/lang/StringBuilder;"), (0, .methodref 17 30), (0, .nameAndType 31 32), (0, u "toString"), (0, u "()Ljava/lang/String;"), (0, .methodref 34 35), (0, .class_ 36), (0, .nameAndType 31 37), (0, u "java/lang/Integer"), (0, u "(I)Ljava/lang/String;"), (36, u "label"), (55, u "PLAIN_DAY"), (0, u "Ljava/util/List;"), (29, u "(IZ)V")] 67

def k3c0 : Code := { maxStack := 2, maxLocals := 3, code := prog_6_method_1_code, exceptionTable := #[], attributes := #[] }
def k3m0 : Method := { name := "<init>", desc := "(IZ)V", sig := { parameters := [.int, .boolean], returnType := none }, accessFlags := 1, code := some k3c0 }
def k3c1 : Code := { maxStack := 2, maxLocals := 1, code := prog_6_method_2_code, exceptionTable := #[], attributes := #[] }
def k3m1 : Method := { name := "label", desc := "()Ljava/lang/String;", sig := { parameters := [], returnType := some (.object "java/lang/String") }, accessFlags := 1, code := some k3c1 }
/-- org/hourbook/calendar/HourEnding -/
def k3 : Class := { plain "org/hourbook/calendar/HourEnding" (some 2) with
  accessFlags := 49
  interfaces := #[]
  cf := some (fileOf pool3 8 #[] #[{ accessFlags := 1, nameIndex := 5, descriptorIndex := 161, attributes := #[] }, { accessFlags := 1, nameIndex := 74, descriptorIndex := 32, attributes := #[] }] 49 2 #[] #[{ accessFlags := 18, nameIndex := 11, descriptorIndex := 12, attributes := #[] }, { accessFlags := 18, nameIndex := 15, descriptorIndex := 16, attributes := #[] }, { accessFlags := 26, nameIndex := 130, descriptorIndex := 131, attributes := #[] }])
  fields := #[{ name := "value", type := .int, accessFlags := 18, slot := 0, constantValue := 0 }, { name := "repeated", type := .boolean, accessFlags := 18, slot := 1, constantValue := 0 }, { name := "PLAIN_DAY", type := (.object "java/util/List"), accessFlags := 26, slot := 0, constantValue := 0 }]
  methods := #[k3m0, k3m1]
  instanceTypes := #[.int, .boolean]
  staticTypes := #[(.object "java/util/List")]
  resolved := Array.replicate 229 none
  statics := none }

def pool4 : Array CpInfo := pool [(1, .class_ 2), (0, u "java/lang/Appendable"), (0, .class_ 4), (0, u "java/lang/Object")] 9

/-- java/lang/Appendable -/
def k4 : Class := { plain "java/lang/Appendable" (some 0) with
  accessFlags := 1537
  interfaces := #[]
  cf := some (fileOf pool4 1 #[] #[] 1537 3 #[] #[])
  fields := #[]
  methods := #[]
  instanceTypes := #[]
  staticTypes := #[]
  resolved := Array.replicate 14 none
  statics := none }

def pool5 : Array CpInfo := pool [(2, .class_ 4), (1, u "java/lang/CharSequence"), (42, .class_ 48), (0, u "java/lang/CharSequence$1CodePointIterator"), (10, .class_ 60), (0, u "java/lang/CharSequence$1CharIterator"), (5, .class_ 67), (0, u "java/lang/Object")] 63

/-- java/lang/CharSequence -/
def k5 : Class := { plain "java/lang/CharSequence" (some 0) with
  accessFlags := 1537
  interfaces := #[]
  cf := some (fileOf pool5 2 #[.nestMembers #[47, 59]] #[] 1537 66 #[] #[])
  fields := #[]
  methods := #[]
  instanceTypes := #[]
  staticTypes := #[]
  resolved := Array.replicate 131 none
  statics := none }

def pool6 : Array CpInfo := pool [(1, .class_ 2), (0, u "java/lang/String"), (0, .methodref 4 5), (0, .class_ 6), (0, .nameAndType 7 8), (0, u "java/lang/Object"), (0, u "<init>"), (0, u "()V"), (1, .class_ 12), (1, u "java/lang/AbstractStringBuilder"), (0, u "EMPTYVALUE"), (0, u "[B"), (0, .fieldref 10 16), (0, .nameAndType 17 14), (0, u "value"), (0, .fieldref 1 19), (0, .nameAndType 20 21), (0, u "COMPACT_STRINGS"), (0, u "Z"), (0, .fieldref 10 23), (0, .nameAndType 24 25), (0, u "coder"), (0, u "B"), (6, .methodref 1 33), (0, .nameAndType 34 35), (0, u "length"), (0, u "()I"), (0, .class_ 37), (0, u "java/lang/Integer"), (2, .methodref 1 41), (0, .nameAndType 24 42), (0, u "()B"), (2, u "append"), (0, u "(Ljava/lang/String;)Ljava/lang/AbstractStringBuilder;"), (1, .class_ 49), (0, u "java/lang/CharSequence"), (19, u "(Ljava/lang/String;)V"), (5, u "maybeLatin1"), (3, .fieldref 10 80), (0, .nameAndType 81 82), (0, u "count"), (0, u "I"), (0, .methodref 10 84), (0, .nameAndType 85 86), (0, u "isLatin1"), (0, u "()Z"), (13, .methodref 10 101), (0, .nameAndType 102 103), (0, u "ensureCapacityInternal"), (0, u "(I)V"), (3, u "(I)I"), (80, u "getChars"), (19, .methodref 10 209), (0, .nameAndType 210 211), (0, u "putStringAt"), (0, u "(ILjava/lang/String;)V"), (5, u "inflateIfNeededFor"), (2, .nameAndType 221 222), (0, u "getBytes"), (0, u "([BIB)V"), (22, .methodref 36 246), (0, .nameAndType 247 107), (0, u "stringSize"), (0, .methodref 36 249), (0, .nameAndType 188 250), (0, u "(II[B)I"), (146, .methodref 10 398), (0, .nameAndType 217 69), (0, .methodref 1 220), (3, u "()[B"), (40, .class_ 445), (0, u "java/lang/Appendable"), (65, u "(I)Ljava/lang/AbstractStringBuilder;"), (40, u "getValue")] 56

def k6m0 : Method := { name := "<init>", desc := "()V", sig := { parameters := [], returnType := none }, accessFlags := 0, code := none }
def k6c1 : Code := { maxStack := 2, maxLocals := 2, code := jdk_68_method_2_code, exceptionTable := #[], attributes := #[] }
def k6m1 : Method := { name := "<init>", desc := "(I)V", sig := { parameters := [.int], returnType := none }, accessFlags := 0, code := some k6c1 }
def k6c2 : Code := { maxStack := 1, maxLocals := 1, code := jdk_68_method_6_code, exceptionTable := #[], attributes := #[] }
def k6m2 : Method := { name := "length", desc := "()I", sig := { parameters := [], returnType := some .int }, accessFlags := 1, code := some k6c2 }
def k6c3 : Code := { maxStack := 4, maxLocals := 3, code := jdk_68_method_9_code, exceptionTable := #[], attributes := #[] }
def k6m3 : Method := { name := "ensureCapacityInternal", desc := "(I)V", sig := { parameters := [.int], returnType := none }, accessFlags := 2, code := some k6c3 }
def k6c4 : Code := { maxStack := 3, maxLocals := 3, code := jdk_68_method_22_code, exceptionTable := #[], attributes := #[] }
def k6m4 : Method := { name := "append", desc := "(Ljava/lang/String;)Ljava/lang/AbstractStringBuilder;", sig := { parameters := [(.object "java/lang/String")], returnType := some (.object "java/lang/AbstractStringBuilder") }, accessFlags := 1, code := some k6c4 }
def k6c5 : Code := { maxStack := 4, maxLocals := 4, code := jdk_68_method_32_code, exceptionTable := #[], attributes := #[] }
def k6m5 : Method := { name := "append", desc := "(I)Ljava/lang/AbstractStringBuilder;", sig := { parameters := [.int], returnType := some (.object "java/lang/AbstractStringBuilder") }, accessFlags := 1, code := some k6c5 }
def k6c6 : Code := { maxStack := 1, maxLocals := 1, code := jdk_68_method_64_code, exceptionTable := #[], attributes := #[] }
def k6m6 : Method := { name := "getValue", desc := "()[B", sig := { parameters := [], returnType := some (.array .byte) }, accessFlags := 16, code := some k6c6 }
def k6c7 : Code := { maxStack := 1, maxLocals := 1, code := jdk_68_method_68_code, exceptionTable := #[], attributes := #[] }
def k6m7 : Method := { name := "isLatin1", desc := "()Z", sig := { parameters := [], returnType := some .boolean }, accessFlags := 16, code := some k6c7 }
def k6c8 : Code := { maxStack := 2, maxLocals := 2, code := jdk_68_method_71_code, exceptionTable := #[], attributes := #[] }
def k6m8 : Method := { name := "inflateIfNeededFor", desc := "(Ljava/lang/String;)V", sig := { parameters := [(.object "java/lang/String")], returnType := none }, accessFlags := 2, code := some k6c8 }
def k6c9 : Code := { maxStack := 4, maxLocals := 3, code := jdk_68_method_73_code, exceptionTable := #[], attributes := #[] }
def k6m9 : Method := { name := "putStringAt", desc := "(ILjava/lang/String;)V", sig := { parameters := [.int, (.object "java/lang/String")], returnType := none }, accessFlags := 2, code := some k6c9 }
/-- java/lang/AbstractStringBuilder -/
def k6 : Class := { plain "java/lang/AbstractStringBuilder" (some 0) with
  accessFlags := 1056
  interfaces := #[4, 5]
  cf := some (fileOf pool6 10 #[] #[{ accessFlags := 0, nameIndex := 7, descriptorIndex := 8, attributes := #[] }, { accessFlags := 0, nameIndex := 7, descriptorIndex := 103, attributes := #[] }, { accessFlags := 1, nameIndex := 34, descriptorIndex := 35, attributes := #[] }, { accessFlags := 2, nameIndex := 102, descriptorIndex := 103, attributes := #[] }, { accessFlags := 1, nameIndex := 45, descriptorIndex := 46, attributes := #[] }, { accessFlags := 1, nameIndex := 45, descriptorIndex := 511, attributes := #[] }, { accessFlags := 16, nameIndex := 552, descriptorIndex := 403, attributes := #[] }, { accessFlags := 16, nameIndex := 85, descriptorIndex := 86, attributes := #[] }, { accessFlags := 2, nameIndex := 217, descriptorIndex := 69, attributes := #[] }, { accessFlags := 2, nameIndex := 210, descriptorIndex := 211, attributes := #[] }] 1056 4 #[444, 48] #[{ accessFlags := 0, nameIndex := 17, descriptorIndex := 14, attributes := #[] }, { accessFlags := 0, nameIndex := 24, descriptorIndex := 25, attributes := #[] }, { accessFlags := 0, nameIndex := 75, descriptorIndex := 21, attributes := #[] }, { accessFlags := 0, nameIndex := 81, descriptorIndex := 82, attributes := #[] }, { accessFlags := 26, nameIndex := 13, descriptorIndex := 14, attributes := #[] }])
  fields := #[{ name := "value", type := (.array .byte), accessFlags := 0, slot := 0, constantValue := 0 }, { name := "coder", type := .byte, accessFlags := 0, slot := 1, constantValue := 0 }, { name := "maybeLatin1", type := .boolean, accessFlags := 0, slot := 2, constantValue := 0 }, { name := "count", type := .int, accessFlags := 0, slot := 3, constantValue := 0 }, { name := "EMPTYVALUE", type := (.array .byte), accessFlags := 26, slot := 0, constantValue := 0 }]
  methods := #[k6m0, k6m1, k6m2, k6m3, k6m4, k6m5, k6m6, k6m7, k6m8, k6m9]
  instanceTypes := #[(.array .byte), .byte, .boolean, .int]
  staticTypes := #[(.array .byte)]
  resolved := Array.replicate 609 none
  statics := none }

def pool7 : Array CpInfo := pool [(1, .class_ 2), (0, u "java/io/Serializable"), (0, .class_ 4), (0, u "java/lang/Object")] 2

/-- java/io/Serializable -/
def k7 : Class := { plain "java/io/Serializable" (some 0) with
  accessFlags := 1537
  interfaces := #[]
  cf := some (fileOf pool7 1 #[] #[] 1537 3 #[] #[])
  fields := #[]
  methods := #[]
  instanceTypes := #[]
  staticTypes := #[]
  resolved := Array.replicate 7 none
  statics := none }

def pool8 : Array CpInfo := pool [(1, .class_ 2), (0, u "java/lang/Comparable"), (0, .class_ 4), (0, u "java/lang/Object")] 7

/-- java/lang/Comparable -/
def k8 : Class := { plain "java/lang/Comparable" (some 0) with
  accessFlags := 1537
  interfaces := #[]
  cf := some (fileOf pool8 1 #[] #[] 1537 3 #[] #[])
  fields := #[]
  methods := #[]
  instanceTypes := #[]
  staticTypes := #[]
  resolved := Array.replicate 12 none
  statics := none }

def pool9 : Array CpInfo := pool [(1, .methodref 2 3), (0, .class_ 4), (0, .nameAndType 5 6), (0, u "java/lang/AbstractStringBuilder"), (0, u "<init>"), (0, u "(I)V"), (11, .class_ 20), (1, u "java/lang/String"), (3, .class_ 26), (1, u "java/lang/StringBuilder"), (0, u "append"), (0, u "(Ljava/lang/String;)Ljava/lang/StringBuilder;"), (0, .methodref 2 30), (0, .nameAndType 27 31), (0, u "(Ljava/lang/String;)Ljava/lang/AbstractStringBuilder;"), (21, .methodref 2 54), (0, .nameAndType 27 55), (0, u "(I)Ljava/lang/AbstractStringBuilder;"), (81, .methodref 18 138), (0, .nameAndType 5 139), (0, u "(Ljava/lang/StringBuilder;)V"), (5, u "()V"), (10, u "()I"), (111, u "(I)Ljava/lang/StringBuilder;"), (74, .methodref 2 344), (0, .nameAndType 345 156), (0, u "length"), (3, .class_ 350), (0, u "java/lang/Appendable"), (0, .class_ 352), (0, u "java/io/Serializable"), (0, .class_ 354), (0, u "java/lang/Comparable"), (0, .class_ 356), (0, u "java/lang/CharSequence"), (0, u "serialVersionUID"), (0, u "J"), (40, u "toString"), (0, u "()Ljava/lang/String;")] 21

def k9c0 : Code := { maxStack := 2, maxLocals := 1, code := jdk_67_method_1_code, exceptionTable := #[], attributes := #[] }
def k9m0 : Method := { name := "<init>", desc := "()V", sig := { parameters := [], returnType := none }, accessFlags := 1, code := some k9c0 }
def k9c1 : Code := { maxStack := 2, maxLocals := 2, code := jdk_67_method_7_code, exceptionTable := #[], attributes := #[] }
def k9m1 : Method := { name := "append", desc := "(Ljava/lang/String;)Ljava/lang/StringBuilder;", sig := { parameters := [(.object "java/lang/String")], returnType := some (.object "java/lang/StringBuilder") }, accessFlags := 1, code := some k9c1 }
def k9c2 : Code := { maxStack := 2, maxLocals := 2, code := jdk_67_method_15_code, exceptionTable := #[], attributes := #[] }
def k9m2 : Method := { name := "append", desc := "(I)Ljava/lang/StringBuilder;", sig := { parameters := [.int], returnType := some (.object "java/lang/StringBuilder") }, accessFlags := 1, code := some k9c2 }
def k9c3 : Code := { maxStack := 3, maxLocals := 1, code := jdk_67_method_42_code, exceptionTable := #[], attributes := #[] }
def k9m3 : Method := { name := "toString", desc := "()Ljava/lang/String;", sig := { parameters := [], returnType := some (.object "java/lang/String") }, accessFlags := 1, code := some k9c3 }
def k9c4 : Code := { maxStack := 1, maxLocals := 1, code := jdk_67_method_93_code, exceptionTable := #[], attributes := #[] }
def k9m4 : Method := { name := "length", desc := "()I", sig := { parameters := [], returnType := some .int }, accessFlags := 4161, code := some k9c4 }
/-- java/lang/StringBuilder -/
def k9 : Class := { plain "java/lang/StringBuilder" (some 6) with
  accessFlags := 49
  interfaces := #[4, 7, 8, 5]
  cf := some (fileOf pool9 24 #[] #[{ accessFlags := 1, nameIndex := 5, descriptorIndex := 145, attributes := #[] }, { accessFlags := 1, nameIndex := 27, descriptorIndex := 28, attributes := #[] }, { accessFlags := 1, nameIndex := 27, descriptorIndex := 268, attributes := #[] }, { accessFlags := 1, nameIndex := 399, descriptorIndex := 400, attributes := #[] }, { accessFlags := 4161, nameIndex := 345, descriptorIndex := 156, attributes := #[] }] 49 2 #[349, 351, 353, 355] #[{ accessFlags := 24, nameIndex := 357, descriptorIndex := 358, attributes := #[] }])
  fields := #[{ name := "serialVersionUID", type := .long, accessFlags := 24, slot := 0, constantValue := 0 }]
  methods := #[k9m0, k9m1, k9m2, k9m3, k9m4]
  instanceTypes := #[(.array .byte), .byte, .boolean, .int]
  staticTypes := #[.long]
  resolved := Array.replicate 422 none
  statics := none }

def pool10 : Array CpInfo := pool [(1, .class_ 2), (0, u "java/lang/constant/Constable"), (0, .class_ 4), (0, u "java/lang/Object")] 6

/-- java/lang/constant/Constable -/
def k10 : Class := { plain "java/lang/constant/Constable" (some 0) with
  accessFlags := 1537
  interfaces := #[]
  cf := some (fileOf pool10 1 #[] #[] 1537 3 #[] #[])
  fields := #[]
  methods := #[]
  instanceTypes := #[]
  staticTypes := #[]
  resolved := Array.replicate 11 none
  statics := none }

def pool11 : Array CpInfo := pool [(1, .class_ 2), (0, u "java/lang/constant/ConstantDesc"), (0, .class_ 4), (0, u "java/lang/Object")] 32

/-- java/lang/constant/ConstantDesc -/
def k11 : Class := { plain "java/lang/constant/ConstantDesc" (some 0) with
  accessFlags := 1537
  interfaces := #[]
  cf := some (fileOf pool11 1 #[] #[] 1537 3 #[] #[])
  fields := #[]
  methods := #[]
  instanceTypes := #[]
  staticTypes := #[]
  resolved := Array.replicate 37 none
  statics := none }

def pool12 : Array CpInfo := pool [(1, .methodref 2 3), (0, .class_ 4), (0, .nameAndType 5 6), (0, u "java/lang/Object"), (0, u "<init>"), (0, u "()V"), (2, .fieldref 10 11), (0, .class_ 12), (0, .nameAndType 13 14), (0, u "java/lang/String"), (0, u "value"), (0, u "[B"), (0, .fieldref 10 16), (0, .nameAndType 17 18), (0, u "coder"), (0, u "B"), (2, u "hash"), (0, u "I"), (2, u "hashIsZero"), (0, u "Z"), (11, .fieldref 10 39), (0, .nameAndType 40 26), (0, u "COMPACT_STRINGS"), (13, .methodref 55 56), (0, .class_ 57), (0, .nameAndType 58 59), (0, u "java/util/Arrays"), (0, u "copyOfRange"), (0, u "([BII)[B"), (47, .class_ 109), (1, u "java/lang/StringLatin1"), (32, u "()Z"), (50, .class_ 195), (1, u "java/lang/System"), (15, u "([BB)V"), (0, .methodref 193 213), (0, .nameAndType 214 215), (0, u "arraycopy"), (0, u "(Ljava/lang/Object;ILjava/lang/Object;II)V"), (118, u "()I"), (0, .methodref 10 336), (0, .nameAndType 17 337), (0, u "()B"), (2, u "()[B"), (22, u "([BI)C"), (27, u "(II)V"), (35, u "(I)C"), (61, .methodref 10 490), (0, .nameAndType 5 491), (0, u "(Ljava/lang/AbstractStringBuilder;Ljava/lang/Void;)V"), (0, .methodref 10 493), (0, .nameAndType 494 142), (0, u "isLatin1"), (0, .methodref 107 496), (0, .nameAndType 497 363), (0, u "charAt"), (3, u "checkIndex"), (4, .nameAndType 507 334), (0, u "length"), (24, u "getBytes"), (16, .methodref 550 506), (0, .class_ 551), (0, u "java/lang/AbstractStringBuilder"), (0, .methodref 550 553), (0, .nameAndType 554 340), (0, u "getValue"), (20, .class_ 576), (0, u "java/lang/CharSequence"), (22, u "CASE_INSENSITIVE_ORDER"), (0, u "Ljava/util/Comparator;"), (220, u "([BIB)V"), (225, .methodref 550 493), (5, .fieldref 1054 1055), (0, .class_ 1056), (0, .nameAndType 1057 1058), (0, u "jdk/internal/util/Preconditions"), (0, u "SIOOBE_FORMATTER"), (0, u "Ljava/util/function/BiFunction;"), (0, .methodref 1054 1060), (0, .nameAndType 501 1061), (0, u "(IILjava/util/function/BiFunction;)I"), (39, u "serialPersistentFields"), (0, u "[Ljava/io/ObjectStreamField;"), (0, .class_ 1104), (0, u "java/lang/String$CaseInsensitiveComparator"), (1, .class_ 1107), (0, u "java/io/Serializable"), (0, .class_ 1109), (0, u "java/lang/Comparable"), (0, .class_ 1111), (0, u "java/lang/constant/Constable"), (0, .class_ 1113), (0, u "java/lang/constant/ConstantDesc"), (2, u "serialVersionUID"), (0, u "J"), (3, u "REPL"), (0, u "C"), (2, u "LATIN1"), (1, u "UTF16"), (105, u "(Ljava/lang/StringBuilder;)V")] 217

def k12m0 : Method := { name := "<init>", desc := "()V", sig := { parameters := [], returnType := none }, accessFlags := 1, code := none }
def k12c1 : Code := { maxStack := 3, maxLocals := 2, code := jdk_42_method_53_code, exceptionTable := #[], attributes := #[] }
def k12m1 : Method := { name := "<init>", desc := "(Ljava/lang/StringBuilder;)V", sig := { parameters := [(.object "java/lang/StringBuilder")], returnType := none }, accessFlags := 1, code := some k12c1 }
def k12c2 : Code := { maxStack := 2, maxLocals := 1, code := jdk_42_method_54_code, exceptionTable := #[], attributes := #[] }
def k12m2 : Method := { name := "length", desc := "()I", sig := { parameters := [], returnType := some .int }, accessFlags := 1, code := some k12c2 }
def k12c3 : Code := { maxStack := 2, maxLocals := 2, code := jdk_42_method_56_code, exceptionTable := #[], attributes := #[] }
def k12m3 : Method := { name := "charAt", desc := "(I)C", sig := { parameters := [.int], returnType := some .char }, accessFlags := 1, code := some k12c3 }
def k12c4 : Code := { maxStack := 5, maxLocals := 4, code := jdk_42_method_147_code, exceptionTable := #[], attributes := #[] }
def k12m4 : Method := { name := "getBytes", desc := "([BIB)V", sig := { parameters := [(.array .byte), .int, .byte], returnType := none }, accessFlags := 0, code := some k12c4 }
def k12c5 : Code := { maxStack := 5, maxLocals := 5, code := jdk_42_method_150_code, exceptionTable := #[], attributes := #[] }
def k12m5 : Method := { name := "<init>", desc := "(Ljava/lang/AbstractStringBuilder;Ljava/lang/Void;)V", sig := { parameters := [(.object "java/lang/AbstractStringBuilder"), (.object "java/lang/Void")], returnType := none }, accessFlags := 0, code := some k12c5 }
def k12c6 : Code := { maxStack := 2, maxLocals := 3, code := jdk_42_method_151_code, exceptionTable := #[], attributes := #[] }
def k12m6 : Method := { name := "<init>", desc := "([BB)V", sig := { parameters := [(.array .byte), .byte], returnType := none }, accessFlags := 0, code := some k12c6 }
def k12c7 : Code := { maxStack := 1, maxLocals := 1, code := jdk_42_method_152_code, exceptionTable := #[], attributes := #[] }
def k12m7 : Method := { name := "coder", desc := "()B", sig := { parameters := [], returnType := some .byte }, accessFlags := 0, code := some k12c7 }
def k12c8 : Code := { maxStack := 1, maxLocals := 1, code := jdk_42_method_154_code, exceptionTable := #[], attributes := #[] }
def k12m8 : Method := { name := "isLatin1", desc := "()Z", sig := { parameters := [], returnType := some .boolean }, accessFlags := 0, code := some k12c8 }
def k12c9 : Code := { maxStack := 3, maxLocals := 2, code := jdk_42_method_155_code, exceptionTable := #[], attributes := #[] }
def k12m9 : Method := { name := "checkIndex", desc := "(II)V", sig := { parameters := [.int, .int], returnType := none }, accessFlags := 8, code := some k12c9 }
/-- java/lang/String -/
def k12 : Class := { plain "java/lang/String" (some 0) with
  accessFlags := 49
  interfaces := #[7, 8, 5, 10, 11]
  cf := some (fileOf pool12 10 #[.nestMembers #[1103]] #[{ accessFlags := 1, nameIndex := 5, descriptorIndex := 6, attributes := #[] }, { accessFlags := 1, nameIndex := 5, descriptorIndex := 1233, attributes := #[] }, { accessFlags := 1, nameIndex := 507, descriptorIndex := 334, attributes := #[] }, { accessFlags := 1, nameIndex := 497, descriptorIndex := 427, attributes := #[] }, { accessFlags := 0, nameIndex := 532, descriptorIndex := 821, attributes := #[] }, { accessFlags := 0, nameIndex := 5, descriptorIndex := 491, attributes := #[] }, { accessFlags := 0, nameIndex := 5, descriptorIndex := 211, attributes := #[] }, { accessFlags := 0, nameIndex := 17, descriptorIndex := 337, attributes := #[] }, { accessFlags := 0, nameIndex := 494, descriptorIndex := 142, attributes := #[] }, { accessFlags := 8, nameIndex := 501, descriptorIndex := 391, attributes := #[] }] 49 2 #[1106, 1108, 575, 1110, 1112] #[{ accessFlags := 18, nameIndex := 13, descriptorIndex := 14, attributes := #[] }, { accessFlags := 18, nameIndex := 17, descriptorIndex := 18, attributes := #[] }, { accessFlags := 2, nameIndex := 21, descriptorIndex := 22, attributes := #[] }, { accessFlags := 2, nameIndex := 25, descriptorIndex := 26, attributes := #[] }, { accessFlags := 26, nameIndex := 1116, descriptorIndex := 1117, attributes := #[] }, { accessFlags := 24, nameIndex := 40, descriptorIndex := 26, attributes := #[] }, { accessFlags := 26, nameIndex := 1101, descriptorIndex := 1102, attributes := #[] }, { accessFlags := 26, nameIndex := 1121, descriptorIndex := 1122, attributes := #[] }, { accessFlags := 25, nameIndex := 599, descriptorIndex := 600, attributes := #[] }, { accessFlags := 24, nameIndex := 1125, descriptorIndex := 18, attributes := #[] }, { accessFlags := 24, nameIndex := 1127, descriptorIndex := 18, attributes := #[] }])
  fields := #[{ name := "value", type := (.array .byte), accessFlags := 18, slot := 0, constantValue := 0 }, { name := "coder", type := .byte, accessFlags := 18, slot := 1, constantValue := 0 }, { name := "hash", type := .int, accessFlags := 2, slot := 2, constantValue := 0 }, { name := "hashIsZero", type := .boolean, accessFlags := 2, slot := 3, constantValue := 0 }, { name := "serialVersionUID", type := .long, accessFlags := 26, slot := 0, constantValue := 0 }, { name := "COMPACT_STRINGS", type := .boolean, accessFlags := 24, slot := 1, constantValue := 0 }, { name := "serialPersistentFields", type := (.array (.object "java/io/ObjectStreamField")), accessFlags := 26, slot := 2, constantValue := 0 }, { name := "REPL", type := .char, accessFlags := 26, slot := 3, constantValue := 0 }, { name := "CASE_INSENSITIVE_ORDER", type := (.object "java/util/Comparator"), accessFlags := 25, slot := 4, constantValue := 0 }, { name := "LATIN1", type := .byte, accessFlags := 24, slot := 5, constantValue := 0 }, { name := "UTF16", type := .byte, accessFlags := 24, slot := 6, constantValue := 0 }]
  methods := #[k12m0, k12m1, k12m2, k12m3, k12m4, k12m5, k12m6, k12m7, k12m8, k12m9]
  instanceTypes := #[(.array .byte), .byte, .int, .boolean]
  staticTypes := #[.long, .boolean, (.array (.object "java/io/ObjectStreamField")), .char, (.object "java/util/Comparator"), .byte, .byte]
  resolved := Array.replicate 1451 none
  statics := some 0 }

def pool13 : Array CpInfo := pool [(2, .class_ 4), (1, u "java/lang/Object"), (0, u "<init>"), (0, u "()V"), (1, .class_ 10), (1, u "java/lang/Number"), (2, .class_ 14), (0, u "java/io/Serializable"), (0, u "serialVersionUID"), (0, u "J")] 20

def k13m0 : Method := { name := "<init>", desc := "()V", sig := { parameters := [], returnType := none }, accessFlags := 1, code := none }
/-- java/lang/Number -/
def k13 : Class := { plain "java/lang/Number" (some 0) with
  accessFlags := 1057
  interfaces := #[7]
  cf := some (fileOf pool13 8 #[] #[{ accessFlags := 1, nameIndex := 5, descriptorIndex := 6, attributes := #[] }] 1057 2 #[13] #[{ accessFlags := 26, nameIndex := 15, descriptorIndex := 16, attributes := #[] }])
  fields := #[{ name := "serialVersionUID", type := .long, accessFlags := 26, slot := 0, constantValue := 0 }]
  methods := #[k13m0]
  instanceTypes := #[]
  staticTypes := #[.long]
  resolved := Array.replicate 37 none
  statics := none }

def pool14 : Array CpInfo := pool [(1, .class_ 2), (0, u "java/lang/Integer"), (2, .class_ 6), (0, u "java/lang/String"), (4, u "toString"), (0, u "(I)Ljava/lang/String;"), (0, .fieldref 5 14), (0, .nameAndType 15 16), (0, u "COMPACT_STRINGS"), (0, u "Z"), (2, u "digits"), (0, u "[C"), (33, u "(I)I"), (10, .methodref 5 66), (0, .nameAndType 67 68), (0, u "<init>"), (0, u "([BB)V"), (3, .methodref 1 73), (0, .nameAndType 74 54), (0, u "stringSize"), (0, .methodref 1 76), (0, .nameAndType 77 78), (0, u "getChars"), (0, u "(II[B)I"), (4, .fieldref 1 84), (0, .nameAndType 85 86), (0, u "DigitOnes"), (0, u "[B"), (0, .fieldref 1 88), (0, .nameAndType 89 86), (0, u "DigitTens"), (99, .class_ 190), (0, u "java/lang/Integer$IntegerCache"), (3, u "I"), (8, .class_ 204), (0, u "java/lang/Number"), (2, u "value"), (94, u "TYPE"), (0, u "Ljava/lang/Class;"), (0, .class_ 305), (0, u "java/lang/Comparable"), (0, .class_ 307), (0, u "java/lang/constant/Constable"), (0, .class_ 309), (0, u "java/lang/constant/ConstantDesc"), (0, u "MIN_VALUE"), (1, u "MAX_VALUE"), (3, u "SIZE"), (1, u "BYTES"), (1, u "serialVersionUID"), (0, u "J")] 131

def k14c0 : Code := { maxStack := 4, maxLocals := 3, code := jdk_33_method_10_code, exceptionTable := #[], attributes := #[] }
def k14m0 : Method := { name := "toString", desc := "(I)Ljava/lang/String;", sig := { parameters := [.int], returnType := some (.object "java/lang/String") }, accessFlags := 9, code := some k14c0 }
def k14c1 : Code := { maxStack := 4, maxLocals := 7, code := jdk_33_method_12_code, exceptionTable := #[], attributes := #[] }
def k14m1 : Method := { name := "getChars", desc := "(II[B)I", sig := { parameters := [.int, .int, (.array .byte)], returnType := some .int }, accessFlags := 8, code := some k14c1 }
def k14c2 : Code := { maxStack := 2, maxLocals := 4, code := jdk_33_method_13_code, exceptionTable := #[], attributes := #[] }
def k14m2 : Method := { name := "stringSize", desc := "(I)I", sig := { parameters := [.int], returnType := some .int }, accessFlags := 8, code := some k14c2 }
/-- java/lang/Integer -/
def k14 : Class := { plain "java/lang/Integer" (some 13) with
  accessFlags := 49
  interfaces := #[8, 10, 11]
  cf := some (fileOf pool14 1 #[.nestMembers #[189]] #[{ accessFlags := 9, nameIndex := 11, descriptorIndex := 12, attributes := #[] }, { accessFlags := 8, nameIndex := 77, descriptorIndex := 78, attributes := #[] }, { accessFlags := 8, nameIndex := 74, descriptorIndex := 54, attributes := #[] }] 49 203 #[304, 306, 308] #[{ accessFlags := 25, nameIndex := 310, descriptorIndex := 194, attributes := #[] }, { accessFlags := 25, nameIndex := 312, descriptorIndex := 194, attributes := #[] }, { accessFlags := 25, nameIndex := 302, descriptorIndex := 303, attributes := #[] }, { accessFlags := 24, nameIndex := 19, descriptorIndex := 20, attributes := #[] }, { accessFlags := 24, nameIndex := 89, descriptorIndex := 86, attributes := #[] }, { accessFlags := 24, nameIndex := 85, descriptorIndex := 86, attributes := #[] }, { accessFlags := 18, nameIndex := 207, descriptorIndex := 194, attributes := #[] }, { accessFlags := 25, nameIndex := 316, descriptorIndex := 194, attributes := #[] }, { accessFlags := 25, nameIndex := 318, descriptorIndex := 194, attributes := #[] }, { accessFlags := 26, nameIndex := 320, descriptorIndex := 321, attributes := #[] }])
  fields := #[{ name := "MIN_VALUE", type := .int, accessFlags := 25, slot := 0, constantValue := 0 }, { name := "MAX_VALUE", type := .int, accessFlags := 25, slot := 1, constantValue := 0 }, { name := "TYPE", type := (.object "java/lang/Class"), accessFlags := 25, slot := 2, constantValue := 0 }, { name := "digits", type := (.array .char), accessFlags := 24, slot := 3, constantValue := 0 }, { name := "DigitTens", type := (.array .byte), accessFlags := 24, slot := 4, constantValue := 0 }, { name := "DigitOnes", type := (.array .byte), accessFlags := 24, slot := 5, constantValue := 0 }, { name := "value", type := .int, accessFlags := 18, slot := 0, constantValue := 0 }, { name := "SIZE", type := .int, accessFlags := 25, slot := 6, constantValue := 0 }, { name := "BYTES", type := .int, accessFlags := 25, slot := 7, constantValue := 0 }, { name := "serialVersionUID", type := .long, accessFlags := 26, slot := 8, constantValue := 0 }]
  methods := #[k14m0, k14m1, k14m2]
  instanceTypes := #[.int]
  staticTypes := #[.int, .int, (.object "java/lang/Class"), (.array .char), (.array .byte), (.array .byte), .int, .int, .long]
  resolved := Array.replicate 453 none
  statics := some 1 }

def pool15 : Array CpInfo := pool [(2, .class_ 4), (1, u "java/lang/Object"), (0, u "<init>"), (0, u "()V"), (1, .class_ 10), (1, u "java/lang/System"), (0, u "allowSecurityManager"), (0, u "I"), (16, u "cons"), (0, u "Ljava/io/Console;"), (77, .class_ 110), (1, u "java/lang/System$CallersHolder"), (43, u "initialErrStream"), (0, u "Ljava/io/PrintStream;"), (19, u "security"), (0, u "Ljava/lang/SecurityManager;"), (31, .class_ 209), (0, u "java/lang/System$1"), (7, u "props"), (0, u "Ljava/util/Properties;"), (2, u "lineSeparator"), (0, u "Ljava/lang/String;"), (96, .class_ 321), (1, u "java/lang/System$LoggerFinder"), (5, .class_ 328), (0, u "java/lang/System$Logger"), (67, u "err"), (2, u "out"), (91, u "notSupportedJnuEncoding"), (15, u "in"), (17, u "initialIn"), (0, u "Ljava/io/InputStream;"), (35, u "bootLayer"), (0, u "Ljava/lang/ModuleLayer;"), (99, .class_ 664), (0, u "java/lang/System$2"), (9, u "NEVER"), (2, u "MAYBE"), (49, u "arraycopy"), (0, u "(Ljava/lang/Object;ILjava/lang/Object;II)V"), (72, .class_ 802), (0, u "java/lang/System$Logger$Level")] 31

def k15m0 : Method := { name := "<init>", desc := "()V", sig := { parameters := [], returnType := none }, accessFlags := 2, code := none }
def k15m1 : Method := { name := "arraycopy", desc := "(Ljava/lang/Object;ILjava/lang/Object;II)V", sig := { parameters := [(.object "java/lang/Object"), .int, (.object "java/lang/Object"), .int, .int], returnType := none }, accessFlags := 265, code := none }
/-- java/lang/System -/
def k15 : Class := { plain "java/lang/System" (some 0) with
  accessFlags := 49
  interfaces := #[]
  cf := some (fileOf pool15 8 #[.nestMembers #[319, 327, 801, 108, 663, 208]] #[{ accessFlags := 2, nameIndex := 5, descriptorIndex := 6, attributes := #[] }, { accessFlags := 265, nameIndex := 727, descriptorIndex := 728, attributes := #[] }] 49 2 #[] #[{ accessFlags := 25, nameIndex := 507, descriptorIndex := 526, attributes := #[] }, { accessFlags := 25, nameIndex := 399, descriptorIndex := 155, attributes := #[] }, { accessFlags := 25, nameIndex := 396, descriptorIndex := 155, attributes := #[] }, { accessFlags := 10, nameIndex := 525, descriptorIndex := 526, attributes := #[] }, { accessFlags := 26, nameIndex := 674, descriptorIndex := 12, attributes := #[] }, { accessFlags := 26, nameIndex := 677, descriptorIndex := 12, attributes := #[] }, { accessFlags := 10, nameIndex := 11, descriptorIndex := 12, attributes := #[] }, { accessFlags := 74, nameIndex := 175, descriptorIndex := 176, attributes := #[] }, { accessFlags := 10, nameIndex := 491, descriptorIndex := 222, attributes := #[] }, { accessFlags := 74, nameIndex := 29, descriptorIndex := 30, attributes := #[] }, { accessFlags := 74, nameIndex := 154, descriptorIndex := 155, attributes := #[] }, { accessFlags := 10, nameIndex := 217, descriptorIndex := 218, attributes := #[] }, { accessFlags := 10, nameIndex := 221, descriptorIndex := 222, attributes := #[] }, { accessFlags := 8, nameIndex := 562, descriptorIndex := 563, attributes := #[] }])
  fields := #[{ name := "in", type := (.object "java/io/InputStream"), accessFlags := 25, slot := 0, constantValue := 0 }, { name := "out", type := (.object "java/io/PrintStream"), accessFlags := 25, slot := 1, constantValue := 0 }, { name := "err", type := (.object "java/io/PrintStream"), accessFlags := 25, slot := 2, constantValue := 0 }, { name := "initialIn", type := (.object "java/io/InputStream"), accessFlags := 10, slot := 3, constantValue := 0 }, { name := "NEVER", type := .int, accessFlags := 26, slot := 4, constantValue := 0 }, { name := "MAYBE", type := .int, accessFlags := 26, slot := 5, constantValue := 0 }, { name := "allowSecurityManager", type := .int, accessFlags := 10, slot := 6, constantValue := 0 }, { name := "security", type := (.object "java/lang/SecurityManager"), accessFlags := 74, slot := 7, constantValue := 0 }, { name := "notSupportedJnuEncoding", type := (.object "java/lang/String"), accessFlags := 10, slot := 8, constantValue := 0 }, { name := "cons", type := (.object "java/io/Console"), accessFlags := 74, slot := 9, constantValue := 0 }, { name := "initialErrStream", type := (.object "java/io/PrintStream"), accessFlags := 74, slot := 10, constantValue := 0 }, { name := "props", type := (.object "java/util/Properties"), accessFlags := 10, slot := 11, constantValue := 0 }, { name := "lineSeparator", type := (.object "java/lang/String"), accessFlags := 10, slot := 12, constantValue := 0 }, { name := "bootLayer", type := (.object "java/lang/ModuleLayer"), accessFlags := 8, slot := 13, constantValue := 0 }]
  methods := #[k15m0, k15m1]
  instanceTypes := #[]
  staticTypes := #[(.object "java/io/InputStream"), (.object "java/io/PrintStream"), (.object "java/io/PrintStream"), (.object "java/io/InputStream"), .int, .int, .int, (.object "java/lang/SecurityManager"), (.object "java/lang/String"), (.object "java/io/Console"), (.object "java/io/PrintStream"), (.object "java/util/Properties"), (.object "java/lang/String"), (.object "java/lang/ModuleLayer")]
  resolved := Array.replicate 834 none
  statics := none }

def pool16 : Array CpInfo := pool [(2, .class_ 4), (1, u "java/lang/Object"), (0, u "<init>"), (0, u "()V"), (7, .class_ 16), (1, u "java/util/Arrays"), (57, .class_ 76), (1, u "java/util/Arrays$NaturalOrder"), (36, .class_ 115), (1, u "java/util/Arrays$LegacyMergeSort"), (1, u "Z"), (21, u "copyOfRange"), (10, .methodref 151 152), (0, .class_ 153), (0, .nameAndType 154 155), (0, u "java/lang/System"), (0, u "arraycopy"), (0, u "(Ljava/lang/Object;ILjava/lang/Object;II)V"), (148, .methodref 305 306), (0, .class_ 307), (0, .nameAndType 308 309), (0, u "java/lang/Math"), (0, u "min"), (0, u "(II)I"), (29, .methodref 14 340), (0, .nameAndType 341 342), (0, u "copyOfRangeByte"), (0, u "([BII)[B"), (0, .methodref 14 344), (0, .nameAndType 345 346), (0, u "checkLength"), (0, u "(II)V"), (28, .class_ 376), (0, u "java/util/Arrays$ArrayList"), (68, u "$assertionsDisabled"), (269, u "MIN_ARRAY_SORT_GRAN"), (0, u "I"), (2, u "INSERTIONSORT_THRESHOLD"), (255, .class_ 976), (0, u "java/util/Arrays$ArrayItr")] 52

def k16m0 : Method := { name := "<init>", desc := "()V", sig := { parameters := [], returnType := none }, accessFlags := 2, code := none }
def k16c1 : Code := { maxStack := 4, maxLocals := 2, code := jdk_65_method_131_code, exceptionTable := #[], attributes := #[] }
def k16m1 : Method := { name := "checkLength", desc := "(II)V", sig := { parameters := [.int, .int], returnType := none }, accessFlags := 10, code := some k16c1 }
def k16c2 : Code := { maxStack := 3, maxLocals := 3, code := jdk_65_method_132_code, exceptionTable := #[], attributes := #[] }
def k16m2 : Method := { name := "copyOfRange", desc := "([BII)[B", sig := { parameters := [(.array .byte), .int, .int], returnType := some (.array .byte) }, accessFlags := 9, code := some k16c2 }
def k16c3 : Code := { maxStack := 6, maxLocals := 5, code := jdk_65_method_133_code, exceptionTable := #[], attributes := #[] }
def k16m3 : Method := { name := "copyOfRangeByte", desc := "([BII)[B", sig := { parameters := [(.array .byte), .int, .int], returnType := some (.array .byte) }, accessFlags := 10, code := some k16c3 }
/-- java/util/Arrays -/
def k16 : Class := { plain "java/util/Arrays" (some 0) with
  accessFlags := 49
  interfaces := #[]
  cf := some (fileOf pool16 14 #[.nestMembers #[975, 375, 113, 74]] #[{ accessFlags := 2, nameIndex := 5, descriptorIndex := 6, attributes := #[] }, { accessFlags := 10, nameIndex := 345, descriptorIndex := 346, attributes := #[] }, { accessFlags := 9, nameIndex := 139, descriptorIndex := 342, attributes := #[] }, { accessFlags := 10, nameIndex := 341, descriptorIndex := 342, attributes := #[] }] 49 2 #[] #[{ accessFlags := 26, nameIndex := 715, descriptorIndex := 716, attributes := #[] }, { accessFlags := 26, nameIndex := 719, descriptorIndex := 716, attributes := #[] }, { accessFlags := 4120, nameIndex := 445, descriptorIndex := 117, attributes := #[] }])
  fields := #[{ name := "MIN_ARRAY_SORT_GRAN", type := .int, accessFlags := 26, slot := 0, constantValue := 0 }, { name := "INSERTIONSORT_THRESHOLD", type := .int, accessFlags := 26, slot := 1, constantValue := 0 }, { name := "$assertionsDisabled", type := .boolean, accessFlags := 4120, slot := 2, constantValue := 0 }]
  methods := #[k16m0, k16m1, k16m2, k16m3]
  instanceTypes := #[]
  staticTypes := #[.int, .int, .boolean]
  resolved := Array.replicate 1029 none
  statics := none }

def pool17 : Array CpInfo := pool [(1, .class_ 2), (0, u "java/lang/Math"), (1, .class_ 6), (1, u "java/lang/Object"), (0, u "<init>"), (0, u "()V"), (89, .class_ 100), (1, u "java/lang/Math$RandomNumberGeneratorHolder"), (71, u "negativeZeroFloatBits"), (0, u "J"), (2, u "negativeZeroDoubleBits"), (24, u "min"), (43, u "$assertionsDisabled"), (0, u "Z"), (88, u "(II)I"), (2, u "twoToTheDoubleScaleDown"), (0, u "D"), (4, u "twoToTheDoubleScaleUp"), (9, u "E"), (3, u "PI"), (2, u "TAU"), (2, u "DEGREES_TO_RADIANS"), (0, u "RADIANS_TO_DEGREES")] 94

def k17m0 : Method := { name := "<init>", desc := "()V", sig := { parameters := [], returnType := none }, accessFlags := 2, code := none }
def k17c1 : Code := { maxStack := 2, maxLocals := 2, code := jdk_29_method_69_code, exceptionTable := #[], attributes := #[] }
def k17m1 : Method := { name := "min", desc := "(II)I", sig := { parameters := [.int, .int], returnType := some .int }, accessFlags := 9, code := some k17c1 }
/-- java/lang/Math -/
def k17 : Class := { plain "java/lang/Math" (some 0) with
  accessFlags := 49
  interfaces := #[]
  cf := some (fileOf pool17 1 #[.nestMembers #[98]] #[{ accessFlags := 2, nameIndex := 7, descriptorIndex := 8, attributes := #[] }, { accessFlags := 9, nameIndex := 201, descriptorIndex := 335, attributes := #[] }] 49 4 #[] #[{ accessFlags := 25, nameIndex := 354, descriptorIndex := 339, attributes := #[] }, { accessFlags := 25, nameIndex := 358, descriptorIndex := 339, attributes := #[] }, { accessFlags := 25, nameIndex := 361, descriptorIndex := 339, attributes := #[] }, { accessFlags := 26, nameIndex := 364, descriptorIndex := 339, attributes := #[] }, { accessFlags := 26, nameIndex := 365, descriptorIndex := 339, attributes := #[] }, { accessFlags := 26, nameIndex := 172, descriptorIndex := 173, attributes := #[] }, { accessFlags := 26, nameIndex := 176, descriptorIndex := 173, attributes := #[] }, { accessFlags := 8, nameIndex := 344, descriptorIndex := 339, attributes := #[] }, { accessFlags := 8, nameIndex := 338, descriptorIndex := 339, attributes := #[] }, { accessFlags := 4120, nameIndex := 245, descriptorIndex := 246, attributes := #[] }])
  fields := #[{ name := "E", type := .double, accessFlags := 25, slot := 0, constantValue := 0 }, { name := "PI", type := .double, accessFlags := 25, slot := 1, constantValue := 0 }, { name := "TAU", type := .double, accessFlags := 25, slot := 2, constantValue := 0 }, { name := "DEGREES_TO_RADIANS", type := .double, accessFlags := 26, slot := 3, constantValue := 0 }, { name := "RADIANS_TO_DEGREES", type := .double, accessFlags := 26, slot := 4, constantValue := 0 }, { name := "negativeZeroFloatBits", type := .long, accessFlags := 26, slot := 5, constantValue := 0 }, { name := "negativeZeroDoubleBits", type := .long, accessFlags := 26, slot := 6, constantValue := 0 }, { name := "twoToTheDoubleScaleUp", type := .double, accessFlags := 8, slot := 7, constantValue := 0 }, { name := "twoToTheDoubleScaleDown", type := .double, accessFlags := 8, slot := 8, constantValue := 0 }, { name := "$assertionsDisabled", type := .boolean, accessFlags := 4120, slot := 9, constantValue := 0 }]
  methods := #[k17m0, k17m1]
  instanceTypes := #[]
  staticTypes := #[.double, .double, .double, .double, .double, .long, .long, .double, .double, .boolean]
  resolved := Array.replicate 460 none
  statics := none }

def pool18 : Array CpInfo := pool [(1, .class_ 2), (0, u "java/lang/String"), (1, .class_ 6), (1, u "java/lang/Object"), (0, u "<init>"), (0, u "()V"), (0, .methodref 1 10), (0, .nameAndType 11 12), (0, u "checkIndex"), (0, u "(II)V"), (1, .class_ 16), (1, u "java/lang/StringLatin1"), (36, u "([BI)C"), (67, u "$assertionsDisabled"), (0, u "Z"), (98, .class_ 223), (1, u "java/lang/StringLatin1$LinesSpliterator"), (28, u "charAt"), (137, .class_ 391), (0, u "java/lang/StringLatin1$CharsSpliterator")] 3

def k18m0 : Method := { name := "<init>", desc := "()V", sig := { parameters := [], returnType := none }, accessFlags := 0, code := none }
def k18c1 : Code := { maxStack := 2, maxLocals := 2, code := jdk_43_method_2_code, exceptionTable := #[], attributes := #[] }
def k18m1 : Method := { name := "charAt", desc := "([BI)C", sig := { parameters := [(.array .byte), .int], returnType := some .char }, accessFlags := 9, code := some k18c1 }
/-- java/lang/StringLatin1 -/
def k18 : Class := { plain "java/lang/StringLatin1" (some 0) with
  accessFlags := 48
  interfaces := #[]
  cf := some (fileOf pool18 14 #[.nestMembers #[390, 221]] #[{ accessFlags := 0, nameIndex := 7, descriptorIndex := 8, attributes := #[] }, { accessFlags := 9, nameIndex := 252, descriptorIndex := 53, attributes := #[] }] 48 4 #[] #[{ accessFlags := 4120, nameIndex := 121, descriptorIndex := 122, attributes := #[] }])
  fields := #[{ name := "$assertionsDisabled", type := .boolean, accessFlags := 4120, slot := 0, constantValue := 0 }]
  methods := #[k18m0, k18m1]
  instanceTypes := #[]
  staticTypes := #[.boolean]
  resolved := Array.replicate 395 none
  statics := none }

def pool19 : Array CpInfo := pool [(2, .class_ 4), (1, u "java/lang/Object"), (0, u "<init>"), (0, u "()V"), (17, .class_ 26), (1, u "jdk/internal/util/Preconditions"), (6, u "checkIndex"), (21, .class_ 56), (0, u "jdk/internal/util/Preconditions$4"), (57, .class_ 115), (0, u "jdk/internal/util/Preconditions$1"), (7, u "SIOOBE_FORMATTER"), (0, u "Ljava/util/function/BiFunction;"), (0, .class_ 126), (0, u "jdk/internal/util/Preconditions$2"), (3, u "AIOOBE_FORMATTER"), (0, .class_ 132), (0, u "jdk/internal/util/Preconditions$3"), (3, u "IOOBE_FORMATTER"), (41, u "(IILjava/util/function/BiFunction;)I")] 15

def k19m0 : Method := { name := "<init>", desc := "()V", sig := { parameters := [], returnType := none }, accessFlags := 1, code := none }
def k19c1 : Code := { maxStack := 3, maxLocals := 3, code := jdk_41_method_11_code, exceptionTable := #[], attributes := #[] }
def k19m1 : Method := { name := "checkIndex", desc := "(IILjava/util/function/BiFunction;)I", sig := { parameters := [.int, .int, (.object "java/util/function/BiFunction")], returnType := some .int }, accessFlags := 9, code := some k19c1 }
/-- jdk/internal/util/Preconditions -/
def k19 : Class := { plain "jdk/internal/util/Preconditions" (some 0) with
  accessFlags := 33
  interfaces := #[]
  cf := some (fileOf pool19 24 #[.nestMembers #[55, 131, 125, 114]] #[{ accessFlags := 1, nameIndex := 5, descriptorIndex := 6, attributes := #[] }, { accessFlags := 9, nameIndex := 33, descriptorIndex := 178, attributes := #[] }] 33 2 #[] #[{ accessFlags := 25, nameIndex := 123, descriptorIndex := 124, attributes := #[] }, { accessFlags := 25, nameIndex := 130, descriptorIndex := 124, attributes := #[] }, { accessFlags := 25, nameIndex := 136, descriptorIndex := 124, attributes := #[] }])
  fields := #[{ name := "SIOOBE_FORMATTER", type := (.object "java/util/function/BiFunction"), accessFlags := 25, slot := 0, constantValue := 0 }, { name := "AIOOBE_FORMATTER", type := (.object "java/util/function/BiFunction"), accessFlags := 25, slot := 1, constantValue := 0 }, { name := "IOOBE_FORMATTER", type := (.object "java/util/function/BiFunction"), accessFlags := 25, slot := 2, constantValue := 0 }]
  methods := #[k19m0, k19m1]
  instanceTypes := #[]
  staticTypes := #[(.object "java/util/function/BiFunction"), (.object "java/util/function/BiFunction"), (.object "java/util/function/BiFunction")]
  resolved := Array.replicate 194 none
  statics := some 2 }

def pool20 : Array CpInfo := pool [(9, u "<init>"), (6, .class_ 18), (1, u "java/lang/Object"), (0, u "()V"), (1, .class_ 23), (1, u "jdk/internal/util/ArraysSupport"), (0, u "LOG2_ARRAY_LONG_INDEX_SCALE"), (0, u "I"), (2, u "U"), (0, u "Ljdk/internal/misc/Unsafe;"), (8, u "BIG_ENDIAN"), (0, u "Z"), (8, u "LOG2_BYTE_BIT_SIZE"), (4, u "LOG2_ARRAY_INT_INDEX_SCALE"), (54, u "JLA"), (0, u "Ljdk/internal/access/JavaLangAccess;"), (11, u "LOG2_ARRAY_BOOLEAN_INDEX_SCALE"), (9, u "LOG2_ARRAY_BYTE_INDEX_SCALE"), (5, u "LOG2_ARRAY_CHAR_INDEX_SCALE"), (5, u "LOG2_ARRAY_SHORT_INDEX_SCALE"), (18, u "LOG2_ARRAY_FLOAT_INDEX_SCALE"), (24, u "LOG2_ARRAY_DOUBLE_INDEX_SCALE"), (89, u "T_BOOLEAN"), (2, u "T_CHAR"), (1, u "T_FLOAT"), (1, u "T_DOUBLE"), (1, u "T_BYTE"), (1, u "T_SHORT"), (1, u "T_INT"), (1, u "T_LONG"), (1, u "SOFT_MAX_ARRAY_LENGTH")] 83

def k20m0 : Method := { name := "<init>", desc := "()V", sig := { parameters := [], returnType := none }, accessFlags := 2, code := none }
/-- jdk/internal/util/ArraysSupport -/
def k20 : Class := { plain "jdk/internal/util/ArraysSupport" (some 0) with
  accessFlags := 33
  interfaces := #[]
  cf := some (fileOf pool20 21 #[] #[{ accessFlags := 2, nameIndex := 9, descriptorIndex := 19, attributes := #[] }] 33 16 #[] #[{ accessFlags := 24, nameIndex := 28, descriptorIndex := 29, attributes := #[] }, { accessFlags := 26, nameIndex := 38, descriptorIndex := 39, attributes := #[] }, { accessFlags := 25, nameIndex := 121, descriptorIndex := 25, attributes := #[] }, { accessFlags := 25, nameIndex := 131, descriptorIndex := 25, attributes := #[] }, { accessFlags := 25, nameIndex := 137, descriptorIndex := 25, attributes := #[] }, { accessFlags := 25, nameIndex := 143, descriptorIndex := 25, attributes := #[] }, { accessFlags := 25, nameIndex := 53, descriptorIndex := 25, attributes := #[] }, { accessFlags := 25, nameIndex := 24, descriptorIndex := 25, attributes := #[] }, { accessFlags := 25, nameIndex := 162, descriptorIndex := 25, attributes := #[] }, { accessFlags := 25, nameIndex := 187, descriptorIndex := 25, attributes := #[] }, { accessFlags := 26, nameIndex := 48, descriptorIndex := 25, attributes := #[] }, { accessFlags := 25, nameIndex := 277, descriptorIndex := 25, attributes := #[] }, { accessFlags := 25, nameIndex := 280, descriptorIndex := 25, attributes := #[] }, { accessFlags := 25, nameIndex := 282, descriptorIndex := 25, attributes := #[] }, { accessFlags := 25, nameIndex := 284, descriptorIndex := 25, attributes := #[] }, { accessFlags := 25, nameIndex := 286, descriptorIndex := 25, attributes := #[] }, { accessFlags := 25, nameIndex := 288, descriptorIndex := 25, attributes := #[] }, { accessFlags := 25, nameIndex := 290, descriptorIndex := 25, attributes := #[] }, { accessFlags := 25, nameIndex := 292, descriptorIndex := 25, attributes := #[] }, { accessFlags := 26, nameIndex := 108, descriptorIndex := 109, attributes := #[] }, { accessFlags := 25, nameIndex := 294, descriptorIndex := 25, attributes := #[] }])
  fields := #[{ name := "U", type := (.object "jdk/internal/misc/Unsafe"), accessFlags := 24, slot := 0, constantValue := 0 }, { name := "BIG_ENDIAN", type := .boolean, accessFlags := 26, slot := 1, constantValue := 0 }, { name := "LOG2_ARRAY_BOOLEAN_INDEX_SCALE", type := .int, accessFlags := 25, slot := 2, constantValue := 0 }, { name := "LOG2_ARRAY_BYTE_INDEX_SCALE", type := .int, accessFlags := 25, slot := 3, constantValue := 0 }, { name := "LOG2_ARRAY_CHAR_INDEX_SCALE", type := .int, accessFlags := 25, slot := 4, constantValue := 0 }, { name := "LOG2_ARRAY_SHORT_INDEX_SCALE", type := .int, accessFlags := 25, slot := 5, constantValue := 0 }, { name := "LOG2_ARRAY_INT_INDEX_SCALE", type := .int, accessFlags := 25, slot := 6, constantValue := 0 }, { name := "LOG2_ARRAY_LONG_INDEX_SCALE", type := .int, accessFlags := 25, slot := 7, constantValue := 0 }, { name := "LOG2_ARRAY_FLOAT_INDEX_SCALE", type := .int, accessFlags := 25, slot := 8, constantValue := 0 }, { name := "LOG2_ARRAY_DOUBLE_INDEX_SCALE", type := .int, accessFlags := 25, slot := 9, constantValue := 0 }, { name := "LOG2_BYTE_BIT_SIZE", type := .int, accessFlags := 26, slot := 10, constantValue := 0 }, { name := "T_BOOLEAN", type := .int, accessFlags := 25, slot := 11, constantValue := 0 }, { name := "T_CHAR", type := .int, accessFlags := 25, slot := 12, constantValue := 0 }, { name := "T_FLOAT", type := .int, accessFlags := 25, slot := 13, constantValue := 0 }, { name := "T_DOUBLE", type := .int, accessFlags := 25, slot := 14, constantValue := 0 }, { name := "T_BYTE", type := .int, accessFlags := 25, slot := 15, constantValue := 0 }, { name := "T_SHORT", type := .int, accessFlags := 25, slot := 16, constantValue := 0 }, { name := "T_INT", type := .int, accessFlags := 25, slot := 17, constantValue := 0 }, { name := "T_LONG", type := .int, accessFlags := 25, slot := 18, constantValue := 0 }, { name := "JLA", type := (.object "jdk/internal/access/JavaLangAccess"), accessFlags := 26, slot := 19, constantValue := 0 }, { name := "SOFT_MAX_ARRAY_LENGTH", type := .int, accessFlags := 25, slot := 20, constantValue := 0 }]
  methods := #[k20m0]
  instanceTypes := #[]
  staticTypes := #[(.object "jdk/internal/misc/Unsafe"), .boolean, .int, .int, .int, .int, .int, .int, .int, .int, .int, .int, .int, .int, .int, .int, .int, .int, .int, (.object "jdk/internal/access/JavaLangAccess"), .int]
  resolved := Array.replicate 378 none
  statics := none }

def pool21 : Array CpInfo := pool [(1, u "java/lang/Cloneable"), (0, .class_ 1), (0, u "java/lang/Object"), (0, .class_ 3)] 3

/-- java/lang/Cloneable -/
def k21 : Class := { plain "java/lang/Cloneable" (some 0) with
  accessFlags := 1537
  interfaces := #[]
  cf := some (fileOf pool21 2 #[] #[] 1537 4 #[] #[])
  fields := #[]
  methods := #[]
  instanceTypes := #[]
  staticTypes := #[]
  resolved := Array.replicate 8 none
  statics := none }

/-- the primitive byte -/
def k22 : Class := { plain "byte" none with kind := .primitive 'B', accessFlags := 0x411 }
/-- [B -/
def k23 : Class := { plain "[B" (some 0) with kind := .array 22 .byte, interfaces := #[21, 7], accessFlags := 1041 }

/-- the primitive int -/
def k24 : Class := { plain "int" none with kind := .primitive 'I', accessFlags := 0x411 }
/-- [I -/
def k25 : Class := { plain "[I" (some 0) with kind := .array 24 .int, interfaces := #[21, 7], accessFlags := 1041 }

def heap : Heap := #[{ cls := 12, slots := #[.long 0, .int 1, .null, .int 0, .null, .int 0, .int 0], vm := .statics 12 },
  { cls := 14, slots := #[.int 0, .int 0, .null, .null, .ref 4, .ref 3, .int 0, .int 0, .long 0], vm := .statics 14 },
  { cls := 19, slots := #[.null, .null, .null], vm := .statics 19 },
  { cls := 23, slots := #[.int 48, .int 49, .int 50, .int 51, .int 52, .int 53, .int 54, .int 55, .int 56, .int 57, .int 48, .int 49, .int 50, .int 51, .int 52, .int 53, .int 54, .int 55, .int 56, .int 57, .int 48, .int 49, .int 50, .int 51, .int 52, .int 53, .int 54, .int 55, .int 56, .int 57, .int 48, .int 49, .int 50, .int 51, .int 52, .int 53, .int 54, .int 55, .int 56, .int 57, .int 48, .int 49, .int 50, .int 51, .int 52, .int 53, .int 54, .int 55, .int 56, .int 57, .int 48, .int 49, .int 50, .int 51, .int 52, .int 53, .int 54, .int 55, .int 56, .int 57, .int 48, .int 49, .int 50, .int 51, .int 52, .int 53, .int 54, .int 55, .int 56, .int 57, .int 48, .int 49, .int 50, .int 51, .int 52, .int 53, .int 54, .int 55, .int 56, .int 57, .int 48, .int 49, .int 50, .int 51, .int 52, .int 53, .int 54, .int 55, .int 56, .int 57, .int 48, .int 49, .int 50, .int 51, .int 52, .int 53, .int 54, .int 55, .int 56, .int 57], vm := .none },
  { cls := 23, slots := #[.int 48, .int 48, .int 48, .int 48, .int 48, .int 48, .int 48, .int 48, .int 48, .int 48, .int 49, .int 49, .int 49, .int 49, .int 49, .int 49, .int 49, .int 49, .int 49, .int 49, .int 50, .int 50, .int 50, .int 50, .int 50, .int 50, .int 50, .int 50, .int 50, .int 50, .int 51, .int 51, .int 51, .int 51, .int 51, .int 51, .int 51, .int 51, .int 51, .int 51, .int 52, .int 52, .int 52, .int 52, .int 52, .int 52, .int 52, .int 52, .int 52, .int 52, .int 53, .int 53, .int 53, .int 53, .int 53, .int 53, .int 53, .int 53, .int 53, .int 53, .int 54, .int 54, .int 54, .int 54, .int 54, .int 54, .int 54, .int 54, .int 54, .int 54, .int 55, .int 55, .int 55, .int 55, .int 55, .int 55, .int 55, .int 55, .int 55, .int 55, .int 56, .int 56, .int 56, .int 56, .int 56, .int 56, .int 56, .int 56, .int 56, .int 56, .int 57, .int 57, .int 57, .int 57, .int 57, .int 57, .int 57, .int 57, .int 57, .int 57], vm := .none }]
def classes : Array Class := #[k0, k1, k2, k3, k4, k5, k6, k7, k8, k9, k10, k11, k12, k13, k14, k15, k16, k17, k18, k19, k20, k21, k22, k23, k24, k25]
def interned : List (Array UInt16 × Addr) := []
def slotsUsed : Nat := 219
def theMethod : MethodId := ⟨1, 1⟩
def args0 : Array Value := #[.int 5, .int 1]
def aboutOver (below : List Frame) : State where
  vm := { classes := classes, interned := interned.toArray }
  heap := heap
  slotsUsed := slotsUsed
  threads := #[{ frames := .invoking theMethod args0 :: below }]
def below0 : List Frame := [.native { method := ⟨0, 0⟩, args := #[] }]
def about1 : State := aboutOver below0
def p0 : Program := .bare "" "" ""
def e0 : Env := launch0.env 0 0 0
theorem w_frames : about1.frames = Frame.invoking theMethod args0 :: below0 := rfl
set_option maxRecDepth 65536 in
theorem w_args : argsFit about1.vm theMethod args0 = true := by decide +kernel
set_option maxRecDepth 65536 in
theorem w_heap : heapFits about1 = true := by decide +kernel
set_option maxRecDepth 65536 in
theorem w_runnable : about1.curStatus? = some .runnable := by decide +kernel
set_option maxRecDepth 65536 in
theorem w_alone : about1.alone = true := by decide +kernel
set_option maxRecDepth 65536 in
theorem w_named : about1.methodNamed? x = some theMethod := by decide +kernel
set_option maxRecDepth 65536 in
theorem w_hears : about1.hears theMethod below0 = true := by decide +kernel
set_option maxRecDepth 65536 in
theorem w_ripe : about1.ripe theMethod args0 below0 = true := by decide +kernel
theorem w_running : about1.status = .running := rfl
set_option maxRecDepth 65536 in
theorem w_room : about1.hasRoom e0.platform room_1 = true :=
  launch0.hasRoom_least _ room_1 (by decide +kernel) (by decide +kernel) (by decide +kernel) (by decide +kernel) (by decide +kernel) (by decide +kernel)
theorem allAtoms_all (ts : List Jvm.Cond) (a : Array Jvm.Value) (st : Jvm.State) : (allAtoms ts).before a st = ts.all (fun c => c.before a st) := by
  induction ts with
  | nil => rfl
  | cons c t ih =>
    show (Jvm.Cond.and c (allAtoms t)).before a st = _
    rw [Jvm.Cond.before_and, ih, List.all_cons]
def words1 : List Jvm.Cond := Jvm.Cond.code x code maxLocals ret :: tables_1
/-- a 'code' word, met by the world's own term for the bytes: nothing is compared byte by byte -/
theorem code_word {y : MethodName} {bytes : ByteArray} {mx : Nat} {rt : Option FieldType} {a : Array Value} {s : State} {m : MethodId} {meth : Method} {c : Code} (h1 : s.methodNamed? y = some m) (h2 : s.vm.method? m = some meth) (h3 : meth.code = some c) (h4 : c.code = bytes)
    (h5 : (c.maxLocals == mx && c.exceptionTable.isEmpty && decide (c.maxStack ≤ mostOperands) && decide (meth.sig.returnType = rt) && !meth.locks && decide (parseMethodDescriptor y.desc = some meth.sig)) = true) : (Jvm.Cond.code y bytes mx rt).before a s = true := by
  simp only [Bool.and_eq_true, beq_iff_eq, Bool.not_eq_true', decide_eq_true_eq] at h5
  obtain ⟨⟨⟨⟨⟨g1, g2⟩, g3⟩, g4⟩, g5⟩, g6⟩ := h5
  simp [Cond.before, Cond.holds, Cond.value, h1, h2, h3, h4, g1, g2, g3, g4, g5, g6]
def isCode : Jvm.Cond → Bool
  | .code _ _ _ _ => true
  | _ => false
theorem all_split {L : List Jvm.Cond} {P : Jvm.Cond → Bool} (h1 : L.all (fun c => isCode c || P c) = true) (h2 : ∀ c ∈ L.filter isCode, P c = true) : L.all P = true := by
  refine List.all_eq_true.mpr fun c hc => ?_
  have h := List.all_eq_true.mp h1 c hc
  rcases Bool.eq_false_or_eq_true (isCode c) with hi | hi
  · exact h2 c (List.mem_filter.mpr ⟨hc, hi⟩)
  · simpa [hi] using h
set_option maxRecDepth 65536 in
theorem w_c0 : (Jvm.Cond.code x code maxLocals ret).before args0 about1 = true := code_word (m := ⟨1, 1⟩) (meth := k1m1) (c := k1c1) (by decide +kernel) rfl rfl rfl (by decide +kernel)
set_option maxRecDepth 65536 in
theorem w_c1 : (Jvm.Cond.code ({ cls := "org/hourbook/calendar/HourEnding", name := "<init>", desc := "(IZ)V" } : Jvm.MethodName) prog_6_method_1_code (3 : Nat) (Option.none : Option Jvm.ClassFile.FieldType)).before args0 about1 = true := code_word (m := ⟨3, 0⟩) (meth := k3m0) (c := k3c0) (by decide +kernel) rfl rfl rfl (by decide +kernel)
set_option maxRecDepth 65536 in
theorem w_c2 : (Jvm.Cond.code ({ cls := "java/lang/Record", name := "<init>", desc := "()V" } : Jvm.MethodName) jdk_30_method_1_code (1 : Nat) (Option.none : Option Jvm.ClassFile.FieldType)).before args0 about1 = true := code_word (m := ⟨2, 0⟩) (meth := k2m0) (c := k2c0) (by decide +kernel) rfl rfl rfl (by decide +kernel)
set_option maxRecDepth 65536 in
theorem w_c3 : (Jvm.Cond.code ({ cls := "java/lang/Object", name := "<init>", desc := "()V" } : Jvm.MethodName) object_method_1_code (1 : Nat) (Option.none : Option Jvm.ClassFile.FieldType)).before args0 about1 = true := code_word (m := ⟨0, 0⟩) (meth := k0m0) (c := k0c0) (by decide +kernel) rfl rfl rfl (by decide +kernel)
set_option maxRecDepth 65536 in
theorem w_c4 : (Jvm.Cond.code ({ cls := "org/hourbook/calendar/HourEnding", name := "label", desc := "()Ljava/lang/String;" } : Jvm.MethodName) prog_6_method_2_code (1 : Nat) (Option.some (Jvm.ClassFile.FieldType.object "java/lang/String"))).before args0 about1 = true := code_word (m := ⟨3, 1⟩) (meth := k3m1) (c := k3c1) (by decide +kernel) rfl rfl rfl (by decide +kernel)
set_option maxRecDepth 65536 in
theorem w_c5 : (Jvm.Cond.code ({ cls := "java/lang/StringBuilder", name := "<init>", desc := "()V" } : Jvm.MethodName) jdk_67_method_1_code (1 : Nat) (Option.none : Option Jvm.ClassFile.FieldType)).before args0 about1 = true := code_word (m := ⟨9, 0⟩) (meth := k9m0) (c := k9c0) (by decide +kernel) rfl rfl rfl (by decide +kernel)
set_option maxRecDepth 65536 in
theorem w_c6 : (Jvm.Cond.code ({ cls := "java/lang/AbstractStringBuilder", name := "<init>", desc := "(I)V" } : Jvm.MethodName) jdk_68_method_2_code (2 : Nat) (Option.none : Option Jvm.ClassFile.FieldType)).before args0 about1 = true := code_word (m := ⟨6, 1⟩) (meth := k6m1) (c := k6c1) (by decide +kernel) rfl rfl rfl (by decide +kernel)
set_option maxRecDepth 65536 in
theorem w_c7 : (Jvm.Cond.code ({ cls := "java/lang/StringBuilder", name := "append", desc := "(I)Ljava/lang/StringBuilder;" } : Jvm.MethodName) jdk_67_method_15_code (2 : Nat) (Option.some (Jvm.ClassFile.FieldType.object "java/lang/StringBuilder"))).before args0 about1 = true := code_word (m := ⟨9, 2⟩) (meth := k9m2) (c := k9c2) (by decide +kernel) rfl rfl rfl (by decide +kernel)
set_option maxRecDepth 65536 in
theorem w_c8 : (Jvm.Cond.code ({ cls := "java/lang/AbstractStringBuilder", name := "append", desc := "(I)Ljava/lang/AbstractStringBuilder;" } : Jvm.MethodName) jdk_68_method_32_code (4 : Nat) (Option.some (Jvm.ClassFile.FieldType.object "java/lang/AbstractStringBuilder"))).before args0 about1 = true := code_word (m := ⟨6, 5⟩) (meth := k6m5) (c := k6c5) (by decide +kernel) rfl rfl rfl (by decide +kernel)
set_option maxRecDepth 65536 in
theorem w_c9 : (Jvm.Cond.code ({ cls := "java/lang/Integer", name := "stringSize", desc := "(I)I" } : Jvm.MethodName) jdk_33_method_13_code (4 : Nat) (Option.some Jvm.ClassFile.FieldType.int)).before args0 about1 = true := code_word (m := ⟨14, 2⟩) (meth := k14m2) (c := k14c2) (by decide +kernel) rfl rfl rfl (by decide +kernel)
set_option maxRecDepth 65536 in
theorem w_c10 : (Jvm.Cond.code ({ cls := "java/lang/AbstractStringBuilder", name := "ensureCapacityInternal", desc := "(I)V" } : Jvm.MethodName) jdk_68_method_9_code (3 : Nat) (Option.none : Option Jvm.ClassFile.FieldType)).before args0 about1 = true := code_word (m := ⟨6, 3⟩) (meth := k6m3) (c := k6c3) (by decide +kernel) rfl rfl rfl (by decide +kernel)
set_option maxRecDepth 65536 in
theorem w_c11 : (Jvm.Cond.code ({ cls := "java/lang/AbstractStringBuilder", name := "isLatin1", desc := "()Z" } : Jvm.MethodName) jdk_68_method_68_code (1 : Nat) (Option.some Jvm.ClassFile.FieldType.boolean)).before args0 about1 = true := code_word (m := ⟨6, 7⟩) (meth := k6m7) (c := k6c7) (by decide +kernel) rfl rfl rfl (by decide +kernel)
set_option maxRecDepth 65536 in
theorem w_c12 : (Jvm.Cond.code ({ cls := "java/lang/Integer", name := "getChars", desc := "(II[B)I" } : Jvm.MethodName) jdk_33_method_12_code (7 : Nat) (Option.some Jvm.ClassFile.FieldType.int)).before args0 about1 = true := code_word (m := ⟨14, 1⟩) (meth := k14m1) (c := k14c1) (by decide +kernel) rfl rfl rfl (by decide +kernel)
set_option maxRecDepth 65536 in
theorem w_c13 : (Jvm.Cond.code ({ cls := "java/lang/StringBuilder", name := "append", desc := "(Ljava/lang/String;)Ljava/lang/StringBuilder;" } : Jvm.MethodName) jdk_67_method_7_code (2 : Nat) (Option.some (Jvm.ClassFile.FieldType.object "java/lang/StringBuilder"))).before args0 about1 = true := code_word (m := ⟨9, 1⟩) (meth := k9m1) (c := k9c1) (by decide +kernel) rfl rfl rfl (by decide +kernel)
set_option maxRecDepth 65536 in
theorem w_c14 : (Jvm.Cond.code ({ cls := "java/lang/AbstractStringBuilder", name := "append", desc := "(Ljava/lang/String;)Ljava/lang/AbstractStringBuilder;" } : Jvm.MethodName) jdk_68_method_22_code (3 : Nat) (Option.some (Jvm.ClassFile.FieldType.object "java/lang/AbstractStringBuilder"))).before args0 about1 = true := code_word (m := ⟨6, 4⟩) (meth := k6m4) (c := k6c4) (by decide +kernel) rfl rfl rfl (by decide +kernel)
set_option maxRecDepth 65536 in
theorem w_c15 : (Jvm.Cond.code ({ cls := "java/lang/String", name := "length", desc := "()I" } : Jvm.MethodName) jdk_42_method_54_code (1 : Nat) (Option.some Jvm.ClassFile.FieldType.int)).before args0 about1 = true := code_word (m := ⟨12, 2⟩) (meth := k12m2) (c := k12c2) (by decide +kernel) rfl rfl rfl (by decide +kernel)
set_option maxRecDepth 65536 in
theorem w_c16 : (Jvm.Cond.code ({ cls := "java/lang/String", name := "coder", desc := "()B" } : Jvm.MethodName) jdk_42_method_152_code (1 : Nat) (Option.some Jvm.ClassFile.FieldType.byte)).before args0 about1 = true := code_word (m := ⟨12, 7⟩) (meth := k12m7) (c := k12c7) (by decide +kernel) rfl rfl rfl (by decide +kernel)
set_option maxRecDepth 65536 in
theorem w_c17 : (Jvm.Cond.code ({ cls := "java/lang/AbstractStringBuilder", name := "putStringAt", desc := "(ILjava/lang/String;)V" } : Jvm.MethodName) jdk_68_method_73_code (3 : Nat) (Option.none : Option Jvm.ClassFile.FieldType)).before args0 about1 = true := code_word (m := ⟨6, 9⟩) (meth := k6m9) (c := k6c9) (by decide +kernel) rfl rfl rfl (by decide +kernel)
set_option maxRecDepth 65536 in
theorem w_c18 : (Jvm.Cond.code ({ cls := "java/lang/AbstractStringBuilder", name := "inflateIfNeededFor", desc := "(Ljava/lang/String;)V" } : Jvm.MethodName) jdk_68_method_71_code (2 : Nat) (Option.none : Option Jvm.ClassFile.FieldType)).before args0 about1 = true := code_word (m := ⟨6, 8⟩) (meth := k6m8) (c := k6c8) (by decide +kernel) rfl rfl rfl (by decide +kernel)
set_option maxRecDepth 65536 in
theorem w_c19 : (Jvm.Cond.code ({ cls := "java/lang/String", name := "getBytes", desc := "([BIB)V" } : Jvm.MethodName) jdk_42_method_147_code (4 : Nat) (Option.none : Option Jvm.ClassFile.FieldType)).before args0 about1 = true := code_word (m := ⟨12, 4⟩) (meth := k12m4) (c := k12c4) (by decide +kernel) rfl rfl rfl (by decide +kernel)
set_option maxRecDepth 65536 in
theorem w_c20 : (Jvm.Cond.code ({ cls := "java/lang/StringBuilder", name := "toString", desc := "()Ljava/lang/String;" } : Jvm.MethodName) jdk_67_method_42_code (1 : Nat) (Option.some (Jvm.ClassFile.FieldType.object "java/lang/String"))).before args0 about1 = true := code_word (m := ⟨9, 3⟩) (meth := k9m3) (c := k9c3) (by decide +kernel) rfl rfl rfl (by decide +kernel)
set_option maxRecDepth 65536 in
theorem w_c21 : (Jvm.Cond.code ({ cls := "java/lang/String", name := "<init>", desc := "(Ljava/lang/StringBuilder;)V" } : Jvm.MethodName) jdk_42_method_53_code (2 : Nat) (Option.none : Option Jvm.ClassFile.FieldType)).before args0 about1 = true := code_word (m := ⟨12, 1⟩) (meth := k12m1) (c := k12c1) (by decide +kernel) rfl rfl rfl (by decide +kernel)
set_option maxRecDepth 65536 in
theorem w_c22 : (Jvm.Cond.code ({ cls := "java/lang/String", name := "<init>", desc := "(Ljava/lang/AbstractStringBuilder;Ljava/lang/Void;)V" } : Jvm.MethodName) jdk_42_method_150_code (5 : Nat) (Option.none : Option Jvm.ClassFile.FieldType)).before args0 about1 = true := code_word (m := ⟨12, 5⟩) (meth := k12m5) (c := k12c5) (by decide +kernel) rfl rfl rfl (by decide +kernel)
set_option maxRecDepth 65536 in
theorem w_c23 : (Jvm.Cond.code ({ cls := "java/lang/AbstractStringBuilder", name := "getValue", desc := "()[B" } : Jvm.MethodName) jdk_68_method_64_code (1 : Nat) (Option.some (Jvm.ClassFile.FieldType.array Jvm.ClassFile.FieldType.byte))).before args0 about1 = true := code_word (m := ⟨6, 6⟩) (meth := k6m6) (c := k6c6) (by decide +kernel) rfl rfl rfl (by decide +kernel)
set_option maxRecDepth 65536 in
theorem w_c24 : (Jvm.Cond.code ({ cls := "java/lang/StringBuilder", name := "length", desc := "()I" } : Jvm.MethodName) jdk_67_method_93_code (1 : Nat) (Option.some Jvm.ClassFile.FieldType.int)).before args0 about1 = true := code_word (m := ⟨9, 4⟩) (meth := k9m4) (c := k9c4) (by decide +kernel) rfl rfl rfl (by decide +kernel)
set_option maxRecDepth 65536 in
theorem w_c25 : (Jvm.Cond.code ({ cls := "java/lang/AbstractStringBuilder", name := "length", desc := "()I" } : Jvm.MethodName) jdk_68_method_6_code (1 : Nat) (Option.some Jvm.ClassFile.FieldType.int)).before args0 about1 = true := code_word (m := ⟨6, 2⟩) (meth := k6m2) (c := k6c2) (by decide +kernel) rfl rfl rfl (by decide +kernel)
set_option maxRecDepth 65536 in
theorem w_c26 : (Jvm.Cond.code ({ cls := "java/util/Arrays", name := "copyOfRange", desc := "([BII)[B" } : Jvm.MethodName) jdk_65_method_132_code (3 : Nat) (Option.some (Jvm.ClassFile.FieldType.array Jvm.ClassFile.FieldType.byte))).before args0 about1 = true := code_word (m := ⟨16, 2⟩) (meth := k16m2) (c := k16c2) (by decide +kernel) rfl rfl rfl (by decide +kernel)
set_option maxRecDepth 65536 in
theorem w_c27 : (Jvm.Cond.code ({ cls := "java/util/Arrays", name := "copyOfRangeByte", desc := "([BII)[B" } : Jvm.MethodName) jdk_65_method_133_code (5 : Nat) (Option.some (Jvm.ClassFile.FieldType.array Jvm.ClassFile.FieldType.byte))).before args0 about1 = true := code_word (m := ⟨16, 3⟩) (meth := k16m3) (c := k16c3) (by decide +kernel) rfl rfl rfl (by decide +kernel)
set_option maxRecDepth 65536 in
theorem w_c28 : (Jvm.Cond.code ({ cls := "java/util/Arrays", name := "checkLength", desc := "(II)V" } : Jvm.MethodName) jdk_65_method_131_code (2 : Nat) (Option.none : Option Jvm.ClassFile.FieldType)).before args0 about1 = true := code_word (m := ⟨16, 1⟩) (meth := k16m1) (c := k16c1) (by decide +kernel) rfl rfl rfl (by decide +kernel)
set_option maxRecDepth 65536 in
theorem w_c29 : (Jvm.Cond.code ({ cls := "java/lang/Math", name := "min", desc := "(II)I" } : Jvm.MethodName) jdk_29_method_69_code (2 : Nat) (Option.some Jvm.ClassFile.FieldType.int)).before args0 about1 = true := code_word (m := ⟨17, 1⟩) (meth := k17m1) (c := k17c1) (by decide +kernel) rfl rfl rfl (by decide +kernel)
set_option maxRecDepth 65536 in
theorem w_c30 : (Jvm.Cond.code ({ cls := "java/lang/String", name := "charAt", desc := "(I)C" } : Jvm.MethodName) jdk_42_method_56_code (2 : Nat) (Option.some Jvm.ClassFile.FieldType.char)).before args0 about1 = true := code_word (m := ⟨12, 3⟩) (meth := k12m3) (c := k12c3) (by decide +kernel) rfl rfl rfl (by decide +kernel)
set_option maxRecDepth 65536 in
theorem w_c31 : (Jvm.Cond.code ({ cls := "java/lang/String", name := "isLatin1", desc := "()Z" } : Jvm.MethodName) jdk_42_method_154_code (1 : Nat) (Option.some Jvm.ClassFile.FieldType.boolean)).before args0 about1 = true := code_word (m := ⟨12, 8⟩) (meth := k12m8) (c := k12c8) (by decide +kernel) rfl rfl rfl (by decide +kernel)
set_option maxRecDepth 65536 in
theorem w_c32 : (Jvm.Cond.code ({ cls := "java/lang/StringLatin1", name := "charAt", desc := "([BI)C" } : Jvm.MethodName) jdk_43_method_2_code (2 : Nat) (Option.some Jvm.ClassFile.FieldType.char)).before args0 about1 = true := code_word (m := ⟨18, 1⟩) (meth := k18m1) (c := k18c1) (by decide +kernel) rfl rfl rfl (by decide +kernel)
set_option maxRecDepth 65536 in
theorem w_c33 : (Jvm.Cond.code ({ cls := "java/lang/String", name := "checkIndex", desc := "(II)V" } : Jvm.MethodName) jdk_42_method_155_code (2 : Nat) (Option.none : Option Jvm.ClassFile.FieldType)).before args0 about1 = true := code_word (m := ⟨12, 9⟩) (meth := k12m9) (c := k12c9) (by decide +kernel) rfl rfl rfl (by decide +kernel)
set_option maxRecDepth 65536 in
theorem w_c34 : (Jvm.Cond.code ({ cls := "jdk/internal/util/Preconditions", name := "checkIndex", desc := "(IILjava/util/function/BiFunction;)I" } : Jvm.MethodName) jdk_41_method_11_code (3 : Nat) (Option.some Jvm.ClassFile.FieldType.int)).before args0 about1 = true := code_word (m := ⟨19, 1⟩) (meth := k19m1) (c := k19c1) (by decide +kernel) rfl rfl rfl (by decide +kernel)
set_option maxRecDepth 65536 in
theorem w_c35 : (Jvm.Cond.code ({ cls := "java/lang/Integer", name := "toString", desc := "(I)Ljava/lang/String;" } : Jvm.MethodName) jdk_33_method_10_code (3 : Nat) (Option.some (Jvm.ClassFile.FieldType.object "java/lang/String"))).before args0 about1 = true := code_word (m := ⟨14, 0⟩) (meth := k14m0) (c := k14c0) (by decide +kernel) rfl rfl rfl (by decide +kernel)
set_option maxRecDepth 65536 in
theorem w_c36 : (Jvm.Cond.code ({ cls := "java/lang/String", name := "<init>", desc := "([BB)V" } : Jvm.MethodName) jdk_42_method_151_code (3 : Nat) (Option.none : Option Jvm.ClassFile.FieldType)).before args0 about1 = true := code_word (m := ⟨12, 6⟩) (meth := k12m6) (c := k12c6) (by decide +kernel) rfl rfl rfl (by decide +kernel)
def codes1 : List Jvm.Cond := [Jvm.Cond.code x code maxLocals ret, Jvm.Cond.code ({ cls := "org/hourbook/calendar/HourEnding", name := "<init>", desc := "(IZ)V" } : Jvm.MethodName) prog_6_method_1_code (3 : Nat) (Option.none : Option Jvm.ClassFile.FieldType), Jvm.Cond.code ({ cls := "java/lang/Record", name := "<init>", desc := "()V" } : Jvm.MethodName) jdk_30_method_1_code (1 : Nat) (Option.none : Option Jvm.ClassFile.FieldType), Jvm.Cond.code ({ cls := "java/lang/Object", name := "<init>", desc := "()V" } : Jvm.MethodName) object_method_1_code (1 : Nat) (Option.none : Option Jvm.ClassFile.FieldType), Jvm.Cond.code ({ cls := "org/hourbook/calendar/HourEnding", name := "label", desc := "()Ljava/lang/String;" } : Jvm.MethodName) prog_6_method_2_code (1 : Nat) (Option.some (Jvm.ClassFile.FieldType.object "java/lang/String")), Jvm.Cond.code ({ cls := "java/lang/StringBuilder", name := "<init>", desc := "()V" } : Jvm.MethodName) jdk_67_method_1_code (1 : Nat) (Option.none : Option Jvm.ClassFile.FieldType), Jvm.Cond.code ({ cls := "java/lang/AbstractStringBuilder", name := "<init>", desc := "(I)V" } : Jvm.MethodName) jdk_68_method_2_code (2 : Nat) (Option.none : Option Jvm.ClassFile.FieldType), Jvm.Cond.code ({ cls := "java/lang/StringBuilder", name := "append", desc := "(I)Ljava/lang/StringBuilder;" } : Jvm.MethodName) jdk_67_method_15_code (2 : Nat) (Option.some (Jvm.ClassFile.FieldType.object "java/lang/StringBuilder")), Jvm.Cond.code ({ cls := "java/lang/AbstractStringBuilder", name := "append", desc := "(I)Ljava/lang/AbstractStringBuilder;" } : Jvm.MethodName) jdk_68_method_32_code (4 : Nat) (Option.some (Jvm.ClassFile.FieldType.object "java/lang/AbstractStringBuilder")), Jvm.Cond.code ({ cls := "java/lang/Integer", name := "stringSize", desc := "(I)I" } : Jvm.MethodName) jdk_33_method_13_code (4 : Nat) (Option.some Jvm.ClassFile.FieldType.int), Jvm.Cond.code ({ cls := "java/lang/AbstractStringBuilder", name := "ensureCapacityInternal", desc := "(I)V" } : Jvm.MethodName) jdk_68_method_9_code (3 : Nat) (Option.none : Option Jvm.ClassFile.FieldType), Jvm.Cond.code ({ cls := "java/lang/AbstractStringBuilder", name := "isLatin1", desc := "()Z" } : Jvm.MethodName) jdk_68_method_68_code (1 : Nat) (Option.some Jvm.ClassFile.FieldType.boolean), Jvm.Cond.code ({ cls := "java/lang/Integer", name := "getChars", desc := "(II[B)I" } : Jvm.MethodName) jdk_33_method_12_code (7 : Nat) (Option.some Jvm.ClassFile.FieldType.int), Jvm.Cond.code ({ cls := "java/lang/StringBuilder", name := "append", desc := "(Ljava/lang/String;)Ljava/lang/StringBuilder;" } : Jvm.MethodName) jdk_67_method_7_code (2 : Nat) (Option.some (Jvm.ClassFile.FieldType.object "java/lang/StringBuilder")), Jvm.Cond.code ({ cls := "java/lang/AbstractStringBuilder", name := "append", desc := "(Ljava/lang/String;)Ljava/lang/AbstractStringBuilder;" } : Jvm.MethodName) jdk_68_method_22_code (3 : Nat) (Option.some (Jvm.ClassFile.FieldType.object "java/lang/AbstractStringBuilder")), Jvm.Cond.code ({ cls := "java/lang/String", name := "length", desc := "()I" } : Jvm.MethodName) jdk_42_method_54_code (1 : Nat) (Option.some Jvm.ClassFile.FieldType.int), Jvm.Cond.code ({ cls := "java/lang/String", name := "coder", desc := "()B" } : Jvm.MethodName) jdk_42_method_152_code (1 : Nat) (Option.some Jvm.ClassFile.FieldType.byte), Jvm.Cond.code ({ cls := "java/lang/AbstractStringBuilder", name := "putStringAt", desc := "(ILjava/lang/String;)V" } : Jvm.MethodName) jdk_68_method_73_code (3 : Nat) (Option.none : Option Jvm.ClassFile.FieldType), Jvm.Cond.code ({ cls := "java/lang/AbstractStringBuilder", name := "inflateIfNeededFor", desc := "(Ljava/lang/String;)V" } : Jvm.MethodName) jdk_68_method_71_code (2 : Nat) (Option.none : Option Jvm.ClassFile.FieldType), Jvm.Cond.code ({ cls := "java/lang/String", name := "getBytes", desc := "([BIB)V" } : Jvm.MethodName) jdk_42_method_147_code (4 : Nat) (Option.none : Option Jvm.ClassFile.FieldType), Jvm.Cond.code ({ cls := "java/lang/StringBuilder", name := "toString", desc := "()Ljava/lang/String;" } : Jvm.MethodName) jdk_67_method_42_code (1 : Nat) (Option.some (Jvm.ClassFile.FieldType.object "java/lang/String")), Jvm.Cond.code ({ cls := "java/lang/String", name := "<init>", desc := "(Ljava/lang/StringBuilder;)V" } : Jvm.MethodName) jdk_42_method_53_code (2 : Nat) (Option.none : Option Jvm.ClassFile.FieldType), Jvm.Cond.code ({ cls := "java/lang/String", name := "<init>", desc := "(Ljava/lang/AbstractStringBuilder;Ljava/lang/Void;)V" } : Jvm.MethodName) jdk_42_method_150_code (5 : Nat) (Option.none : Option Jvm.ClassFile.FieldType), Jvm.Cond.code ({ cls := "java/lang/AbstractStringBuilder", name := "getValue", desc := "()[B" } : Jvm.MethodName) jdk_68_method_64_code (1 : Nat) (Option.some (Jvm.ClassFile.FieldType.array Jvm.ClassFile.FieldType.byte)), Jvm.Cond.code ({ cls := "java/lang/StringBuilder", name := "length", desc := "()I" } : Jvm.MethodName) jdk_67_method_93_code (1 : Nat) (Option.some Jvm.ClassFile.FieldType.int), Jvm.Cond.code ({ cls := "java/lang/AbstractStringBuilder", name := "length", desc := "()I" } : Jvm.MethodName) jdk_68_method_6_code (1 : Nat) (Option.some Jvm.ClassFile.FieldType.int), Jvm.Cond.code ({ cls := "java/util/Arrays", name := "copyOfRange", desc := "([BII)[B" } : Jvm.MethodName) jdk_65_method_132_code (3 : Nat) (Option.some (Jvm.ClassFile.FieldType.array Jvm.ClassFile.FieldType.byte)), Jvm.Cond.code ({ cls := "java/util/Arrays", name := "copyOfRangeByte", desc := "([BII)[B" } : Jvm.MethodName) jdk_65_method_133_code (5 : Nat) (Option.some (Jvm.ClassFile.FieldType.array Jvm.ClassFile.FieldType.byte)), Jvm.Cond.code ({ cls := "java/util/Arrays", name := "checkLength", desc := "(II)V" } : Jvm.MethodName) jdk_65_method_131_code (2 : Nat) (Option.none : Option Jvm.ClassFile.FieldType), Jvm.Cond.code ({ cls := "java/lang/Math", name := "min", desc := "(II)I" } : Jvm.MethodName) jdk_29_method_69_code (2 : Nat) (Option.some Jvm.ClassFile.FieldType.int), Jvm.Cond.code ({ cls := "java/lang/String", name := "charAt", desc := "(I)C" } : Jvm.MethodName) jdk_42_method_56_code (2 : Nat) (Option.some Jvm.ClassFile.FieldType.char), Jvm.Cond.code ({ cls := "java/lang/String", name := "isLatin1", desc := "()Z" } : Jvm.MethodName) jdk_42_method_154_code (1 : Nat) (Option.some Jvm.ClassFile.FieldType.boolean), Jvm.Cond.code ({ cls := "java/lang/StringLatin1", name := "charAt", desc := "([BI)C" } : Jvm.MethodName) jdk_43_method_2_code (2 : Nat) (Option.some Jvm.ClassFile.FieldType.char), Jvm.Cond.code ({ cls := "java/lang/String", name := "checkIndex", desc := "(II)V" } : Jvm.MethodName) jdk_42_method_155_code (2 : Nat) (Option.none : Option Jvm.ClassFile.FieldType), Jvm.Cond.code ({ cls := "jdk/internal/util/Preconditions", name := "checkIndex", desc := "(IILjava/util/function/BiFunction;)I" } : Jvm.MethodName) jdk_41_method_11_code (3 : Nat) (Option.some Jvm.ClassFile.FieldType.int), Jvm.Cond.code ({ cls := "java/lang/Integer", name := "toString", desc := "(I)Ljava/lang/String;" } : Jvm.MethodName) jdk_33_method_10_code (3 : Nat) (Option.some (Jvm.ClassFile.FieldType.object "java/lang/String")), Jvm.Cond.code ({ cls := "java/lang/String", name := "<init>", desc := "([BB)V" } : Jvm.MethodName) jdk_42_method_151_code (3 : Nat) (Option.none : Option Jvm.ClassFile.FieldType)]
set_option maxRecDepth 65536 in
theorem codes_eq : words1.filter isCode = codes1 := rfl
theorem w_codes : ∀ c ∈ words1.filter isCode, c.before args0 about1 = true := by
  rw [codes_eq]
  intro c hc
  simp only [codes1, List.mem_cons, List.not_mem_nil, or_false] at hc
  rcases hc with rfl | rfl | rfl | rfl | rfl | rfl | rfl | rfl | rfl | rfl | rfl | rfl | rfl | rfl | rfl | rfl | rfl | rfl | rfl | rfl | rfl | rfl | rfl | rfl | rfl | rfl | rfl | rfl | rfl | rfl | rfl | rfl | rfl | rfl | rfl | rfl | rfl
  · exact w_c0
  · exact w_c1
  · exact w_c2
  · exact w_c3
  · exact w_c4
  · exact w_c5
  · exact w_c6
  · exact w_c7
  · exact w_c8
  · exact w_c9
  · exact w_c10
  · exact w_c11
  · exact w_c12
  · exact w_c13
  · exact w_c14
  · exact w_c15
  · exact w_c16
  · exact w_c17
  · exact w_c18
  · exact w_c19
  · exact w_c20
  · exact w_c21
  · exact w_c22
  · exact w_c23
  · exact w_c24
  · exact w_c25
  · exact w_c26
  · exact w_c27
  · exact w_c28
  · exact w_c29
  · exact w_c30
  · exact w_c31
  · exact w_c32
  · exact w_c33
  · exact w_c34
  · exact w_c35
  · exact w_c36
set_option maxRecDepth 65536 in
theorem w_t1 : (words1.take 24).all (fun c => isCode c || c.before args0 about1) = true := by decide +kernel
set_option maxRecDepth 65536 in
theorem w_t2 : ((words1.drop 24).take 24).all (fun c => isCode c || c.before args0 about1) = true := by decide +kernel
set_option maxRecDepth 65536 in
theorem w_t3 : (((words1.drop 24).drop 24).take 24).all (fun c => isCode c || c.before args0 about1) = true := by decide +kernel
set_option maxRecDepth 65536 in
theorem w_t4 : ((((words1.drop 24).drop 24).drop 24).take 24).all (fun c => isCode c || c.before args0 about1) = true := by decide +kernel
set_option maxRecDepth 65536 in
theorem w_t5 : (((((words1.drop 24).drop 24).drop 24).drop 24).take 24).all (fun c => isCode c || c.before args0 about1) = true := by decide +kernel
set_option maxRecDepth 65536 in
theorem w_t6 : ((((((words1.drop 24).drop 24).drop 24).drop 24).drop 24).take 24).all (fun c => isCode c || c.before args0 about1) = true := by decide +kernel
set_option maxRecDepth 65536 in
theorem w_t7 : (((((((words1.drop 24).drop 24).drop 24).drop 24).drop 24).drop 24).take 24).all (fun c => isCode c || c.before args0 about1) = true := by decide +kernel
set_option maxRecDepth 65536 in
theorem w_t8 : ((((((((words1.drop 24).drop 24).drop 24).drop 24).drop 24).drop 24).drop 24).take 24).all (fun c => isCode c || c.before args0 about1) = true := by decide +kernel
set_option maxRecDepth 65536 in
theorem w_t9 : ((((((((words1.drop 24).drop 24).drop 24).drop 24).drop 24).drop 24).drop 24).drop 24).all (fun c => isCode c || c.before args0 about1) = true := by decide +kernel
theorem w_tables : (allAtoms (Jvm.Cond.code x code maxLocals ret :: tables_1)).before args0 about1 = true := by
  rw [allAtoms_all]
  show words1.all (fun c => c.before args0 about1) = true
  refine all_split ?_ w_codes
  rw [← List.take_append_drop 24 words1, List.all_append, w_t1, ← List.take_append_drop 24 (words1.drop 24), List.all_append, w_t2, ← List.take_append_drop 24 ((words1.drop 24).drop 24), List.all_append, w_t3, ← List.take_append_drop 24 (((words1.drop 24).drop 24).drop 24), List.all_append, w_t4, ← List.take_append_drop 24 ((((words1.drop 24).drop 24).drop 24).drop 24), List.all_append, w_t5, ← List.take_append_drop 24 (((((words1.drop 24).drop 24).drop 24).drop 24).drop 24), List.all_append, w_t6, ← List.take_append_drop 24 ((((((words1.drop 24).drop 24).drop 24).drop 24).drop 24).drop 24), List.all_append, w_t7, ← List.take_append_drop 24 (((((((words1.drop 24).drop 24).drop 24).drop 24).drop 24).drop 24).drop 24), List.all_append, w_t8, w_t9]
  rfl
set_option maxRecDepth 65536 in
theorem w_rest : rest_1_c.before args0 about1 = true := by decide +kernel
set_option maxRecDepth 65536 in
theorem w_case : (Jvm.Cond.and given_1 narrow_1).before args0 about1 = true := by decide +kernel
set_option maxRecDepth 65536 in
theorem w_consts : constsHeld consts_1 about1 := Jvm.Lit.constsHeldB_iff.mp (by decide +kernel)
theorem w_applies : (headSpec (Jvm.Cond.code x code maxLocals ret :: tables_1) room_1).applies x e0.platform about1 = true :=
  (Spec.applies_iff w_frames).mpr ⟨w_running, w_runnable, w_alone, w_named, w_hears, w_ripe, w_room, w_tables⟩
theorem atStart : AtStart classFile x code maxLocals ret World_1 tables_1 room_1 Calls_1 rest_1 Pre_1 launch0 p0 e0 about1 theMethod args0 below0 :=
  ⟨lists_1, trivial, launch0.admits_env _ _ _, launch0.least_env, fairChoices_fair.cas, fairChoices_fair.clock, w_frames, w_args, w_heap, w_applies, ⟨w_consts, trivial⟩, w_rest, w_case⟩
end start1
theorem witness_1 : WitnessClaimed_1 := ⟨start1.p0, start1.e0, start1.about1, start1.theMethod, start1.args0, start1.below0, start1.atStart⟩
end Jvm.Pilot.@@N@@
