import JvmDerived
import JvmDerived.Pilot.@@N@@Statement
import JvmDerived.Pilot.@@N@@Code
set_option linter.unusedVariables false
set_option linter.unusedSimpArgs false
namespace Jvm.RoadKit
open Sem ClassFile Op Lib Jvm.Stand Jvm.Free Jvm.LawKit
section New
variable {p : Program} {l : Launch} {e : Env} {R : Room} {s : State} {m : MethodId} {args : Array Value} {below : List Frame} {meth : Method} {c : Code} {T : State} {locs : List Loc} {cells slots : Nat}
theorem retI (X : Stand p l e R s m args below meth c T locs cells slots) (hx : p.tables.exec = Jvm.exec) {pc : Nat} {Ls : Array Slot} {z : Int32} {rest : List Value} (hret : meth.sig.returnType = some .int) (hd : decode c.code pc = .ok (.ireturn, 1)) {fs : List Frame}
    (hl : ∀ (f : JFrame) (acts : List Action), f.method = m → f.locked = none → f.entered = [] → (doReturn e (T.setTop f) acts (some (.int z))).1 = T.setFrames fs) : Steps p.tables e below (T.setTop (mkF m pc Ls (.int z :: rest))) (T.setFrames fs) := by
  have hm' : T.vm.method? m = some meth := X.method'
  have hn : narrow .int (.int z) = .int z := rfl
  show Steps p.tables e below (T.setTop { method := m, pc := pc, locals := Ls, stack := _ :: rest, locked := none }) _
  jvm_step X.here [X.here.top, hx, hd, hm', hret, hn]
  first | (intro acts; rw [hl _ acts rfl rfl rfl]) | rw [hl _ _ rfl rfl rfl]
  exact Steps.refl _
end New
end Jvm.RoadKit
namespace Jvm.Pilot.@@N@@
open Jvm Jvm.ClassFile Sem Op Lib Jvm.Free Jvm.Stand Jvm.LawKit Jvm.RoadKit Bundle Jvm.Pilot.@@N@@.Jvm.D
/-- the run from U comes to an end of which P holds -/
def Go (p : Program) (e : Env) (below : List Frame) (P : Outcome → State → Prop) (U : State) : Prop := ∃ s₂ o, Steps p.tables e below U s₂ ∧ s₂.status = .running ∧ Ended s₂ below o ∧ P o s₂
theorem Go.mk {p : Program} {e : Env} {below : List Frame} {P : Outcome → State → Prop} {U : State} (s₂ : State) (o : Outcome) (h1 : Steps p.tables e below U s₂) (h2 : s₂.status = .running) (h3 : Ended s₂ below o) (h4 : P o s₂) : Go p e below P U := ⟨s₂, o, h1, h2, h3, h4⟩
theorem Go.of {p : Program} {e : Env} {below : List Frame} {P : Outcome → State → Prop} {U V : State} (st : ∀ t, Steps p.tables e below V t → Steps p.tables e below U t) (h : Go p e below P V) : Go p e below P U := by
  obtain ⟨s₂, o, h1, h⟩ := h
  exact ⟨s₂, o, st _ h1, h⟩
theorem Go.tr {p : Program} {e : Env} {below : List Frame} {P : Outcome → State → Prop} {U V : State} (st : Steps p.tables e below U V) (h : Go p e below P V) : Go p e below P U := by
  obtain ⟨s₂, o, h1, h⟩ := h
  exact ⟨s₂, o, st.trans h1, h⟩
theorem own_sta {args : Array Value} {s : State} {C n d K : String} (h : (Jvm.Cond.exactly (Term.static C n d) K).value args s none s [] = some true) : ∃ a, (Term.static C n d).eval args s none [] s = some (.ref a) ∧ Exa s s.heap a K := by
  obtain ⟨a, ev⟩ := exa_v h
  exact ⟨a, ev, Exa.start ev h⟩
theorem own_fldI {args : Array Value} {s : State} {t : Term} {a : Addr} {C n d : String} {k : Int32} (ev : t.eval args s none [] s = some (.ref a)) (h : (Jvm.Cond.eq (.field t C n d) (.int k)).value args s none s [] = some true) : Fld s s.heap a C n d (.int k) := by
  obtain ⟨x, y, h1, h2, k1, -⟩ := cmp_v (Or.inl h)
  cases h2
  obtain ⟨z, rfl⟩ : ∃ z, x = .int z := by cases x <;> simp [Kin, Value.isRef] at k1 ⊢
  have e : z = k := gotT (Cond.eq_ints h1 rfl) h
  subst e
  rw [fld_at ev] at h1
  exact Fld.start h1
theorem own_fldR {args : Array Value} {s : State} {t t2 : Term} {a b : Addr} {C n d : String} (ev : t.eval args s none [] s = some (.ref a)) (ev2 : t2.eval args s none [] s = some (.ref b)) (h : (Jvm.Cond.eq (.field t C n d) t2).value args s none s [] = some true) : Fld s s.heap a C n d (.ref b) := by
  obtain ⟨x, y, h1, h2, k1, k2⟩ := cmp_v (Or.inl h)
  cases ev2.symm.trans h2
  have e : x = .ref b := by
    have q := gotT (eq_R h1 h2 (by cases x <;> simp [Kin, Value.isRef] at k1 ⊢) rfl) h
    exact q
  subst e
  rw [fld_at ev] at h1
  exact Fld.start h1
theorem own_Sta_keep {Z : State} {h h' : Heap} {C n d : String} {v : Value} {ws : List Addr} (F : Sta Z h C n d v) (K : Keep h h' ws) (q : ∀ x ∈ ws, ∀ cell : Cell, h[x]? = some cell → cell.vm.isStatics = false) : Sta Z h' C n d v := by
  obtain ⟨cf, i, k, f, st, cell, h1, h2, h3, h4, h5, h6, h7⟩ := F
  exact ⟨cf, i, k, f, st, cell, h1, h2, h3, h4, K.2.1 _ _ h5 (fun z => by have := q st z cell h5; rw [h6] at this; cases this), h6, h7⟩
theorem own_Ins_keep {Z : State} {h h' : Heap} {C : String} {a : Addr} {b : Bool} {ws : List Addr} (F : Ins Z h a C b) (K : Keep h h' ws) : Ins Z h' a C b := by
  obtain ⟨cell, cT, h1, h2, h3⟩ := F
  obtain ⟨c', q1, q2, q3, -⟩ := K.2.2 _ _ h1
  exact ⟨c', cT, q1, h2, by rw [q2, q3]; exact h3⟩
theorem own_p0 {h : Heap} : ∀ x ∈ ([] : List Addr), ∀ cell : Cell, h[x]? = some cell → cell.vm.isStatics = false := fun _ q => nomatch q
theorem own_pS {h : Heap} {y : Addr} {L : List Addr} (q : ∀ cell : Cell, h[y]? = some cell → cell.vm.isStatics = false) (r : ∀ x ∈ L, ∀ cell : Cell, h[x]? = some cell → cell.vm.isStatics = false) : ∀ x ∈ y :: L, ∀ cell : Cell, h[x]? = some cell → cell.vm.isStatics = false := fun x z => (List.mem_cons.mp z).elim (fun u => u ▸ q) (r x)
theorem own_plainE {Z : State} {h : Heap} {a : Addr} {C : String} (F : Exa Z h a C) : ∀ cell : Cell, h[a]? = some cell → cell.vm.isStatics = false := fun cell hc => by
  obtain ⟨c', k, h1, -, -, h4, -⟩ := F
  cases hc.symm.trans h1
  exact h4
theorem own_plainF {Z : State} {h : Heap} {a : Addr} {C n d : String} {v : Value} (F : Fld Z h a C n d v) : ∀ cell : Cell, h[a]? = some cell → cell.vm.isStatics = false := old_plain F
theorem own_plainV {Z : State} {h : Heap} {a : Addr} {k : ClassId} {ty : FieldType} {z : Int32} {vs : List Value} {dv : Value} (F : Arv Z h a k ty z vs dv) : ∀ cell : Cell, h[a]? = some cell → cell.vm.isStatics = false := fun cell hc => by
  obtain ⟨c', A, -⟩ := F
  cases hc.symm.trans A.1
  exact A.plain
theorem own_selpriv {args : Array Value} {s : State} {C : String} {y : MethodName} (h : (Jvm.Cond.selects C y y).before args s = true) (hp : s.PrivateAt y) (hi : (Jvm.Cond.instanceMethod y).before args s = true) (hy : y.cls ≠ "java/lang/invoke/MethodHandle" ∧ y.cls ≠ "java/lang/invoke/VarHandle") : (Jvm.Cond.selects y.cls y y).before args s = true := by
  obtain ⟨c, r, m, -, -, q3, -, k, q4, q5⟩ := Cond.selects_spec h
  exact selects_self_of_private (findClass_of_methodNamed q3) q4 q5 hp hi hy
theorem own_same {args : Array Value} {s : State} {C : String} {x y z : MethodName} (h : (Jvm.Cond.selects C x z).before args s = true) (hc : z.cls = y.cls) (hi : (Jvm.Cond.instanceMethod y).before args s = true) (hy : y.cls ≠ "java/lang/invoke/MethodHandle" ∧ y.cls ≠ "java/lang/invoke/VarHandle") : (Jvm.Cond.sameMethod y.cls y.cls y.name y.desc).before args s = true := by
  obtain ⟨c, r, m, -, -, q3, -, k, q4, q5⟩ := Cond.selects_spec h
  obtain ⟨mk, methM, hnamed, -, -, -⟩ := Cond.instanceMethod_spec hi
  have hfound : s.methodFound? y.cls y.name y.desc = some mk := State.methodFound?_of_named hnamed hy
  have e1 := findClass_of_methodNamed hnamed
  have e2 := findClass_of_methodNamed q3
  rw [hc] at e2
  have e3 : m.cls = mk.cls := Option.some.inj (e2.symm.trans e1)
  rw [e3] at q4
  have hn' : s.methodNamed? ⟨y.cls, y.name, y.desc⟩ = some mk := hnamed
  simp [Cond.before, Cond.holds, Cond.value, e1, hfound, hn', q4, q5]
theorem own_nf {args : Array Value} {s : State} {C : String} {x y z : MethodName} (h : (Jvm.Cond.selects C x z).before args s = true) (hc : z.cls = y.cls) : NotFace s y := fun r0 h0 => by
  obtain ⟨c, r, m, -, -, q3, -, k, q4, q5⟩ := Cond.selects_spec h
  have e1 := findClass_of_methodNamed h0
  have e2 := findClass_of_methodNamed q3
  rw [hc] at e2
  have e3 : m.cls = r0.cls := Option.some.inj (e2.symm.trans e1)
  rw [e3] at q4
  exact ⟨k, q4, q5⟩
theorem own_h {Z : State} {a0 : Array Value} (hw : ∀ d ∈ tables_1, d.before a0 Z = true) (i : Nat) {d : Jvm.Cond} (h : tables_1[i]? = some d) : d.before a0 Z = true := hw d (List.mem_of_getElem? h)
open Jvm.Free.SBG (strSizeOf negI Tbl Ones Tens)
/-- how many digits; how many signs -/
abbrev own_dg (x : Int32) : Nat := Jvm.Free.SBG.digits x.toInt.natAbs
abbrev own_sg (x : Int32) : Nat := Jvm.Free.SBG.GetChars.sgn x
theorem own_ishl0 (x : Int32) : x <<< ((0 : Int32) &&& 31) = x := by
  have e : (0 : Int32) &&& 31 = 0 := by decide
  rw [e]; simp
theorem own_ishr0 (x : Int32) : x >>> ((0 : Int32) &&& 31) = x := by
  have e : (0 : Int32) &&& 31 = 0 := by decide
  rw [e]; simp
theorem own_isub0 (x : Int32) : x - (0 : Int32) = x := by simp
theorem own_ltn {p z : Int32} (h : ¬ (z < p)) (q : ¬ (p = z)) : p < z := by
  rw [Int32.lt_iff_toInt_lt] at h ⊢
  have : p.toInt ≠ z.toInt := fun e => q (Int32.toInt_inj.mp e)
  omega
theorem own_asym {p z : Int32} (h : p < z) : ¬ (z < p) := by
  rw [Int32.lt_iff_toInt_lt] at h ⊢; omega
theorem own_nat {p z : Int32} (h : ¬ (z < p)) : p.toNatClampNeg ≤ z.toNatClampNeg := by
  rw [Int32.lt_iff_toInt_lt] at h
  simp only [Int32.toNatClampNeg]; omega
theorem own_cut {Z : State} {h : Heap} {b : Addr} {k : ClassId} {ty : FieldType} {z : Int32} {L vs : List Value} {dv : Value} (F : Arv Z h b k ty z L dv) (q : ∀ i, i < z.toNatClampNeg → L.getD i dv = vs.getD i dv) : Arv Z h b k ty z vs dv := by
  obtain ⟨c, A, r1, r2, r3, H, G⟩ := F
  exact ⟨c, A, r1, r2, r3, fun i hi => by rw [← q i (r2 ▸ hi)]; exact H i hi, fun i hi => by rw [← q i (r2 ▸ hi)]; exact G i hi⟩
theorem own_lst (n : Nat) (vs : List Value) (dv : Value) : ∀ i, i < n → ((([] : List Value) ++ List.replicate n dv).take 0 ++ ((List.range n).map fun i => vs.getD (0 + i) dv) ++ (([] : List Value) ++ List.replicate n dv).drop (0 + n)).getD i dv = vs.getD i dv := fun i hi => by
  simp [hi]
theorem own_mk {s : State} {vm : Vm} (h : s.Warmed39 vm) (k : s.vm.MethodsKnown) : (s.setVm vm).vm.MethodsKnown := Vm.MethodsKnown.alikeC h.alike k
theorem own_fk {s : State} {vm : Vm} {bl : List Frame} (h : s.Warmed39 vm) (k : s.vm.FramesKnown bl) : (s.setVm vm).vm.FramesKnown bl := Vm.FramesKnown.alikeC h.alike k
/-- the digits' tables lie in h as they lay at Z, under n0 -/
def own_tb (Z : State) (h : Heap) (n0 : Nat) (st d1 d2 : Addr) (D1 D2 : Cell) : Prop :=
  Tbl Z "DigitOnes" st d1 D1 ∧ Tbl Z "DigitTens" st d2 D2 ∧ Ones D1 ∧ Tens D2 ∧ st < n0 ∧ d1 < n0 ∧ d2 < n0 ∧ (∀ c, Z.heap[st]? = some c → h[st]? = some c) ∧ h[d1]? = some D1 ∧ h[d2]? = some D2
theorem own_n0 {n0 : Nat} : ∀ x ∈ ([] : List Addr), n0 ≤ x := fun _ q => nomatch q
theorem own_nS {n0 : Nat} {y : Addr} {L : List Addr} (q : n0 ≤ y) (r : ∀ x ∈ L, n0 ≤ x) : ∀ x ∈ y :: L, n0 ≤ x := fun x z => (List.mem_cons.mp z).elim (fun u => u ▸ q) (r x)
section
variable {Z : State} {h h' : Heap} {n0 : Nat} {st d1 d2 : Addr} {D1 D2 : Cell}
theorem own_tb_keep {ws : List Addr} (B : own_tb Z h n0 st d1 d2 D1 D2) (K : Keep h h' ws) (q : ∀ x ∈ ws, n0 ≤ x) : own_tb Z h' n0 st d1 d2 D1 D2 := by
  obtain ⟨t1, t2, o1, o2, l0, l1, l2, hs, g1, g2⟩ := B
  have ni : ∀ {y : Addr}, y < n0 → y ∉ ws := fun hy hm => absurd (q _ hm) (Nat.not_le_of_lt hy)
  exact ⟨t1, t2, o1, o2, l0, l1, l2, fun c hc => K.2.1 _ _ (hs c hc) (ni l0), K.2.1 _ _ g1 (ni l1), K.2.1 _ _ g2 (ni l2)⟩
theorem own_tb_ext (B : own_tb Z h n0 st d1 d2 D1 D2) (E : Ext h h') : own_tb Z h' n0 st d1 d2 D1 D2 := own_tb_keep B ((Keep.refl h []).ext E) own_n0
theorem own_tb_wr {a : Addr} {sl : Nat} {v : Value} (B : own_tb Z h n0 st d1 d2 D1 D2) (W : Wr h h' a sl v) (q : n0 ≤ a) : own_tb Z h' n0 st d1 d2 D1 D2 := own_tb_keep B (Keep.of_wr W) (own_nS q own_n0)
end
/-- the number without its sign -/
def own_n (x : Int32) : Nat := x.toInt.natAbs
theorem own_neg (x : Int32) : own_n x ≤ 2 ^ 31 ∧ (if x < 0 then x else -x) = negI (own_n x) := by
  obtain ⟨n, h1, h2⟩ := Jvm.Free.SBG.negI_of x
  have e : own_n x = n := by
    have h3 := congrArg Int32.toInt h2
    rw [Jvm.Free.SBG.negI_toInt h1] at h3
    have r1 := Int32.le_toInt x
    have r2 := Int32.toInt_lt x
    unfold own_n
    by_cases hx : x < 0
    · rw [if_pos hx] at h3; omega
    · rw [if_neg hx] at h3
      rw [Int32.lt_iff_toInt_lt] at hx
      have z0 : (0 : Int32).toInt = 0 := rfl
      rw [Int32.toInt_neg, Int.bmod_eq_of_le (by omega) (by omega)] at h3
      omega
  rw [e]; exact ⟨h1, h2⟩
/-- b places, and those of the number -/
def own_w (b : Nat) (x : Int32) : Nat := b + (own_dg x + own_sg x)
def own_sz (b : Nat) (x : Int32) : Int32 := Int32.ofNat (own_w b x)
theorem own_wb (b : Nat) (x : Int32) : b + 1 ≤ own_w b x ∧ own_w b x ≤ b + 11 := by
  have : 1 ≤ own_dg x ∧ own_dg x ≤ 10 := Jvm.Free.SBG.digits_pos x.toInt.natAbs
  have s1 : own_sg x ≤ 1 := by unfold own_sg Jvm.Free.SBG.GetChars.sgn; split <;> omega
  unfold own_w; omega
theorem own_szI {b : Nat} (hb : b ≤ 1000) (x : Int32) : (own_sz b x).toInt = (own_w b x : Int) := by
  have := own_wb b x
  exact Int32.toInt_ofNat_of_lt (by omega)
theorem own_szN {b : Nat} (hb : b ≤ 1000) (x : Int32) : (own_sz b x).toNatClampNeg = own_w b x := by
  have := own_szI hb x
  simp only [Int32.toNatClampNeg, this]; rfl
theorem own_szeq (b : Nat) (x : Int32) : Int32.ofNat b + strSizeOf x = own_sz b x := by
  rw [Jvm.Free.SBG.strSizeOf_eq (own_neg x).1 (own_neg x).2, ← Int32.ofNat_add]; rfl
theorem own_sz5 (x : Int32) : (5 : Int32) + strSizeOf x = own_sz 5 x := own_szeq 5 x
theorem own_sz12 (x : Int32) : (12 : Int32) + strSizeOf x = own_sz 12 x := own_szeq 12 x
/-- what getChars has written over vs -/
def own_out (b : Nat) (x : Int32) (vs os : List Value) : Prop :=
  (x < 0 → os.getD b (.int 0) = .int 45) ∧ (∀ t, t < own_dg x → os.getD (b + own_sg x + t) (.int 0) = .int (Int32.ofNat (48 + own_n x / 10 ^ (own_dg x - 1 - t) % 10))) ∧ ∀ j, j < b → os.getD j (.int 0) = vs.getD j (.int 0)
theorem own_getD {os : Array Value} {i : Nat} {v d : Value} (h : os[i]? = some v) : os.toList.getD i d = v := by
  rw [List.getD_eq_getElem?_getD, Array.getElem?_toList, h]; rfl

theorem own_ss {p : Program} {l : Launch} {e : Env} {R : Room} {s : State} {m : MethodId} {args : Array Value} {below : List Frame} {meth : Method} {c : Code} {T : State} {locs : List Loc} {cells slots : Nat} {Z : State} {a0 : Array Value} {h : Heap} (X : Stand p l e R s m args below meth c T locs cells slots) (hx : p.tables.exec = Jvm.exec) (hZ : Z.Warmed39 s.vm) (hown : s.vm.findClass "java/lang/AbstractStringBuilder" = some m.cls) (hw : ∀ d ∈ tables_1, d.before a0 Z = true) (eT : T.heap = h)
    {g : JFrame} (hg : g.method = m) (hsize : g.locals.size = c.maxLocals) {x : Int32} {rest : List Value} (hs : g.stack = .int x :: rest) (hd : decode c.code g.pc = .ok (.invokestatic 245, 3)) (hf : 2 ≤ R.frames) {W : Nat} (hW : 2 * g.monitorRoom + (rest.map fun v => v.category).sum ≤ W) (hlo : W + 55 ≤ R.locals) (hc : cells ≤ R.cells) (hsl : slots ≤ R.slots) :
    ∃ T', Stand p l e R s m args below meth c T' locs cells slots ∧ T'.heap = h ∧ ∀ target, Steps p.tables e below (T'.setTop { g with pc := g.pc + 3, stack := .int (strSizeOf x) :: rest }) target → Steps p.tables e below (T.setTop g) target := by
  have wi : (Jvm.Cond.initialized Jvm.Free.SBG.INT).before args s = true := (mvT hZ (own_h hw 95 rfl))
  have wc : (Jvm.Cond.code Jvm.Free.SBG.StrSize.ssN Jvm.Free.SBG.StrSize.ssB 4 (some .int)).before args s = true := (mvT hZ (own_h hw 96 rfl))
  obtain ⟨v, _, ⟨T', L', k', n'⟩, -, X', ⟨⟨q1, q2, q3, q4⟩, q5⟩, st⟩ := Jvm.LawKit.callS X hx (y := Jvm.Free.SBG.StrSize.ssN) hown (mvT hZ (own_h hw 93 rfl)) (mvT hZ (own_h hw 94 rfl)) wi wc (by decide) (Jvm.Free.SBG.StrSize.pays (W := W) hf hlo wc wi) hg hsize (argsL := [.int x]) (rest := rest) (fun sig hh => by
      have q : parseMethodDescriptor "(I)I" = some ⟨[.int], some .int⟩ := by decide +kernel
      rw [← Option.some.inj (q.symm.trans hh)]; rfl) hs hW hd (fun _ _ => ⟨hc, hsl, x, rfl⟩)
  dsimp only [Pt.U, Pt.locs, Pt.cells, Pt.slots] at X' q1 q2 q3 q4 q5 st
  subst q2 q3 q4
  cases q5 x rfl
  exact ⟨T', X', by rw [q1]; exact eT, st⟩
theorem own_gc {p : Program} {l : Launch} {e : Env} {R : Room} {s : State} {m : MethodId} {args : Array Value} {below : List Frame} {meth : Method} {c : Code} {T : State} {locs : List Loc} {cells slots : Nat} {Z : State} {a0 : Array Value} {h : Heap} (X : Stand p l e R s m args below meth c T locs cells slots) (hx : p.tables.exec = Jvm.exec) (hZ : Z.Warmed39 s.vm) (hown : s.vm.findClass "java/lang/AbstractStringBuilder" = some m.cls) (hw : ∀ d ∈ tables_1, d.before a0 Z = true) (eT : T.heap = h)
    {a : Addr} {k : ClassId} {z : Int32} {vs : List Value} (V : Arv Z h a k .byte z vs (.int 0)) {n0 : Nat} {tst td1 td2 : Addr} {tD1 tD2 : Cell} (B : own_tb Z h n0 tst td1 td2 tD1 tD2) (N : Fr n0 locs) (ge : n0 ≤ a) {b : Nat} {x : Int32} (hin : own_w b x ≤ z.toNatClampNeg)
    {g : JFrame} (hg : g.method = m) (hsize : g.locals.size = c.maxLocals) {rest : List Value} (hs : g.stack = .ref a :: .int (own_sz b x) :: .int x :: rest) (hd : decode c.code g.pc = .ok (.invokestatic 248, 3)) (hf : 2 ≤ R.frames) {W : Nat} (hW : 2 * g.monitorRoom + (rest.map fun v => v.category).sum ≤ W) (hlo : W + 78 ≤ R.locals) (hc : cells ≤ R.cells) (hsl : slots ≤ R.slots) :
    ∃ T' h' L os v, Stand p l e R s m args below meth c T' L cells slots ∧ T'.heap = h' ∧ Fr n0 L ∧ Keep h h' [a] ∧ Arv Z h' a k .byte z os (.int 0) ∧ own_out b x vs os ∧ ∀ target, Steps p.tables e below (T'.setTop { g with pc := g.pc + 3, stack := .int v :: rest }) target → Steps p.tables e below (T.setTop g) target := by
  have wi : (Jvm.Cond.initialized Jvm.Free.SBG.INT).before args s = true := (mvT hZ (own_h hw 95 rfl))
  have wc : (Jvm.Cond.code Jvm.Free.SBG.GetChars.gcN Jvm.Free.SBG.GetChars.gcB 7 (some .int)).before args s = true := (mvT hZ (own_h hw 104 rfl))
  have wt : Jvm.Free.SBG.GetChars.tab.before args s = true := by
    simp only [Jvm.Free.SBG.GetChars.tab, Cond.before_and, Bool.and_eq_true]
    exact ⟨wc, (mvT hZ (own_h hw 105 rfl)), (mvT hZ (own_h hw 257 rfl))⟩
  obtain ⟨cl, Ar, q1, S, nz, H, G⟩ := V
  obtain ⟨t1, t2, o1, o2, l0, l1, l2, hst, g1, g2⟩ := B
  have hlt : z.toNatClampNeg < 2 ^ 31 := by have := Int32.toInt_lt z; simp only [Int32.toNatClampNeg]; omega
  have hal : Z.vm.Alike T.vm := hZ.alike.trans X.warmed.alike
  let gg : Jvm.Free.SBG.GetChars.G := { x := x, n := own_n x, idx := own_w b x, da := a, A := cl, st := tst, d1 := td1, D1 := tD1, d2 := td2, D2 := tD2 }
  have hby : ∀ i, i < cl.slots.size → fits .byte (cl.slots.getD i .null) = true := fun i hi => by
    have e1 := H i hi
    have e2 := G i hi
    rw [Jvm.Free.SBG.getD_of e1]; exact e2
  obtain ⟨f1, f2, f3, f4, f5⟩ := Jvm.Free.SBG.GetChars.outCell_facts gg (own_neg x).1 (Nat.le_add_left _ _) hby
  obtain ⟨w1, w2, w3⟩ := Jvm.Free.SBG.outCell_fwd gg o1 o2 (own_neg x).1 (n0 := b) rfl (by show own_w b x ≤ cl.slots.size; rw [S]; exact hin)
  have ne : ∀ {y : Addr}, y < n0 → a ≠ y := fun hy q => by subst q; exact absurd ge (Nat.not_le_of_lt hy)
  obtain ⟨v, vm1, ⟨T', L', k', n'⟩, hW1, X', ⟨p1, p2, p3, p4, p5, p6, Lw, p7, p8⟩, st⟩ := Jvm.LawKit.callS X hx (y := Jvm.Free.SBG.GetChars.gcN) hown (mvT hZ (own_h hw 102 rfl)) (mvT hZ (own_h hw 103 rfl)) wi wc (by decide) (Jvm.Free.SBG.GetChars.pays gg W wt wi hf hlo) hg hsize (argsL := [.int x, .int (own_sz b x), .ref a]) (rest := rest) (fun sig hh => by
      have q : parseMethodDescriptor "(II[B)I" = some ⟨[.int, .int, .array .byte], some .int⟩ := by decide +kernel
      rw [← Option.some.inj (q.symm.trans hh)]; rfl) hs hW hd (fun vm1 hvm => ⟨rfl, hc, hsl, rfl, by show T.heap[a]? = _; rw [eT]; exact Ar.1, State.isArrayOf_alike (hZ.alike.trans hvm.alike) Ar.2.1, Ar.2.2, by show cl.slots.size < _; rw [S]; exact hlt, by show own_w b x ≤ cl.slots.size; rw [S]; exact hin, Nat.le_add_left _ _, (own_neg x).1, (own_neg x).2,
        t1.move (U' := T.setVm vm1) (hZ.alike.trans hvm.alike) (fun c hc => by show T.heap[tst]? = _; rw [eT]; exact hst c hc) (by show T.heap[td1]? = _; rw [eT]; exact g1), t2.move (U' := T.setVm vm1) (hZ.alike.trans hvm.alike) (fun c hc => by show T.heap[tst]? = _; rw [eT]; exact hst c hc) (by show T.heap[td2]? = _; rw [eT]; exact g2), ne l0, ne l1, ne l2⟩)
  dsimp only [Pt.U, Pt.locs, Pt.cells, Pt.slots] at X' p1 p2 p3 p4 p5 p6 p7 st
  subst p1 p3 p4 p7
  have e0 : (T.setVm vm1).heap = h := eT
  rw [e0] at p5 p6
  have K : Keep h T'.heap [a] := ⟨Nat.le_of_eq p5.symm, fun y cy hy hne => p6 y cy (by simpa using hne) hy, fun y cy hy => by
    by_cases hya : y = a
    · subst hya; cases hy.symm.trans Ar.1; exact ⟨_, p2, f1, f2, f3⟩
    · exact ⟨cy, p6 y cy hya hy, rfl, rfl, rfl⟩⟩
  have hAZ : Z.isArrayOf (Jvm.Free.SBG.GetChars.outCell gg) .byte := by
    obtain ⟨a1, kA, a2, cc, a3⟩ := Ar.2.1
    exact ⟨fun q r => a1 q (by rw [← r]; exact f2.symm), kA, by rw [f1]; exact a2, cc, a3⟩
  refine ⟨T', T'.heap, _, (Jvm.Free.SBG.GetChars.outCell gg).slots.toList, _, X', rfl, N.app fun y hy => by rw [p8 y hy]; exact ge, K, ⟨_, ⟨p2, hAZ, by rw [f2]; exact Ar.2.2⟩, f1.trans q1, f3.trans S, nz, fun i hi => ?_, fun i hi => ?_⟩, ⟨fun hx0 => own_getD (w1 hx0), fun t ht => own_getD (w2 t ht), fun j hj => ?_⟩, st⟩
  · rw [own_getD (d := .int 0) (Array.getElem?_eq_getElem hi)]; exact Array.getElem?_eq_getElem hi
  · have e1 := f4 i hi
    rw [Jvm.Free.SBG.getD_of (Array.getElem?_eq_getElem hi)] at e1
    rw [own_getD (d := .int 0) (Array.getElem?_eq_getElem hi)]; exact e1
  · have hj' : j < cl.slots.size := by rw [S]; have := own_wb b x; omega
    have e1 := w3 j hj
    rw [show gg.A.slots[j]? = cl.slots[j]? from rfl, H j hj'] at e1
    exact own_getD e1
theorem d3_0 : decode jdk_68_method_2_code 0 = .ok (.aload_n 0, 1) := by decide +kernel
theorem d3_1 : decode jdk_68_method_2_code 1 = .ok (.invokespecial 3, 3) := by decide +kernel
theorem d3_4 : decode jdk_68_method_2_code 4 = .ok (.getstatic 18, 3) := by decide +kernel
theorem d3_7 : decode jdk_68_method_2_code 7 = .ok (.ifCond .eq 18, 3) := by decide +kernel
theorem d3_10 : decode jdk_68_method_2_code 10 = .ok (.aload_n 0, 1) := by decide +kernel
theorem d3_11 : decode jdk_68_method_2_code 11 = .ok (.iload_n 1, 1) := by decide +kernel
theorem d3_12 : decode jdk_68_method_2_code 12 = .ok (.newarray .byte, 2) := by decide +kernel
theorem d3_14 : decode jdk_68_method_2_code 14 = .ok (.putfield 15, 3) := by decide +kernel
theorem d3_17 : decode jdk_68_method_2_code 17 = .ok (.aload_n 0, 1) := by decide +kernel
theorem d3_18 : decode jdk_68_method_2_code 18 = .ok (.iconst 0, 1) := by decide +kernel
theorem d3_19 : decode jdk_68_method_2_code 19 = .ok (.putfield 22, 3) := by decide +kernel
theorem d3_22 : decode jdk_68_method_2_code 22 = .ok (.goto 16, 3) := by decide +kernel
theorem d3_38 : decode jdk_68_method_2_code 38 = .ok (.return_, 1) := by decide +kernel
theorem pn_java_lang_AbstractStringBuilder : plainName "java/lang/AbstractStringBuilder" = true := by first | (simp [plainName, overriddenIn]; done) | decide +kernel
theorem ef_3l1_16 (m : MethodId) (x0 : Addr) : entryFrame m #[(.ref x0), (.int (16 : Int32))] 2 = mkF m 0 #[.val (.ref x0), .val (.int (16 : Int32))] [] := by first | (simp [entryFrame, mkF, argsToLocals, Value.category]; done) | rfl
def Q3 (Z : State) (o0 : Addr) (u_o0_count : Value) (w_COMPACT_STRINGS : Int32) (u_o0_value : Value) (u_o0_coder : Value) (h0 : Heap) (n0 : Nat) (v : Option Value) (h : Heap) (L : List Loc) : Prop := ∃ r0 : Addr, ∃ rk1 : ClassId, v = none ∧ Fr n0 L ∧ Keep h0 h [o0] ∧ Exa Z h o0 "java/lang/StringBuilder" ∧ Fld Z h o0 "java/lang/AbstractStringBuilder" "coder" "B" (.int (0 : Int32)) ∧ Fld Z h o0 "java/lang/AbstractStringBuilder" "count" "I" u_o0_count ∧ Fld Z h o0 "java/lang/AbstractStringBuilder" "value" "[B" (.ref r0) ∧ (h0.size ≤ r0 ∧ n0 ≤ r0) ∧ Arv Z h r0 rk1 .byte (16 : Int32) [(.int (0 : Int32)), (.int (0 : Int32)), (.int (0 : Int32)), (.int (0 : Int32)), (.int (0 : Int32)), (.int (0 : Int32)), (.int (0 : Int32)), (.int (0 : Int32)), (.int (0 : Int32)), (.int (0 : Int32)), (.int (0 : Int32)), (.int (0 : Int32)), (.int (0 : Int32)), (.int (0 : Int32)), (.int (0 : Int32)), (.int (0 : Int32))] (.int (0 : Int32)) ∧ Exa Z h r0 "[B"
set_option maxRecDepth 65536 in
set_option maxHeartbeats 40000000 in
theorem rm3 (l : Launch) (Z : State) (a0 : Array Value) (hw : ∀ d ∈ tables_1, d.before a0 Z = true) (ws : List Jvm.Cond) (o0 : Addr) (u_o0_count : Value) (w_COMPACT_STRINGS : Int32) (u_o0_value : Value) (u_o0_coder : Value) (h0 : Heap) (n0 : Nat) (Z0 : n0 ≤ h0.size) (F_o0_count : Fld Z h0 o0 "java/lang/AbstractStringBuilder" "count" "I" u_o0_count) (S_COMPACT_STRINGS : Sta Z h0 "java/lang/String" "COMPACT_STRINGS" "Z" (.int w_COMPACT_STRINGS)) (hc7 : ¬ (w_COMPACT_STRINGS = (0 : Int32))) (E_o0 : Exa Z h0 o0 "java/lang/StringBuilder") (F_o0_value : Fld Z h0 o0 "java/lang/AbstractStringBuilder" "value" "[B" u_o0_value) (g_o0 : n0 ≤ o0) (F_o0_coder : Fld Z h0 o0 "java/lang/AbstractStringBuilder" "coder" "B" u_o0_coder) :
    MetFree l (⟨"java/lang/AbstractStringBuilder", "<init>", "(I)V"⟩ : MethodName) (head1 (Jvm.Cond.code (⟨"java/lang/AbstractStringBuilder", "<init>", "(I)V"⟩ : MethodName) jdk_68_method_2_code 2 none :: ws) ({ frames := 1, cells := 1, slots := 16, locals := 12 } : Room)) (fun a U => a = #[(.ref o0), (.int (16 : Int32))] ∧ Z.Warmed39 U.vm ∧ U.heap = h0) (fun _ _ _ _ _ => True) (fun _ U o U' => ∃ v L, o = .returned v ∧ Q3 Z o0 u_o0_count w_COMPACT_STRINGS u_o0_value u_o0_coder h0 n0 v U'.heap L ∧ FrameEnd U o U' L ({ frames := 1, cells := 1, slots := 16, locals := 12 } : Room).cells ({ frames := 1, cells := 1, slots := 16, locals := 12 } : Room).slots) := by
  refine MetFree.of_bodySF (plainFor_of_name pn_java_lang_AbstractStringBuilder) hisR ?_
  intro p e s m args below meth c s₁ Bd hml0 hP hK
  obtain ⟨rfl, hZ, hh⟩ := hP
  have hx := Bd.exec
  have hby := Bd.bytes
  have hml : c.maxLocals = 2 := hml0
  have hown : s.vm.findClass "java/lang/AbstractStringBuilder" = some m.cls := findClass_of_methodNamed Bd.named
  have hnm := (name_of_methodNamed Bd.named Bd.method).1
  have X0 : Stand p l e ({ frames := 1, cells := 1, slots := 16, locals := 12 } : Room) s m #[(.ref o0), (.int (16 : Int32))] below meth c s₁ [] 0 0 := Stand.of_body Bd
  have e0 : s₁.heap = h0 := by rw [← hh, Bd.state]; rfl
  have N0 := Fr.nil n0
  show Go p e below (fun o U' => ∃ v L, o = .returned v ∧ Q3 Z o0 u_o0_count w_COMPACT_STRINGS u_o0_value u_o0_coder h0 n0 v U'.heap L ∧ FrameEnd s o U' L ({ frames := 1, cells := 1, slots := 16, locals := 12 } : Room).cells ({ frames := 1, cells := 1, slots := 16, locals := 12 } : Room).slots) (s₁.setTop (entryFrame m #[(.ref o0), (.int (16 : Int32))] 2))
  refine Go.of (fun _ k => castTop (ef_3l1_16 m o0) k) ?_
  show Go p e below _ (s₁.setTop (mkF m 0 #[.val (.ref o0), .val (.int (16 : Int32))] []))
  refine Go.of (fun _ k => XS.aloadN X0.here hx rfl (hb hby d3_0) rfl rfl k) ?_
  obtain ⟨T1, X1, e1, st1⟩ := initO X0 hx hZ hown (own_h hw 18 rfl) (own_h hw 19 rfl) (own_h hw 20 rfl) e0 (g := (mkF m 1 #[.val (.ref o0), .val (.int (16 : Int32))] [(.ref o0)])) rfl (by rw [hml]; rfl) rfl (hb hby d3_1) (by decide) (W := 0) (Nat.le_of_eq rfl) (by decide)
  refine Go.of st1 ?_
  show Go p e below _ (T1.setTop (mkF m 4 #[.val (.ref o0), .val (.int (16 : Int32))] []))
  obtain ⟨T2, X2, e2, st2⟩ := getS2 X1 hx hZ hown (host := "") (Or.inl (own_h hw 21 rfl)) Via.refl e1 S_COMPACT_STRINGS (g := (mkF m 4 #[.val (.ref o0), .val (.int (16 : Int32))] [])) rfl (hb hby d3_4)
  refine Go.of st2 ?_
  show Go p e below _ (T2.setTop (mkF m 7 #[.val (.ref o0), .val (.int (16 : Int32))] [(.int w_COMPACT_STRINGS)]))
  refine Go.of (fun _ k => XS.ifNo X2.here hx rfl (hb hby d3_7) rfl ((if0 _ _).trans (feq hc7).1) k) ?_
  show Go p e below _ (T2.setTop (mkF m 10 #[.val (.ref o0), .val (.int (16 : Int32))] []))
  refine Go.of (fun _ k => XS.aloadN X2.here hx rfl (hb hby d3_10) rfl rfl k) ?_
  refine Go.of (fun _ k => XS.iloadN X2.here hx rfl (hb hby d3_11) rfl  k) ?_
  obtain ⟨T3, h3, k3, X3, e3, E3, A3, B3, st3⟩ := newPE X2 hx hZ (own_h hw 23 rfl) e2 (g := (mkF m 12 #[.val (.ref o0), .val (.int (16 : Int32))] [(.int (16 : Int32)), (.ref o0)])) rfl (hb hby d3_12) rfl (by decide) (cap := 16) (by decide) (by decide) (by decide) (by decide) (ad := "[B") (by decide)
  obtain ⟨ob3, g3⟩ : ∃ z, z = h0.size := ⟨_, rfl⟩
  rw [← g3] at A3 B3 st3
  refine Go.of st3 ?_
  have g_ob3 : n0 ≤ ob3 := Nat.le_trans Z0 (Nat.le_of_eq g3.symm)
  have sz_ob3 : h0.size ≤ ob3 := Nat.le_trans ((Keep.refl h0 [o0])).1 (Nat.le_of_eq g3.symm)
  have K3 : Keep h0 h3 [o0] := ((Keep.refl h0 [o0])).ext E3
  have Z3 : n0 ≤ h3.size := Nat.le_trans Z0 E3.1
  have V3 : Arv Z h3 ob3 k3 .byte (16 : Int32) [(.int (0 : Int32)), (.int (0 : Int32)), (.int (0 : Int32)), (.int (0 : Int32)), (.int (0 : Int32)), (.int (0 : Int32)), (.int (0 : Int32)), (.int (0 : Int32)), (.int (0 : Int32)), (.int (0 : Int32)), (.int (0 : Int32)), (.int (0 : Int32)), (.int (0 : Int32)), (.int (0 : Int32)), (.int (0 : Int32)), (.int (0 : Int32))] (.int (0 : Int32)) := (Arv.new A3 (by decide)).pad (pad_rep [] (.int (0 : Int32)) 16)
  show Go p e below _ (T3.setTop (mkF m 14 #[.val (.ref o0), .val (.int (16 : Int32))] [(.ref ob3), (.ref o0)]))
  have c4 : Fld Z h3 o0 "java/lang/AbstractStringBuilder" "value" "[B" u_o0_value := (Fld.ext E3 F_o0_value)
  have c5 : Exa Z h3 o0 "java/lang/StringBuilder" := (Exa.ext E3 E_o0)
  obtain ⟨T6, h6, X6, e6, W6, st6⟩ := putF X3 hx hZ hown (host := "") (Or.inl (own_h hw 24 rfl)) Via.refl e3 c4 c5 (Or.inl (own_h hw 25 rfl)) (own_h hw 7 rfl) (ty := (.array .byte)) (by decide) rfl rfl (g := (mkF m 14 #[.val (.ref o0), .val (.int (16 : Int32))] [(.ref ob3), (.ref o0)])) rfl rfl (hb hby d3_14)
  refine Go.of st6 ?_
  have N6 := Fr.snoc X6 N0 g_o0
  have K6 : Keep h0 h6 [o0] := (K3).wr W6 (Or.inl (List.mem_of_getElem? (i := 0) rfl))
  have Z6 : n0 ≤ h6.size := Nat.le_trans Z3 (Keep.of_wr W6).1
  have f7 : Fld Z h6 o0 "java/lang/AbstractStringBuilder" "value" "[B" (.ref ob3) := Fld.same W6 c4
  show Go p e below _ (T6.setTop (mkF m 17 #[.val (.ref o0), .val (.int (16 : Int32))] []))
  refine Go.of (fun _ k => XS.aloadN X6.here hx rfl (hb hby d3_17) rfl rfl k) ?_
  refine Go.of (fun _ k => XS.iconst X6.here hx rfl (hb hby d3_18) k) ?_
  have c8 : Fld Z h3 o0 "java/lang/AbstractStringBuilder" "coder" "B" u_o0_coder := (Fld.ext E3 F_o0_coder)
  have c9 : Fld Z h6 o0 "java/lang/AbstractStringBuilder" "coder" "B" u_o0_coder := (Fld.other W6 c8 (Or.inr (slot_ne (Or.inl (own_h hw 27 rfl)) (Or.inl (own_h hw 25 rfl)) (by decide) (t := .byte) (t' := (.array .byte)) (by decide) (by decide))))
  have c10 : Exa Z h6 o0 "java/lang/StringBuilder" := (Exa.wr W6 c5)
  obtain ⟨T11, h11, X11, e11, W11, st11⟩ := putFN X6 hx hZ hown (own_h hw 26 rfl) Via.refl e6 c9 c10 (Or.inl (own_h hw 27 rfl)) (own_h hw 7 rfl) (ty := .byte) (v' := .int (0 : Int32)) (by decide) rfl rfl (g := (mkF m 19 #[.val (.ref o0), .val (.int (16 : Int32))] [(.int (0 : Int32)), (.ref o0)])) rfl rfl (hb hby d3_19)
  refine Go.of st11 ?_
  have N11 := Fr.snoc X11 N6 g_o0
  have K11 : Keep h0 h11 [o0] := (K6).wr W11 (Or.inl (List.mem_of_getElem? (i := 0) rfl))
  have Z11 : n0 ≤ h11.size := Nat.le_trans Z6 (Keep.of_wr W11).1
  have f12 : Fld Z h11 o0 "java/lang/AbstractStringBuilder" "coder" "B" (.int (0 : Int32)) := Fld.same W11 c9
  show Go p e below _ (T11.setTop (mkF m 22 #[.val (.ref o0), .val (.int (16 : Int32))] []))
  refine Go.of (fun _ k => XS.goto X11.here hx rfl (pc0 := 22) (pc' := 38) rfl (hb hby d3_22) (by decide) (by decide) k) ?_
  show Go p e below _ (T11.setTop (mkF m 38 #[.val (.ref o0), .val (.int (16 : Int32))] []))
  have c14 : Exa Z h11 o0 "java/lang/StringBuilder" := (Exa.wr W11 c10)
  have c15 : Fld Z h3 o0 "java/lang/AbstractStringBuilder" "count" "I" u_o0_count := (Fld.ext E3 F_o0_count)
  have c16 : Fld Z h6 o0 "java/lang/AbstractStringBuilder" "count" "I" u_o0_count := (Fld.other W6 c15 (Or.inr (slot_ne (Or.inl (own_h hw 58 rfl)) (Or.inl (own_h hw 25 rfl)) (by decide) (t := .int) (t' := (.array .byte)) (by decide) (by decide))))
  have c17 : Fld Z h11 o0 "java/lang/AbstractStringBuilder" "count" "I" u_o0_count := (Fld.other W11 c16 (Or.inr (slot_ne (Or.inl (own_h hw 58 rfl)) (Or.inl (own_h hw 27 rfl)) (by decide) (t := .int) (t' := .byte) (by decide) (by decide))))
  have c18 : Fld Z h11 o0 "java/lang/AbstractStringBuilder" "value" "[B" (.ref ob3) := (Fld.other W11 f7 (Or.inr (slot_ne (Or.inl (own_h hw 25 rfl)) (Or.inl (own_h hw 27 rfl)) (by decide) (t := (.array .byte)) (t' := .byte) (by decide) (by decide))))
  have c19 : Arv Z h6 ob3 k3 .byte (16 : Int32) [(.int (0 : Int32)), (.int (0 : Int32)), (.int (0 : Int32)), (.int (0 : Int32)), (.int (0 : Int32)), (.int (0 : Int32)), (.int (0 : Int32)), (.int (0 : Int32)), (.int (0 : Int32)), (.int (0 : Int32)), (.int (0 : Int32)), (.int (0 : Int32)), (.int (0 : Int32)), (.int (0 : Int32)), (.int (0 : Int32)), (.int (0 : Int32))] (.int (0 : Int32)) := (V3.other W6 (Ne.symm (Nat.ne_of_lt (Nat.lt_of_lt_of_le E_o0.lt (Nat.le_of_eq g3.symm)))))
  have c20 : Arv Z h11 ob3 k3 .byte (16 : Int32) [(.int (0 : Int32)), (.int (0 : Int32)), (.int (0 : Int32)), (.int (0 : Int32)), (.int (0 : Int32)), (.int (0 : Int32)), (.int (0 : Int32)), (.int (0 : Int32)), (.int (0 : Int32)), (.int (0 : Int32)), (.int (0 : Int32)), (.int (0 : Int32)), (.int (0 : Int32)), (.int (0 : Int32)), (.int (0 : Int32)), (.int (0 : Int32))] (.int (0 : Int32)) := (c19.other W11 (Ne.symm (Nat.ne_of_lt (Nat.lt_of_lt_of_le E_o0.lt (Nat.le_of_eq g3.symm)))))
  have c21 : Exa Z h6 ob3 "[B" := (Exa.wr W6 B3)
  have c22 : Exa Z h11 ob3 "[B" := (Exa.wr W11 c21)
  obtain ⟨fs, hr, hrun, hended, hW, hsame⟩ := X11.leave (v := none) (fun _ => rfl)
  refine Go.mk _ _ ?_ hrun hended ⟨_, _, rfl, ?_, ⟨_, rfl⟩, hW, hsame.mono (by decide) (by decide)⟩
  · exact X11.returnOut hx Bd.returns (hb hby d3_38) hr
  · show Q3 Z o0 u_o0_count w_COMPACT_STRINGS u_o0_value u_o0_coder h0 n0 _ T11.heap _
    rw [e11]
    exact ⟨ob3, k3, rfl, N11, K11, c14, f12, c17, c18, ⟨sz_ob3, g_ob3⟩, c20, c22⟩
theorem d2_0 : decode jdk_67_method_1_code 0 = .ok (.aload_n 0, 1) := by decide +kernel
theorem d2_1 : decode jdk_67_method_1_code 1 = .ok (.bipush 16, 2) := by decide +kernel
theorem d2_3 : decode jdk_67_method_1_code 3 = .ok (.invokespecial 1, 3) := by decide +kernel
theorem pd_0 : parseMethodDescriptor "(I)V" = some ⟨[.int], none⟩ := by decide +kernel
abbrev own_y_AbstractStringBuilder__init__0 : MethodName := ⟨"java/lang/AbstractStringBuilder", "<init>", "(I)V"⟩
theorem d2_6 : decode jdk_67_method_1_code 6 = .ok (.return_, 1) := by decide +kernel
theorem pn_java_lang_StringBuilder : plainName "java/lang/StringBuilder" = true := by first | (simp [plainName, overriddenIn]; done) | decide +kernel
theorem ef_2 (m : MethodId) (x0 : Addr) : entryFrame m #[(.ref x0)] 1 = mkF m 0 #[.val (.ref x0)] [] := by first | (simp [entryFrame, mkF, argsToLocals, Value.category]; done) | rfl
def Q2 (Z : State) (o0 : Addr) (u_o0_count : Value) (w_COMPACT_STRINGS : Int32) (u_o0_value : Value) (u_o0_coder : Value) (h0 : Heap) (n0 : Nat) (v : Option Value) (h : Heap) (L : List Loc) : Prop := ∃ r0 : Addr, ∃ rk1 : ClassId, v = none ∧ Fr n0 L ∧ Keep h0 h [o0] ∧ Exa Z h o0 "java/lang/StringBuilder" ∧ Fld Z h o0 "java/lang/AbstractStringBuilder" "coder" "B" (.int (0 : Int32)) ∧ Fld Z h o0 "java/lang/AbstractStringBuilder" "count" "I" u_o0_count ∧ Fld Z h o0 "java/lang/AbstractStringBuilder" "value" "[B" (.ref r0) ∧ (h0.size ≤ r0 ∧ n0 ≤ r0) ∧ Arv Z h r0 rk1 .byte (16 : Int32) [(.int (0 : Int32)), (.int (0 : Int32)), (.int (0 : Int32)), (.int (0 : Int32)), (.int (0 : Int32)), (.int (0 : Int32)), (.int (0 : Int32)), (.int (0 : Int32)), (.int (0 : Int32)), (.int (0 : Int32)), (.int (0 : Int32)), (.int (0 : Int32)), (.int (0 : Int32)), (.int (0 : Int32)), (.int (0 : Int32)), (.int (0 : Int32))] (.int (0 : Int32)) ∧ Exa Z h r0 "[B"
set_option maxRecDepth 65536 in
set_option maxHeartbeats 40000000 in
theorem rm2 (l : Launch) (Z : State) (a0 : Array Value) (hw : ∀ d ∈ tables_1, d.before a0 Z = true) (ws : List Jvm.Cond) (o0 : Addr) (u_o0_count : Value) (w_COMPACT_STRINGS : Int32) (u_o0_value : Value) (u_o0_coder : Value) (h0 : Heap) (n0 : Nat) (Z0 : n0 ≤ h0.size) (F_o0_count : Fld Z h0 o0 "java/lang/AbstractStringBuilder" "count" "I" u_o0_count) (S_COMPACT_STRINGS : Sta Z h0 "java/lang/String" "COMPACT_STRINGS" "Z" (.int w_COMPACT_STRINGS)) (hc7_1 : ¬ (w_COMPACT_STRINGS = (0 : Int32))) (E_o0 : Exa Z h0 o0 "java/lang/StringBuilder") (F_o0_value : Fld Z h0 o0 "java/lang/AbstractStringBuilder" "value" "[B" u_o0_value) (g_o0 : n0 ≤ o0) (F_o0_coder : Fld Z h0 o0 "java/lang/AbstractStringBuilder" "coder" "B" u_o0_coder) :
    MetFree l (⟨"java/lang/StringBuilder", "<init>", "()V"⟩ : MethodName) (head1 (Jvm.Cond.code (⟨"java/lang/StringBuilder", "<init>", "()V"⟩ : MethodName) jdk_67_method_1_code 1 none :: ws) ({ frames := 2, cells := 1, slots := 16, locals := 25 } : Room)) (fun a U => a = #[(.ref o0)] ∧ Z.Warmed39 U.vm ∧ U.heap = h0) (fun _ _ _ _ _ => True) (fun _ U o U' => ∃ v L, o = .returned v ∧ Q2 Z o0 u_o0_count w_COMPACT_STRINGS u_o0_value u_o0_coder h0 n0 v U'.heap L ∧ FrameEnd U o U' L ({ frames := 2, cells := 1, slots := 16, locals := 25 } : Room).cells ({ frames := 2, cells := 1, slots := 16, locals := 25 } : Room).slots) := by
  refine MetFree.of_bodySF (plainFor_of_name pn_java_lang_StringBuilder) hisR ?_
  intro p e s m args below meth c s₁ Bd hml0 hP hK
  obtain ⟨rfl, hZ, hh⟩ := hP
  have hx := Bd.exec
  have hby := Bd.bytes
  have hml : c.maxLocals = 1 := hml0
  have hown : s.vm.findClass "java/lang/StringBuilder" = some m.cls := findClass_of_methodNamed Bd.named
  have hnm := (name_of_methodNamed Bd.named Bd.method).1
  have X0 : Stand p l e ({ frames := 2, cells := 1, slots := 16, locals := 25 } : Room) s m #[(.ref o0)] below meth c s₁ [] 0 0 := Stand.of_body Bd
  have e0 : s₁.heap = h0 := by rw [← hh, Bd.state]; rfl
  have N0 := Fr.nil n0
  show Go p e below (fun o U' => ∃ v L, o = .returned v ∧ Q2 Z o0 u_o0_count w_COMPACT_STRINGS u_o0_value u_o0_coder h0 n0 v U'.heap L ∧ FrameEnd s o U' L ({ frames := 2, cells := 1, slots := 16, locals := 25 } : Room).cells ({ frames := 2, cells := 1, slots := 16, locals := 25 } : Room).slots) (s₁.setTop (entryFrame m #[(.ref o0)] 1))
  refine Go.of (fun _ k => castTop (ef_2 m o0) k) ?_
  show Go p e below _ (s₁.setTop (mkF m 0 #[.val (.ref o0)] []))
  refine Go.of (fun _ k => XS.aloadN X0.here hx rfl (hb hby d2_0) rfl rfl k) ?_
  refine Go.of (fun _ k => XS.bipush X0.here hx rfl (hb hby d2_1) k) ?_
  obtain ⟨_, _, ⟨T1, L1, k1, n1⟩, -, X1, ⟨Lc1, hQ1, l1, y1, z1⟩, st1⟩ := X0.specialBack hx (y := own_y_AbstractStringBuilder__init__0) rfl hown (mvT hZ (own_h hw 12 rfl)) (mvT hZ (own_h hw 13 rfl)) (mvT hZ (own_h hw 17 rfl)) (by decide) (backOf (W := 0) (rm3 l Z a0 hw [] o0 u_o0_count w_COMPACT_STRINGS u_o0_value u_o0_coder h0 n0 Z0 F_o0_count S_COMPACT_STRINGS hc7_1 E_o0 F_o0_value g_o0 F_o0_coder) hZ (own_h hw 17 rfl) (own_h hw 16 rfl) (by decide) (by decide)) (g := (mkF m 3 #[.val (.ref o0)] [(.int (16 : Int32)), (.ref o0)])) rfl (by rw [hml]; rfl) (Steps.refl _) (a := o0) (argsL := [(.int (16 : Int32))]) (rest := []) (lenOf pd_0 rfl) rfl (Nat.le_of_eq rfl) (hb hby d2_3) (fun _ _ => ⟨rfl, e0, (by decide : 0 + 1 ≤ _), (by decide : 0 + 16 ≤ _)⟩)
  dsimp only [Pt.U, Pt.locs, Pt.cells, Pt.slots] at X1 l1 y1 z1 st1 hQ1
  subst l1 y1 z1
  obtain ⟨r0_1, rk1_1, rfl, Nq1, q1_0, q1_1, q1_2, q1_3, q1_4, q1_5, q1_6, q1_7⟩ := hQ1
  have N1 := Fr.app N0 Nq1
  refine Go.tr st1 ?_
  have K1 : Keep h0 T1.heap [o0] := ((Keep.refl h0 [o0])).trans q1_0 (allS (Or.inl (List.mem_of_getElem? (i := 0) rfl)) all0)
  have Z1 : n0 ≤ T1.heap.size := Nat.le_trans Z0 q1_0.1
  have g_r0_1 : n0 ≤ r0_1 := q1_5.2
  have sz_r0_1 : h0.size ≤ r0_1 := Nat.le_trans ((Keep.refl h0 [o0])).1 q1_5.1
  show Go p e below _ (T1.setTop (mkF m 6 #[.val (.ref o0)] []))
  obtain ⟨fs, hr, hrun, hended, hW, hsame⟩ := X1.leave (v := none) (fun _ => rfl)
  refine Go.mk _ _ ?_ hrun hended ⟨_, _, rfl, ?_, ⟨_, rfl⟩, hW, hsame.mono (by decide) (by decide)⟩
  · exact X1.returnOut hx Bd.returns (hb hby d2_6) hr
  · show Q2 Z o0 u_o0_count w_COMPACT_STRINGS u_o0_value u_o0_coder h0 n0 _ T1.heap _
    exact ⟨r0_1, rk1_1, rfl, N1, K1, q1_1, q1_2, q1_3, q1_4, ⟨sz_r0_1, g_r0_1⟩, q1_6, q1_7⟩
theorem d16_0 : decode jdk_68_method_68_code 0 = .ok (.getstatic 18, 3) := by decide +kernel
theorem d16_3 : decode jdk_68_method_68_code 3 = .ok (.ifCond .eq 14, 3) := by decide +kernel
theorem d16_6 : decode jdk_68_method_68_code 6 = .ok (.aload_n 0, 1) := by decide +kernel
theorem d16_7 : decode jdk_68_method_68_code 7 = .ok (.getfield 22, 3) := by decide +kernel
theorem d16_10 : decode jdk_68_method_68_code 10 = .ok (.ifCond .ne 7, 3) := by decide +kernel
theorem d16_13 : decode jdk_68_method_68_code 13 = .ok (.iconst 1, 1) := by decide +kernel
theorem d16_14 : decode jdk_68_method_68_code 14 = .ok (.goto 4, 3) := by decide +kernel
theorem d16_18 : decode jdk_68_method_68_code 18 = .ok (.ireturn, 1) := by decide +kernel
theorem ef_16 (m : MethodId) (x0 : Addr) : entryFrame m #[(.ref x0)] 1 = mkF m 0 #[.val (.ref x0)] [] := by first | (simp [entryFrame, mkF, argsToLocals, Value.category]; done) | rfl
def Q16 (Z : State) (o0 : Addr) (w_COMPACT_STRINGS : Int32) (h0 : Heap) (n0 : Nat) (v : Option Value) (h : Heap) (L : List Loc) : Prop := v = some (.int (1 : Int32)) ∧ Fr n0 L ∧ h = h0
set_option maxRecDepth 65536 in
set_option maxHeartbeats 40000000 in
theorem rm16 (l : Launch) (Z : State) (a0 : Array Value) (hw : ∀ d ∈ tables_1, d.before a0 Z = true) (ws : List Jvm.Cond) (o0 : Addr) (w_COMPACT_STRINGS : Int32) (h0 : Heap) (n0 : Nat) (Z0 : n0 ≤ h0.size) (S_COMPACT_STRINGS : Sta Z h0 "java/lang/String" "COMPACT_STRINGS" "Z" (.int w_COMPACT_STRINGS)) (hc3 : ¬ (w_COMPACT_STRINGS = (0 : Int32))) (F_o0_coder : Fld Z h0 o0 "java/lang/AbstractStringBuilder" "coder" "B" (.int (0 : Int32))) :
    MetFree l (⟨"java/lang/AbstractStringBuilder", "isLatin1", "()Z"⟩ : MethodName) (head1 (Jvm.Cond.code (⟨"java/lang/AbstractStringBuilder", "isLatin1", "()Z"⟩ : MethodName) jdk_68_method_68_code 1 (some .boolean) :: ws) ({ frames := 0, cells := 0, slots := 0, locals := 0 } : Room)) (fun a U => a = #[(.ref o0)] ∧ Z.Warmed39 U.vm ∧ U.heap = h0) (fun _ _ _ _ _ => True) (fun _ U o U' => ∃ v L, o = .returned v ∧ Q16 Z o0 w_COMPACT_STRINGS h0 n0 v U'.heap L ∧ FrameEnd U o U' L ({ frames := 0, cells := 0, slots := 0, locals := 0 } : Room).cells ({ frames := 0, cells := 0, slots := 0, locals := 0 } : Room).slots) := by
  refine MetFree.of_bodySF (plainFor_of_name pn_java_lang_AbstractStringBuilder) hisR ?_
  intro p e s m args below meth c s₁ Bd hml0 hP hK
  obtain ⟨rfl, hZ, hh⟩ := hP
  have hx := Bd.exec
  have hby := Bd.bytes
  have hml : c.maxLocals = 1 := hml0
  have hown : s.vm.findClass "java/lang/AbstractStringBuilder" = some m.cls := findClass_of_methodNamed Bd.named
  have hnm := (name_of_methodNamed Bd.named Bd.method).1
  have X0 : Stand p l e ({ frames := 0, cells := 0, slots := 0, locals := 0 } : Room) s m #[(.ref o0)] below meth c s₁ [] 0 0 := Stand.of_body Bd
  have e0 : s₁.heap = h0 := by rw [← hh, Bd.state]; rfl
  have N0 := Fr.nil n0
  show Go p e below (fun o U' => ∃ v L, o = .returned v ∧ Q16 Z o0 w_COMPACT_STRINGS h0 n0 v U'.heap L ∧ FrameEnd s o U' L ({ frames := 0, cells := 0, slots := 0, locals := 0 } : Room).cells ({ frames := 0, cells := 0, slots := 0, locals := 0 } : Room).slots) (s₁.setTop (entryFrame m #[(.ref o0)] 1))
  refine Go.of (fun _ k => castTop (ef_16 m o0) k) ?_
  show Go p e below _ (s₁.setTop (mkF m 0 #[.val (.ref o0)] []))
  obtain ⟨T1, X1, e1, st1⟩ := getS2 X0 hx hZ hown (host := "") (Or.inl (own_h hw 21 rfl)) Via.refl e0 S_COMPACT_STRINGS (g := (mkF m 0 #[.val (.ref o0)] [])) rfl (hb hby d16_0)
  refine Go.of st1 ?_
  show Go p e below _ (T1.setTop (mkF m 3 #[.val (.ref o0)] [(.int w_COMPACT_STRINGS)]))
  refine Go.of (fun _ k => XS.ifNo X1.here hx rfl (hb hby d16_3) rfl ((if0 _ _).trans (feq hc3).1) k) ?_
  show Go p e below _ (T1.setTop (mkF m 6 #[.val (.ref o0)] []))
  refine Go.of (fun _ k => XS.aloadN X1.here hx rfl (hb hby d16_6) rfl rfl k) ?_
  obtain ⟨T2, X2, e2, st2⟩ := getF X1 hx hZ hown (host := "") (Or.inl (own_h hw 26 rfl)) Via.refl e1 F_o0_coder (g := (mkF m 7 #[.val (.ref o0)] [(.ref o0)])) rfl rfl (hb hby d16_7)
  refine Go.of st2 ?_
  show Go p e below _ (T2.setTop (mkF m 10 #[.val (.ref o0)] [(.int (0 : Int32))]))
  refine Go.of (fun _ k => XS.ifNo X2.here hx rfl (hb hby d16_10) rfl ((if0 _ _).trans (teq (by decide : (0 : Int32) = (0 : Int32))).2) k) ?_
  show Go p e below _ (T2.setTop (mkF m 13 #[.val (.ref o0)] []))
  refine Go.of (fun _ k => XS.iconst X2.here hx rfl (hb hby d16_13) k) ?_
  refine Go.of (fun _ k => XS.goto X2.here hx rfl (pc0 := 14) (pc' := 18) rfl (hb hby d16_14) (by decide) (by decide) k) ?_
  show Go p e below _ (T2.setTop (mkF m 18 #[.val (.ref o0)] [(.int (1 : Int32))]))
  obtain ⟨fs, hr, hrun, hended, hW, hsame⟩ := X2.leave (v := some (.int (1 : Int32))) (fun h => by rw [Bd.returns] at h; cases h)
  refine Go.mk _ _ ?_ hrun hended ⟨_, _, rfl, ?_, ⟨_, rfl⟩, hW, hsame.mono (by decide) (by decide)⟩
  · exact retN X2 hx (t := .boolean) Bd.returns (by simp) (hb hby d16_18) hr
  · show Q16 Z o0 w_COMPACT_STRINGS h0 n0 _ T2.heap _
    rw [e2]
    exact ⟨rfl, N0, rfl⟩
theorem d8_0 : decode jdk_42_method_152_code 0 = .ok (.getstatic 38, 3) := by decide +kernel
theorem d8_3 : decode jdk_42_method_152_code 3 = .ok (.ifCond .eq 10, 3) := by decide +kernel
theorem d8_6 : decode jdk_42_method_152_code 6 = .ok (.aload_n 0, 1) := by decide +kernel
theorem d8_7 : decode jdk_42_method_152_code 7 = .ok (.getfield 15, 3) := by decide +kernel
theorem d8_10 : decode jdk_42_method_152_code 10 = .ok (.goto 4, 3) := by decide +kernel
theorem d8_14 : decode jdk_42_method_152_code 14 = .ok (.ireturn, 1) := by decide +kernel
theorem pn_java_lang_String : plainName "java/lang/String" = true := by first | (simp [plainName, overriddenIn]; done) | decide +kernel
theorem ef_8 (m : MethodId) (x0 : Addr) : entryFrame m #[(.ref x0)] 1 = mkF m 0 #[.val (.ref x0)] [] := by first | (simp [entryFrame, mkF, argsToLocals, Value.category]; done) | rfl
def Q8 (Z : State) (o0 : Addr) (w_COMPACT_STRINGS : Int32) (h0 : Heap) (n0 : Nat) (v : Option Value) (h : Heap) (L : List Loc) : Prop := v = some (.int (0 : Int32)) ∧ Fr n0 L ∧ h = h0
set_option maxRecDepth 65536 in
set_option maxHeartbeats 40000000 in
theorem rm8 (l : Launch) (Z : State) (a0 : Array Value) (hw : ∀ d ∈ tables_1, d.before a0 Z = true) (ws : List Jvm.Cond) (o0 : Addr) (w_COMPACT_STRINGS : Int32) (h0 : Heap) (n0 : Nat) (Z0 : n0 ≤ h0.size) (S_COMPACT_STRINGS : Sta Z h0 "java/lang/String" "COMPACT_STRINGS" "Z" (.int w_COMPACT_STRINGS)) (hc3 : ¬ (w_COMPACT_STRINGS = (0 : Int32))) (F_o0_coder : Fld Z h0 o0 "java/lang/String" "coder" "B" (.int (0 : Int32))) :
    MetFree l (⟨"java/lang/String", "coder", "()B"⟩ : MethodName) (head1 (Jvm.Cond.code (⟨"java/lang/String", "coder", "()B"⟩ : MethodName) jdk_42_method_152_code 1 (some .byte) :: ws) ({ frames := 0, cells := 0, slots := 0, locals := 0 } : Room)) (fun a U => a = #[(.ref o0)] ∧ Z.Warmed39 U.vm ∧ U.heap = h0) (fun _ _ _ _ _ => True) (fun _ U o U' => ∃ v L, o = .returned v ∧ Q8 Z o0 w_COMPACT_STRINGS h0 n0 v U'.heap L ∧ FrameEnd U o U' L ({ frames := 0, cells := 0, slots := 0, locals := 0 } : Room).cells ({ frames := 0, cells := 0, slots := 0, locals := 0 } : Room).slots) := by
  refine MetFree.of_bodySF (plainFor_of_name pn_java_lang_String) hisR ?_
  intro p e s m args below meth c s₁ Bd hml0 hP hK
  obtain ⟨rfl, hZ, hh⟩ := hP
  have hx := Bd.exec
  have hby := Bd.bytes
  have hml : c.maxLocals = 1 := hml0
  have hown : s.vm.findClass "java/lang/String" = some m.cls := findClass_of_methodNamed Bd.named
  have hnm := (name_of_methodNamed Bd.named Bd.method).1
  have X0 : Stand p l e ({ frames := 0, cells := 0, slots := 0, locals := 0 } : Room) s m #[(.ref o0)] below meth c s₁ [] 0 0 := Stand.of_body Bd
  have e0 : s₁.heap = h0 := by rw [← hh, Bd.state]; rfl
  have N0 := Fr.nil n0
  show Go p e below (fun o U' => ∃ v L, o = .returned v ∧ Q8 Z o0 w_COMPACT_STRINGS h0 n0 v U'.heap L ∧ FrameEnd s o U' L ({ frames := 0, cells := 0, slots := 0, locals := 0 } : Room).cells ({ frames := 0, cells := 0, slots := 0, locals := 0 } : Room).slots) (s₁.setTop (entryFrame m #[(.ref o0)] 1))
  refine Go.of (fun _ k => castTop (ef_8 m o0) k) ?_
  show Go p e below _ (s₁.setTop (mkF m 0 #[.val (.ref o0)] []))
  obtain ⟨T1, X1, e1, st1⟩ := getS2 X0 hx hZ hown (host := "") (Or.inl (own_h hw 55 rfl)) Via.refl e0 S_COMPACT_STRINGS (g := (mkF m 0 #[.val (.ref o0)] [])) rfl (hb hby d8_0)
  refine Go.of st1 ?_
  show Go p e below _ (T1.setTop (mkF m 3 #[.val (.ref o0)] [(.int w_COMPACT_STRINGS)]))
  refine Go.of (fun _ k => XS.ifNo X1.here hx rfl (hb hby d8_3) rfl ((if0 _ _).trans (feq hc3).1) k) ?_
  show Go p e below _ (T1.setTop (mkF m 6 #[.val (.ref o0)] []))
  refine Go.of (fun _ k => XS.aloadN X1.here hx rfl (hb hby d8_6) rfl rfl k) ?_
  obtain ⟨T2, X2, e2, st2⟩ := getF X1 hx hZ hown (host := "") (Or.inl (own_h hw 56 rfl)) Via.refl e1 F_o0_coder (g := (mkF m 7 #[.val (.ref o0)] [(.ref o0)])) rfl rfl (hb hby d8_7)
  refine Go.of st2 ?_
  show Go p e below _ (T2.setTop (mkF m 10 #[.val (.ref o0)] [(.int (0 : Int32))]))
  refine Go.of (fun _ k => XS.goto X2.here hx rfl (pc0 := 10) (pc' := 14) rfl (hb hby d8_10) (by decide) (by decide) k) ?_
  show Go p e below _ (T2.setTop (mkF m 14 #[.val (.ref o0)] [(.int (0 : Int32))]))
  obtain ⟨fs, hr, hrun, hended, hW, hsame⟩ := X2.leave (v := some (.int (0 : Int32))) (fun h => by rw [Bd.returns] at h; cases h)
  refine Go.mk _ _ ?_ hrun hended ⟨_, _, rfl, ?_, ⟨_, rfl⟩, hW, hsame.mono (by decide) (by decide)⟩
  · exact retN X2 hx (t := .byte) Bd.returns (by simp) (hb hby d8_14) hr
  · show Q8 Z o0 w_COMPACT_STRINGS h0 n0 _ T2.heap _
    rw [e2]
    exact ⟨rfl, N0, rfl⟩
theorem d11_0 : decode jdk_68_method_71_code 0 = .ok (.getstatic 18, 3) := by decide +kernel
theorem d11_3 : decode jdk_68_method_71_code 3 = .ok (.ifCond .eq 18, 3) := by decide +kernel
theorem d11_6 : decode jdk_68_method_71_code 6 = .ok (.aload_n 0, 1) := by decide +kernel
theorem d11_7 : decode jdk_68_method_71_code 7 = .ok (.getfield 22, 3) := by decide +kernel
theorem d11_10 : decode jdk_68_method_71_code 10 = .ok (.aload_n 1, 1) := by decide +kernel
theorem d11_11 : decode jdk_68_method_71_code 11 = .ok (.invokevirtual 40, 3) := by decide +kernel
theorem pd_1 : parseMethodDescriptor "()B" = some ⟨[], some .byte⟩ := by decide +kernel
abbrev own_y_String_coder_1 : MethodName := ⟨"java/lang/String", "coder", "()B"⟩
theorem d11_14 : decode jdk_68_method_71_code 14 = .ok (.if_icmp .eq 7, 3) := by decide +kernel
theorem d11_21 : decode jdk_68_method_71_code 21 = .ok (.return_, 1) := by decide +kernel
theorem ef_11 (m : MethodId) (x0 : Addr) (x1 : Addr) : entryFrame m #[(.ref x0), (.ref x1)] 2 = mkF m 0 #[.val (.ref x0), .val (.ref x1)] [] := by first | (simp [entryFrame, mkF, argsToLocals, Value.category]; done) | rfl
def Q11 (Z : State) (o0 : Addr) (o1 : Addr) (w_COMPACT_STRINGS : Int32) (h0 : Heap) (n0 : Nat) (v : Option Value) (h : Heap) (L : List Loc) : Prop := v = none ∧ Fr n0 L ∧ h = h0
set_option maxRecDepth 65536 in
set_option maxHeartbeats 40000000 in
theorem rm11 (l : Launch) (Z : State) (a0 : Array Value) (hw : ∀ d ∈ tables_1, d.before a0 Z = true) (ws : List Jvm.Cond) (o0 : Addr) (o1 : Addr) (w_COMPACT_STRINGS : Int32) (h0 : Heap) (n0 : Nat) (Z0 : n0 ≤ h0.size) (S_COMPACT_STRINGS : Sta Z h0 "java/lang/String" "COMPACT_STRINGS" "Z" (.int w_COMPACT_STRINGS)) (hc3 : ¬ (w_COMPACT_STRINGS = (0 : Int32))) (F_o0_coder : Fld Z h0 o0 "java/lang/AbstractStringBuilder" "coder" "B" (.int (0 : Int32))) (F_o1_coder : Fld Z h0 o1 "java/lang/String" "coder" "B" (.int (0 : Int32))) (E_o1 : Exa Z h0 o1 "java/lang/String") :
    MetFree l (⟨"java/lang/AbstractStringBuilder", "inflateIfNeededFor", "(Ljava/lang/String;)V"⟩ : MethodName) (head1 (Jvm.Cond.code (⟨"java/lang/AbstractStringBuilder", "inflateIfNeededFor", "(Ljava/lang/String;)V"⟩ : MethodName) jdk_68_method_71_code 2 none :: ws) ({ frames := 1, cells := 0, slots := 0, locals := 13 } : Room)) (fun a U => a = #[(.ref o0), (.ref o1)] ∧ Z.Warmed39 U.vm ∧ U.heap = h0) (fun _ _ _ _ _ => True) (fun _ U o U' => ∃ v L, o = .returned v ∧ Q11 Z o0 o1 w_COMPACT_STRINGS h0 n0 v U'.heap L ∧ FrameEnd U o U' L ({ frames := 1, cells := 0, slots := 0, locals := 13 } : Room).cells ({ frames := 1, cells := 0, slots := 0, locals := 13 } : Room).slots) := by
  refine MetFree.of_bodySF (plainFor_of_name pn_java_lang_AbstractStringBuilder) hisR ?_
  intro p e s m args below meth c s₁ Bd hml0 hP hK
  obtain ⟨rfl, hZ, hh⟩ := hP
  have hx := Bd.exec
  have hby := Bd.bytes
  have hml : c.maxLocals = 2 := hml0
  have hown : s.vm.findClass "java/lang/AbstractStringBuilder" = some m.cls := findClass_of_methodNamed Bd.named
  have hnm := (name_of_methodNamed Bd.named Bd.method).1
  have X0 : Stand p l e ({ frames := 1, cells := 0, slots := 0, locals := 13 } : Room) s m #[(.ref o0), (.ref o1)] below meth c s₁ [] 0 0 := Stand.of_body Bd
  have e0 : s₁.heap = h0 := by rw [← hh, Bd.state]; rfl
  have N0 := Fr.nil n0
  show Go p e below (fun o U' => ∃ v L, o = .returned v ∧ Q11 Z o0 o1 w_COMPACT_STRINGS h0 n0 v U'.heap L ∧ FrameEnd s o U' L ({ frames := 1, cells := 0, slots := 0, locals := 13 } : Room).cells ({ frames := 1, cells := 0, slots := 0, locals := 13 } : Room).slots) (s₁.setTop (entryFrame m #[(.ref o0), (.ref o1)] 2))
  refine Go.of (fun _ k => castTop (ef_11 m o0 o1) k) ?_
  show Go p e below _ (s₁.setTop (mkF m 0 #[.val (.ref o0), .val (.ref o1)] []))
  obtain ⟨T1, X1, e1, st1⟩ := getS2 X0 hx hZ hown (host := "") (Or.inl (own_h hw 21 rfl)) Via.refl e0 S_COMPACT_STRINGS (g := (mkF m 0 #[.val (.ref o0), .val (.ref o1)] [])) rfl (hb hby d11_0)
  refine Go.of st1 ?_
  show Go p e below _ (T1.setTop (mkF m 3 #[.val (.ref o0), .val (.ref o1)] [(.int w_COMPACT_STRINGS)]))
  refine Go.of (fun _ k => XS.ifNo X1.here hx rfl (hb hby d11_3) rfl ((if0 _ _).trans (feq hc3).1) k) ?_
  show Go p e below _ (T1.setTop (mkF m 6 #[.val (.ref o0), .val (.ref o1)] []))
  refine Go.of (fun _ k => XS.aloadN X1.here hx rfl (hb hby d11_6) rfl rfl k) ?_
  obtain ⟨T2, X2, e2, st2⟩ := getF X1 hx hZ hown (host := "") (Or.inl (own_h hw 26 rfl)) Via.refl e1 F_o0_coder (g := (mkF m 7 #[.val (.ref o0), .val (.ref o1)] [(.ref o0)])) rfl rfl (hb hby d11_7)
  refine Go.of st2 ?_
  show Go p e below _ (T2.setTop (mkF m 10 #[.val (.ref o0), .val (.ref o1)] [(.int (0 : Int32))]))
  refine Go.of (fun _ k => XS.aloadN X2.here hx rfl (hb hby d11_10) rfl rfl k) ?_
  obtain ⟨cq3, kq3, q3a, q3b, q3c⟩ := isOf hZ e2 E_o1
  obtain ⟨_, _, ⟨T3, L3, k3, n3⟩, -, X3, ⟨Lc3, hQ3, l3, y3, z3⟩, st3⟩ := X2.virtualBack hx (y := own_y_String_coder_1) (z := own_y_String_coder_1) hown (mvT hZ (own_h hw 74 rfl)) (mvT hZ (own_h hw 51 rfl)) (notFace_of_selects (args := #[]) (mvT hZ (own_h hw 53 rfl))) (mvT hZ (own_h hw 53 rfl)) (mvT hZ (own_h hw 52 rfl)) (by decide) (backOf (W := 1) (rm8 l Z a0 hw [] o1 w_COMPACT_STRINGS h0 n0 Z0 S_COMPACT_STRINGS hc3 F_o1_coder) hZ (own_h hw 54 rfl) (own_h hw 22 rfl) (by decide) (by decide)) q3a q3c (g := (mkF m 11 #[.val (.ref o0), .val (.ref o1)] [(.ref o1), (.int (0 : Int32))])) rfl (by rw [hml]; rfl) (Steps.refl _) (argsL := []) (rest := [(.int (0 : Int32))]) (lenOf pd_1 rfl) rfl (Nat.le_of_eq rfl) (hb hby d11_11) (fun _ _ => ⟨rfl, e2, (by decide : 0 + 0 ≤ _), (by decide : 0 + 0 ≤ _)⟩)
  dsimp only [Pt.U, Pt.locs, Pt.cells, Pt.slots] at X3 l3 y3 z3 st3 hQ3
  subst l3 y3 z3
  obtain ⟨rfl, Nq3, q3_0⟩ := hQ3
  have N3 := Fr.app N0 Nq3
  refine Go.tr st3 ?_
  show Go p e below _ (T3.setTop (mkF m 14 #[.val (.ref o0), .val (.ref o1)] [(.int (0 : Int32)), (.int (0 : Int32))]))
  refine Go.of (fun _ k => XS.icmpYes X3.here hx rfl (pc0 := 14) (pc' := 21) rfl (hb hby d11_14) rfl (teq (by decide : (0 : Int32) = (0 : Int32))).1 (by decide) (by decide) k) ?_
  show Go p e below _ (T3.setTop (mkF m 21 #[.val (.ref o0), .val (.ref o1)] []))
  obtain ⟨fs, hr, hrun, hended, hW, hsame⟩ := X3.leave (v := none) (fun _ => rfl)
  refine Go.mk _ _ ?_ hrun hended ⟨_, _, rfl, ?_, ⟨_, rfl⟩, hW, hsame.mono (by decide) (by decide)⟩
  · exact X3.returnOut hx Bd.returns (hb hby d11_21) hr
  · show Q11 Z o0 o1 w_COMPACT_STRINGS h0 n0 _ T3.heap _
    rw [q3_0]
    exact ⟨rfl, N3, rfl⟩
theorem d7_0 : decode jdk_42_method_54_code 0 = .ok (.aload_n 0, 1) := by decide +kernel
theorem d7_1 : decode jdk_42_method_54_code 1 = .ok (.getfield 9, 3) := by decide +kernel
theorem d7_4 : decode jdk_42_method_54_code 4 = .ok (.arraylength, 1) := by decide +kernel
theorem d7_5 : decode jdk_42_method_54_code 5 = .ok (.aload_n 0, 1) := by decide +kernel
theorem d7_6 : decode jdk_42_method_54_code 6 = .ok (.invokevirtual 335, 3) := by decide +kernel
theorem d7_9 : decode jdk_42_method_54_code 9 = .ok (.ishr, 1) := by decide +kernel
theorem d7_10 : decode jdk_42_method_54_code 10 = .ok (.ireturn, 1) := by decide +kernel
theorem ef_7 (m : MethodId) (x0 : Addr) : entryFrame m #[(.ref x0)] 1 = mkF m 0 #[.val (.ref x0)] [] := by first | (simp [entryFrame, mkF, argsToLocals, Value.category]; done) | rfl
def Q7_5 (Z : State) (o0 : Addr) (f_o0_value : Addr) (kv : ClassId) (w_COMPACT_STRINGS : Int32) (h0 : Heap) (n0 : Nat) (v : Option Value) (h : Heap) (L : List Loc) : Prop := v = some (.int (5 : Int32)) ∧ Fr n0 L ∧ h = h0
set_option maxRecDepth 65536 in
set_option maxHeartbeats 40000000 in
theorem rm7_5 (l : Launch) (Z : State) (a0 : Array Value) (hw : ∀ d ∈ tables_1, d.before a0 Z = true) (ws : List Jvm.Cond) (o0 : Addr) (f_o0_value : Addr) (kv : ClassId) (w_COMPACT_STRINGS : Int32) (h0 : Heap) (n0 : Nat) (Z0 : n0 ≤ h0.size) (F_o0_value : Fld Z h0 o0 "java/lang/String" "value" "[B" (.ref f_o0_value)) (V_f_o0_value : Arv Z h0 f_o0_value kv .byte (5 : Int32) [(.int (104 : Int32)), (.int (116 : Int32)), (.int (116 : Int32)), (.int (112 : Int32)), (.int (45 : Int32))] (.int (0 : Int32))) (S_COMPACT_STRINGS : Sta Z h0 "java/lang/String" "COMPACT_STRINGS" "Z" (.int w_COMPACT_STRINGS)) (hc3_3 : ¬ (w_COMPACT_STRINGS = (0 : Int32))) (F_o0_coder : Fld Z h0 o0 "java/lang/String" "coder" "B" (.int (0 : Int32))) (E_o0 : Exa Z h0 o0 "java/lang/String") :
    MetFree l (⟨"java/lang/String", "length", "()I"⟩ : MethodName) (head1 (Jvm.Cond.code (⟨"java/lang/String", "length", "()I"⟩ : MethodName) jdk_42_method_54_code 1 (some .int) :: ws) ({ frames := 1, cells := 0, slots := 0, locals := 13 } : Room)) (fun a U => a = #[(.ref o0)] ∧ Z.Warmed39 U.vm ∧ U.heap = h0) (fun _ _ _ _ _ => True) (fun _ U o U' => ∃ v L, o = .returned v ∧ Q7_5 Z o0 f_o0_value kv w_COMPACT_STRINGS h0 n0 v U'.heap L ∧ FrameEnd U o U' L ({ frames := 1, cells := 0, slots := 0, locals := 13 } : Room).cells ({ frames := 1, cells := 0, slots := 0, locals := 13 } : Room).slots) := by
  refine MetFree.of_bodySF (plainFor_of_name pn_java_lang_String) hisR ?_
  intro p e s m args below meth c s₁ Bd hml0 hP hK
  obtain ⟨rfl, hZ, hh⟩ := hP
  have hx := Bd.exec
  have hby := Bd.bytes
  have hml : c.maxLocals = 1 := hml0
  have hown : s.vm.findClass "java/lang/String" = some m.cls := findClass_of_methodNamed Bd.named
  have hnm := (name_of_methodNamed Bd.named Bd.method).1
  have X0 : Stand p l e ({ frames := 1, cells := 0, slots := 0, locals := 13 } : Room) s m #[(.ref o0)] below meth c s₁ [] 0 0 := Stand.of_body Bd
  have e0 : s₁.heap = h0 := by rw [← hh, Bd.state]; rfl
  have N0 := Fr.nil n0
  show Go p e below (fun o U' => ∃ v L, o = .returned v ∧ Q7_5 Z o0 f_o0_value kv w_COMPACT_STRINGS h0 n0 v U'.heap L ∧ FrameEnd s o U' L ({ frames := 1, cells := 0, slots := 0, locals := 13 } : Room).cells ({ frames := 1, cells := 0, slots := 0, locals := 13 } : Room).slots) (s₁.setTop (entryFrame m #[(.ref o0)] 1))
  refine Go.of (fun _ k => castTop (ef_7 m o0) k) ?_
  show Go p e below _ (s₁.setTop (mkF m 0 #[.val (.ref o0)] []))
  refine Go.of (fun _ k => XS.aloadN X0.here hx rfl (hb hby d7_0) rfl rfl k) ?_
  obtain ⟨T1, X1, e1, st1⟩ := getF X0 hx hZ hown (host := "") (Or.inl (own_h hw 49 rfl)) Via.refl e0 F_o0_value (g := (mkF m 1 #[.val (.ref o0)] [(.ref o0)])) rfl rfl (hb hby d7_1)
  refine Go.of st1 ?_
  show Go p e below _ (T1.setTop (mkF m 4 #[.val (.ref o0)] [(.ref f_o0_value)]))
  obtain ⟨clt2, Art2, qt2, st2, nt2, Ht2, Gt2⟩ := id V_f_o0_value
  refine Go.of (fun _ k => X1.arraylength hx (by rw [e1]; exact Art2.1) (State.isArrayOf_alike hZ.alike Art2.2.1) (g := (mkF m 4 #[.val (.ref o0)] [(.ref f_o0_value)])) rfl rfl (hb hby d7_4) _ k) ?_
  rw [len_of st2 nt2]
  show Go p e below _ (T1.setTop (mkF m 5 #[.val (.ref o0)] [(.int (5 : Int32))]))
  refine Go.of (fun _ k => XS.aloadN X1.here hx rfl (hb hby d7_5) rfl rfl k) ?_
  obtain ⟨cq3, kq3, q3a, q3b, q3c⟩ := isOf hZ e1 E_o0
  obtain ⟨_, _, ⟨T3, L3, k3, n3⟩, -, X3, ⟨Lc3, hQ3, l3, y3, z3⟩, st3⟩ := X1.virtualBack hx (y := own_y_String_coder_1) (z := own_y_String_coder_1) hown (mvT hZ (own_h hw 50 rfl)) (mvT hZ (own_h hw 51 rfl)) (notFace_of_selects (args := #[]) (mvT hZ (own_h hw 53 rfl))) (mvT hZ (own_h hw 53 rfl)) (mvT hZ (own_h hw 52 rfl)) (by decide) (backOf (W := 1) (rm8 l Z a0 hw [] o0 w_COMPACT_STRINGS h0 n0 Z0 S_COMPACT_STRINGS hc3_3 F_o0_coder) hZ (own_h hw 54 rfl) (own_h hw 22 rfl) (by decide) (by decide)) q3a q3c (g := (mkF m 6 #[.val (.ref o0)] [(.ref o0), (.int (5 : Int32))])) rfl (by rw [hml]; rfl) (Steps.refl _) (argsL := []) (rest := [(.int (5 : Int32))]) (lenOf pd_1 rfl) rfl (Nat.le_of_eq rfl) (hb hby d7_6) (fun _ _ => ⟨rfl, e1, (by decide : 0 + 0 ≤ _), (by decide : 0 + 0 ≤ _)⟩)
  dsimp only [Pt.U, Pt.locs, Pt.cells, Pt.slots] at X3 l3 y3 z3 st3 hQ3
  subst l3 y3 z3
  obtain ⟨rfl, Nq3, q3_0⟩ := hQ3
  have N3 := Fr.app N0 Nq3
  refine Go.tr st3 ?_
  show Go p e below _ (T3.setTop (mkF m 9 #[.val (.ref o0)] [(.int (0 : Int32)), (.int (5 : Int32))]))
  refine Go.of (fun _ k => XS.ishr X3.here hx rfl (hb hby d7_9) rfl k) ?_
  show Go p e below _ (T3.setTop (mkF m 10 #[.val (.ref o0)] [(.int (5 : Int32))]))
  obtain ⟨fs, hr, hrun, hended, hW, hsame⟩ := X3.leave (v := some (.int (5 : Int32))) (fun h => by rw [Bd.returns] at h; cases h)
  refine Go.mk _ _ ?_ hrun hended ⟨_, _, rfl, ?_, ⟨_, rfl⟩, hW, hsame.mono (by decide) (by decide)⟩
  · exact retI X3 hx Bd.returns (hb hby d7_10) hr
  · show Q7_5 Z o0 f_o0_value kv w_COMPACT_STRINGS h0 n0 _ T3.heap _
    rw [q3_0]
    exact ⟨rfl, N3, rfl⟩
theorem d12_0 : decode jdk_42_method_147_code 0 = .ok (.aload_n 0, 1) := by decide +kernel
theorem d12_1 : decode jdk_42_method_147_code 1 = .ok (.invokevirtual 335, 3) := by decide +kernel
theorem d12_4 : decode jdk_42_method_147_code 4 = .ok (.iload_n 3, 1) := by decide +kernel
theorem d12_5 : decode jdk_42_method_147_code 5 = .ok (.if_icmp .ne 23, 3) := by decide +kernel
theorem d12_8 : decode jdk_42_method_147_code 8 = .ok (.aload_n 0, 1) := by decide +kernel
theorem d12_9 : decode jdk_42_method_147_code 9 = .ok (.getfield 9, 3) := by decide +kernel
theorem d12_12 : decode jdk_42_method_147_code 12 = .ok (.iconst 0, 1) := by decide +kernel
theorem d12_13 : decode jdk_42_method_147_code 13 = .ok (.aload_n 1, 1) := by decide +kernel
theorem d12_14 : decode jdk_42_method_147_code 14 = .ok (.iload_n 2, 1) := by decide +kernel
theorem d12_15 : decode jdk_42_method_147_code 15 = .ok (.iload_n 3, 1) := by decide +kernel
theorem d12_16 : decode jdk_42_method_147_code 16 = .ok (.ishl, 1) := by decide +kernel
theorem d12_17 : decode jdk_42_method_147_code 17 = .ok (.aload_n 0, 1) := by decide +kernel
theorem d12_18 : decode jdk_42_method_147_code 18 = .ok (.getfield 9, 3) := by decide +kernel
theorem d12_21 : decode jdk_42_method_147_code 21 = .ok (.arraylength, 1) := by decide +kernel
theorem d12_22 : decode jdk_42_method_147_code 22 = .ok (.invokestatic 212, 3) := by decide +kernel
theorem d12_25 : decode jdk_42_method_147_code 25 = .ok (.goto 18, 3) := by decide +kernel
theorem d12_43 : decode jdk_42_method_147_code 43 = .ok (.return_, 1) := by decide +kernel
theorem ef_12l2_0l3_0 (m : MethodId) (x0 : Addr) (x1 : Addr) : entryFrame m #[(.ref x0), (.ref x1), (.int (0 : Int32)), (.int (0 : Int32))] 4 = mkF m 0 #[.val (.ref x0), .val (.ref x1), .val (.int (0 : Int32)), .val (.int (0 : Int32))] [] := by first | (simp [entryFrame, mkF, argsToLocals, Value.category]; done) | rfl
def Q12_5 (Z : State) (o0 : Addr) (o1 : Addr) (w_COMPACT_STRINGS : Int32) (f_o0_value : Addr) (ks : ClassId) (kd : ClassId) (h0 : Heap) (n0 : Nat) (v : Option Value) (h : Heap) (L : List Loc) : Prop := v = none ∧ Fr n0 L ∧ Keep h0 h [o1] ∧ Arv Z h o1 kd .byte (16 : Int32) [(.int (104 : Int32)), (.int (116 : Int32)), (.int (116 : Int32)), (.int (112 : Int32)), (.int (45 : Int32)), (.int (0 : Int32)), (.int (0 : Int32)), (.int (0 : Int32)), (.int (0 : Int32)), (.int (0 : Int32)), (.int (0 : Int32)), (.int (0 : Int32)), (.int (0 : Int32)), (.int (0 : Int32)), (.int (0 : Int32)), (.int (0 : Int32))] (.int (0 : Int32))
set_option maxRecDepth 65536 in
set_option maxHeartbeats 40000000 in
theorem rm12_5 (l : Launch) (Z : State) (a0 : Array Value) (hw : ∀ d ∈ tables_1, d.before a0 Z = true) (ws : List Jvm.Cond) (o0 : Addr) (o1 : Addr) (w_COMPACT_STRINGS : Int32) (f_o0_value : Addr) (ks : ClassId) (kd : ClassId) (h0 : Heap) (n0 : Nat) (Z0 : n0 ≤ h0.size) (S_COMPACT_STRINGS : Sta Z h0 "java/lang/String" "COMPACT_STRINGS" "Z" (.int w_COMPACT_STRINGS)) (hc3_1 : ¬ (w_COMPACT_STRINGS = (0 : Int32))) (F_o0_coder : Fld Z h0 o0 "java/lang/String" "coder" "B" (.int (0 : Int32))) (E_o0 : Exa Z h0 o0 "java/lang/String") (F_o0_value : Fld Z h0 o0 "java/lang/String" "value" "[B" (.ref f_o0_value)) (V_f_o0_value : Arv Z h0 f_o0_value ks .byte (5 : Int32) [(.int (104 : Int32)), (.int (116 : Int32)), (.int (116 : Int32)), (.int (112 : Int32)), (.int (45 : Int32))] (.int (0 : Int32))) (V_o1 : Arv Z h0 o1 kd .byte (16 : Int32) [(.int (0 : Int32)), (.int (0 : Int32)), (.int (0 : Int32)), (.int (0 : Int32)), (.int (0 : Int32)), (.int (0 : Int32)), (.int (0 : Int32)), (.int (0 : Int32)), (.int (0 : Int32)), (.int (0 : Int32)), (.int (0 : Int32)), (.int (0 : Int32)), (.int (0 : Int32)), (.int (0 : Int32)), (.int (0 : Int32)), (.int (0 : Int32))] (.int (0 : Int32))) (g_o1 : n0 ≤ o1) :
    MetFree l (⟨"java/lang/String", "getBytes", "([BIB)V"⟩ : MethodName) (head1 (Jvm.Cond.code (⟨"java/lang/String", "getBytes", "([BIB)V"⟩ : MethodName) jdk_42_method_147_code 4 none :: ws) ({ frames := 1, cells := 0, slots := 0, locals := 32 } : Room)) (fun a U => a = #[(.ref o0), (.ref o1), (.int (0 : Int32)), (.int (0 : Int32))] ∧ Z.Warmed39 U.vm ∧ U.heap = h0) (fun _ _ _ _ _ => True) (fun _ U o U' => ∃ v L, o = .returned v ∧ Q12_5 Z o0 o1 w_COMPACT_STRINGS f_o0_value ks kd h0 n0 v U'.heap L ∧ FrameEnd U o U' L ({ frames := 1, cells := 0, slots := 0, locals := 32 } : Room).cells ({ frames := 1, cells := 0, slots := 0, locals := 32 } : Room).slots) := by
  refine MetFree.of_bodySF (plainFor_of_name pn_java_lang_String) hisR ?_
  intro p e s m args below meth c s₁ Bd hml0 hP hK
  obtain ⟨rfl, hZ, hh⟩ := hP
  have hx := Bd.exec
  have hby := Bd.bytes
  have hml : c.maxLocals = 4 := hml0
  have hown : s.vm.findClass "java/lang/String" = some m.cls := findClass_of_methodNamed Bd.named
  have hnm := (name_of_methodNamed Bd.named Bd.method).1
  have X0 : Stand p l e ({ frames := 1, cells := 0, slots := 0, locals := 32 } : Room) s m #[(.ref o0), (.ref o1), (.int (0 : Int32)), (.int (0 : Int32))] below meth c s₁ [] 0 0 := Stand.of_body Bd
  have e0 : s₁.heap = h0 := by rw [← hh, Bd.state]; rfl
  have N0 := Fr.nil n0
  show Go p e below (fun o U' => ∃ v L, o = .returned v ∧ Q12_5 Z o0 o1 w_COMPACT_STRINGS f_o0_value ks kd h0 n0 v U'.heap L ∧ FrameEnd s o U' L ({ frames := 1, cells := 0, slots := 0, locals := 32 } : Room).cells ({ frames := 1, cells := 0, slots := 0, locals := 32 } : Room).slots) (s₁.setTop (entryFrame m #[(.ref o0), (.ref o1), (.int (0 : Int32)), (.int (0 : Int32))] 4))
  refine Go.of (fun _ k => castTop (ef_12l2_0l3_0 m o0 o1) k) ?_
  show Go p e below _ (s₁.setTop (mkF m 0 #[.val (.ref o0), .val (.ref o1), .val (.int (0 : Int32)), .val (.int (0 : Int32))] []))
  refine Go.of (fun _ k => XS.aloadN X0.here hx rfl (hb hby d12_0) rfl rfl k) ?_
  obtain ⟨cq1, kq1, q1a, q1b, q1c⟩ := isOf hZ e0 E_o0
  obtain ⟨_, _, ⟨T1, L1, k1, n1⟩, -, X1, ⟨Lc1, hQ1, l1, y1, z1⟩, st1⟩ := X0.virtualBack hx (y := own_y_String_coder_1) (z := own_y_String_coder_1) hown (mvT hZ (own_h hw 50 rfl)) (mvT hZ (own_h hw 51 rfl)) (notFace_of_selects (args := #[]) (mvT hZ (own_h hw 53 rfl))) (mvT hZ (own_h hw 53 rfl)) (mvT hZ (own_h hw 52 rfl)) (by decide) (backOf (W := 0) (rm8 l Z a0 hw [] o0 w_COMPACT_STRINGS h0 n0 Z0 S_COMPACT_STRINGS hc3_1 F_o0_coder) hZ (own_h hw 54 rfl) (own_h hw 22 rfl) (by decide) (by decide)) q1a q1c (g := (mkF m 1 #[.val (.ref o0), .val (.ref o1), .val (.int (0 : Int32)), .val (.int (0 : Int32))] [(.ref o0)])) rfl (by rw [hml]; rfl) (Steps.refl _) (argsL := []) (rest := []) (lenOf pd_1 rfl) rfl (Nat.le_of_eq rfl) (hb hby d12_1) (fun _ _ => ⟨rfl, e0, (by decide : 0 + 0 ≤ _), (by decide : 0 + 0 ≤ _)⟩)
  dsimp only [Pt.U, Pt.locs, Pt.cells, Pt.slots] at X1 l1 y1 z1 st1 hQ1
  subst l1 y1 z1
  obtain ⟨rfl, Nq1, q1_0⟩ := hQ1
  have N1 := Fr.app N0 Nq1
  refine Go.tr st1 ?_
  show Go p e below _ (T1.setTop (mkF m 4 #[.val (.ref o0), .val (.ref o1), .val (.int (0 : Int32)), .val (.int (0 : Int32))] [(.int (0 : Int32))]))
  refine Go.of (fun _ k => XS.iloadN X1.here hx rfl (hb hby d12_4) rfl  k) ?_
  refine Go.of (fun _ k => XS.icmpNo X1.here hx rfl (hb hby d12_5) rfl (teq (by decide : (0 : Int32) = (0 : Int32))).2 k) ?_
  show Go p e below _ (T1.setTop (mkF m 8 #[.val (.ref o0), .val (.ref o1), .val (.int (0 : Int32)), .val (.int (0 : Int32))] []))
  refine Go.of (fun _ k => XS.aloadN X1.here hx rfl (hb hby d12_8) rfl rfl k) ?_
  obtain ⟨T2, X2, e2, st2⟩ := getF X1 hx hZ hown (host := "") (Or.inl (own_h hw 49 rfl)) Via.refl q1_0 F_o0_value (g := (mkF m 9 #[.val (.ref o0), .val (.ref o1), .val (.int (0 : Int32)), .val (.int (0 : Int32))] [(.ref o0)])) rfl rfl (hb hby d12_9)
  refine Go.of st2 ?_
  show Go p e below _ (T2.setTop (mkF m 12 #[.val (.ref o0), .val (.ref o1), .val (.int (0 : Int32)), .val (.int (0 : Int32))] [(.ref f_o0_value)]))
  refine Go.of (fun _ k => XS.iconst X2.here hx rfl (hb hby d12_12) k) ?_
  refine Go.of (fun _ k => XS.aloadN X2.here hx rfl (hb hby d12_13) rfl rfl k) ?_
  refine Go.of (fun _ k => XS.iloadN X2.here hx rfl (hb hby d12_14) rfl  k) ?_
  refine Go.of (fun _ k => XS.iloadN X2.here hx rfl (hb hby d12_15) rfl  k) ?_
  refine Go.of (fun _ k => XS.ishl X2.here hx rfl (hb hby d12_16) rfl k) ?_
  show Go p e below _ (T2.setTop (mkF m 17 #[.val (.ref o0), .val (.ref o1), .val (.int (0 : Int32)), .val (.int (0 : Int32))] [(.int (0 : Int32)), (.ref o1), (.int (0 : Int32)), (.ref f_o0_value)]))
  refine Go.of (fun _ k => XS.aloadN X2.here hx rfl (hb hby d12_17) rfl rfl k) ?_
  obtain ⟨T3, X3, e3, st3⟩ := getF X2 hx hZ hown (host := "") (Or.inl (own_h hw 49 rfl)) Via.refl e2 F_o0_value (g := (mkF m 18 #[.val (.ref o0), .val (.ref o1), .val (.int (0 : Int32)), .val (.int (0 : Int32))] [(.ref o0), (.int (0 : Int32)), (.ref o1), (.int (0 : Int32)), (.ref f_o0_value)])) rfl rfl (hb hby d12_18)
  refine Go.of st3 ?_
  show Go p e below _ (T3.setTop (mkF m 21 #[.val (.ref o0), .val (.ref o1), .val (.int (0 : Int32)), .val (.int (0 : Int32))] [(.ref f_o0_value), (.int (0 : Int32)), (.ref o1), (.int (0 : Int32)), (.ref f_o0_value)]))
  obtain ⟨clt4, Art4, qt4, st4, nt4, Ht4, Gt4⟩ := id V_f_o0_value
  refine Go.of (fun _ k => X3.arraylength hx (by rw [e3]; exact Art4.1) (State.isArrayOf_alike hZ.alike Art4.2.1) (g := (mkF m 21 #[.val (.ref o0), .val (.ref o1), .val (.int (0 : Int32)), .val (.int (0 : Int32))] [(.ref f_o0_value), (.int (0 : Int32)), (.ref o1), (.int (0 : Int32)), (.ref f_o0_value)])) rfl rfl (hb hby d12_21) _ k) ?_
  rw [len_of st4 nt4]
  show Go p e below _ (T3.setTop (mkF m 22 #[.val (.ref o0), .val (.ref o1), .val (.int (0 : Int32)), .val (.int (0 : Int32))] [(.int (5 : Int32)), (.int (0 : Int32)), (.ref o1), (.int (0 : Int32)), (.ref f_o0_value)]))
  obtain ⟨T5, h5, L5, X5, e5, N5, q5_0, V5, st5⟩ := cpA X3 hx hZ hown (own_h hw 80 rfl) (own_h hw 83 rfl) (own_h hw 81 rfl) (own_h hw 82 rfl) e3 V_f_o0_value V_o1 (us := [(.int (104 : Int32)), (.int (116 : Int32)), (.int (116 : Int32)), (.int (112 : Int32)), (.int (45 : Int32))]) (Or.inl ⟨rfl, rfl⟩) (by decide) (by decide) (by decide) (by decide) (by decide) rfl (Nat.le_of_ble_eq_true rfl) N1 g_o1 (g := (mkF m 22 #[.val (.ref o0), .val (.ref o1), .val (.int (0 : Int32)), .val (.int (0 : Int32))] [(.int (5 : Int32)), (.int (0 : Int32)), (.ref o1), (.int (0 : Int32)), (.ref f_o0_value)])) rfl (by rw [hml]; rfl) (rest := []) rfl (hb hby d12_22) (by decide) (W := 0) (Nat.le_of_eq rfl) (by decide)
  refine Go.of st5 ?_
  have K5 : Keep h0 h5 [o1] := ((Keep.refl h0 [o1])).trans q5_0 (allS (Or.inl (List.mem_of_getElem? (i := 0) rfl)) all0)
  have Z5 : n0 ≤ h5.size := Nat.le_trans Z0 q5_0.1
  have Vc5 : Arv Z h5 o1 kd .byte (16 : Int32) [(.int (104 : Int32)), (.int (116 : Int32)), (.int (116 : Int32)), (.int (112 : Int32)), (.int (45 : Int32)), (.int (0 : Int32)), (.int (0 : Int32)), (.int (0 : Int32)), (.int (0 : Int32)), (.int (0 : Int32)), (.int (0 : Int32)), (.int (0 : Int32)), (.int (0 : Int32)), (.int (0 : Int32)), (.int (0 : Int32)), (.int (0 : Int32))] (.int (0 : Int32)) := V5
  show Go p e below _ (T5.setTop (mkF m 25 #[.val (.ref o0), .val (.ref o1), .val (.int (0 : Int32)), .val (.int (0 : Int32))] []))
  refine Go.of (fun _ k => XS.goto X5.here hx rfl (pc0 := 25) (pc' := 43) rfl (hb hby d12_25) (by decide) (by decide) k) ?_
  show Go p e below _ (T5.setTop (mkF m 43 #[.val (.ref o0), .val (.ref o1), .val (.int (0 : Int32)), .val (.int (0 : Int32))] []))
  obtain ⟨fs, hr, hrun, hended, hW, hsame⟩ := X5.leave (v := none) (fun _ => rfl)
  refine Go.mk _ _ ?_ hrun hended ⟨_, _, rfl, ?_, ⟨_, rfl⟩, hW, hsame.mono (by decide) (by decide)⟩
  · exact X5.returnOut hx Bd.returns (hb hby d12_43) hr
  · show Q12_5 Z o0 o1 w_COMPACT_STRINGS f_o0_value ks kd h0 n0 _ T5.heap _
    rw [e5]
    exact ⟨rfl, N5, K5, Vc5⟩
theorem d10_0 : decode jdk_68_method_73_code 0 = .ok (.aload_n 0, 1) := by decide +kernel
theorem d10_1 : decode jdk_68_method_73_code 1 = .ok (.aload_n 2, 1) := by decide +kernel
theorem d10_2 : decode jdk_68_method_73_code 2 = .ok (.invokevirtual 397, 3) := by decide +kernel
theorem pd_2 : parseMethodDescriptor "(Ljava/lang/String;)V" = some ⟨[(.object "java/lang/String")], none⟩ := by decide +kernel
abbrev own_y_AbstractStringBuilder_inflateIfNeededFor_2 : MethodName := ⟨"java/lang/AbstractStringBuilder", "inflateIfNeededFor", "(Ljava/lang/String;)V"⟩
theorem d10_5 : decode jdk_68_method_73_code 5 = .ok (.aload_n 2, 1) := by decide +kernel
theorem d10_6 : decode jdk_68_method_73_code 6 = .ok (.aload_n 0, 1) := by decide +kernel
theorem d10_7 : decode jdk_68_method_73_code 7 = .ok (.getfield 15, 3) := by decide +kernel
theorem d10_10 : decode jdk_68_method_73_code 10 = .ok (.iload_n 1, 1) := by decide +kernel
theorem d10_11 : decode jdk_68_method_73_code 11 = .ok (.aload_n 0, 1) := by decide +kernel
theorem d10_12 : decode jdk_68_method_73_code 12 = .ok (.getfield 22, 3) := by decide +kernel
theorem d10_15 : decode jdk_68_method_73_code 15 = .ok (.invokevirtual 399, 3) := by decide +kernel
theorem pd_3 : parseMethodDescriptor "([BIB)V" = some ⟨[(.array .byte), .int, .byte], none⟩ := by decide +kernel
abbrev own_y_String_getBytes_3 : MethodName := ⟨"java/lang/String", "getBytes", "([BIB)V"⟩
theorem d10_18 : decode jdk_68_method_73_code 18 = .ok (.return_, 1) := by decide +kernel
theorem ef_10l1_0 (m : MethodId) (x0 : Addr) (x2 : Addr) : entryFrame m #[(.ref x0), (.int (0 : Int32)), (.ref x2)] 3 = mkF m 0 #[.val (.ref x0), .val (.int (0 : Int32)), .val (.ref x2)] [] := by first | (simp [entryFrame, mkF, argsToLocals, Value.category]; done) | rfl
def Q10_5 (Z : State) (o0 : Addr) (o2 : Addr) (w_COMPACT_STRINGS : Int32) (f_o0_value : Addr) (f_o2_value : Addr) (ks : ClassId) (kv : ClassId) (h0 : Heap) (n0 : Nat) (v : Option Value) (h : Heap) (L : List Loc) : Prop := v = none ∧ Fr n0 L ∧ Keep h0 h [f_o0_value] ∧ Arv Z h f_o0_value kv .byte (16 : Int32) [(.int (104 : Int32)), (.int (116 : Int32)), (.int (116 : Int32)), (.int (112 : Int32)), (.int (45 : Int32)), (.int (0 : Int32)), (.int (0 : Int32)), (.int (0 : Int32)), (.int (0 : Int32)), (.int (0 : Int32)), (.int (0 : Int32)), (.int (0 : Int32)), (.int (0 : Int32)), (.int (0 : Int32)), (.int (0 : Int32)), (.int (0 : Int32))] (.int (0 : Int32))
set_option maxRecDepth 65536 in
set_option maxHeartbeats 40000000 in
theorem rm10_5 (l : Launch) (Z : State) (a0 : Array Value) (hw : ∀ d ∈ tables_1, d.before a0 Z = true) (ws : List Jvm.Cond) (o0 : Addr) (o2 : Addr) (w_COMPACT_STRINGS : Int32) (f_o0_value : Addr) (f_o2_value : Addr) (ks : ClassId) (kv : ClassId) (h0 : Heap) (n0 : Nat) (Z0 : n0 ≤ h0.size) (S_COMPACT_STRINGS : Sta Z h0 "java/lang/String" "COMPACT_STRINGS" "Z" (.int w_COMPACT_STRINGS)) (hc3_1 : ¬ (w_COMPACT_STRINGS = (0 : Int32))) (F_o0_coder : Fld Z h0 o0 "java/lang/AbstractStringBuilder" "coder" "B" (.int (0 : Int32))) (F_o2_coder : Fld Z h0 o2 "java/lang/String" "coder" "B" (.int (0 : Int32))) (E_o2 : Exa Z h0 o2 "java/lang/String") (E_o0 : Exa Z h0 o0 "java/lang/StringBuilder") (F_o0_value : Fld Z h0 o0 "java/lang/AbstractStringBuilder" "value" "[B" (.ref f_o0_value)) (F_o2_value : Fld Z h0 o2 "java/lang/String" "value" "[B" (.ref f_o2_value)) (V_f_o2_value : Arv Z h0 f_o2_value ks .byte (5 : Int32) [(.int (104 : Int32)), (.int (116 : Int32)), (.int (116 : Int32)), (.int (112 : Int32)), (.int (45 : Int32))] (.int (0 : Int32))) (V_f_o0_value : Arv Z h0 f_o0_value kv .byte (16 : Int32) [(.int (0 : Int32)), (.int (0 : Int32)), (.int (0 : Int32)), (.int (0 : Int32)), (.int (0 : Int32)), (.int (0 : Int32)), (.int (0 : Int32)), (.int (0 : Int32)), (.int (0 : Int32)), (.int (0 : Int32)), (.int (0 : Int32)), (.int (0 : Int32)), (.int (0 : Int32)), (.int (0 : Int32)), (.int (0 : Int32)), (.int (0 : Int32))] (.int (0 : Int32))) (g_f_o0_value : n0 ≤ f_o0_value) :
    MetFree l (⟨"java/lang/AbstractStringBuilder", "putStringAt", "(ILjava/lang/String;)V"⟩ : MethodName) (head1 (Jvm.Cond.code (⟨"java/lang/AbstractStringBuilder", "putStringAt", "(ILjava/lang/String;)V"⟩ : MethodName) jdk_68_method_73_code 3 none :: ws) ({ frames := 2, cells := 0, slots := 0, locals := 47 } : Room)) (fun a U => a = #[(.ref o0), (.int (0 : Int32)), (.ref o2)] ∧ Z.Warmed39 U.vm ∧ U.heap = h0) (fun _ _ _ _ _ => True) (fun _ U o U' => ∃ v L, o = .returned v ∧ Q10_5 Z o0 o2 w_COMPACT_STRINGS f_o0_value f_o2_value ks kv h0 n0 v U'.heap L ∧ FrameEnd U o U' L ({ frames := 2, cells := 0, slots := 0, locals := 47 } : Room).cells ({ frames := 2, cells := 0, slots := 0, locals := 47 } : Room).slots) := by
  refine MetFree.of_bodySF (plainFor_of_name pn_java_lang_AbstractStringBuilder) hisR ?_
  intro p e s m args below meth c s₁ Bd hml0 hP hK
  obtain ⟨rfl, hZ, hh⟩ := hP
  have hx := Bd.exec
  have hby := Bd.bytes
  have hml : c.maxLocals = 3 := hml0
  have hown : s.vm.findClass "java/lang/AbstractStringBuilder" = some m.cls := findClass_of_methodNamed Bd.named
  have hnm := (name_of_methodNamed Bd.named Bd.method).1
  have X0 : Stand p l e ({ frames := 2, cells := 0, slots := 0, locals := 47 } : Room) s m #[(.ref o0), (.int (0 : Int32)), (.ref o2)] below meth c s₁ [] 0 0 := Stand.of_body Bd
  have e0 : s₁.heap = h0 := by rw [← hh, Bd.state]; rfl
  have N0 := Fr.nil n0
  show Go p e below (fun o U' => ∃ v L, o = .returned v ∧ Q10_5 Z o0 o2 w_COMPACT_STRINGS f_o0_value f_o2_value ks kv h0 n0 v U'.heap L ∧ FrameEnd s o U' L ({ frames := 2, cells := 0, slots := 0, locals := 47 } : Room).cells ({ frames := 2, cells := 0, slots := 0, locals := 47 } : Room).slots) (s₁.setTop (entryFrame m #[(.ref o0), (.int (0 : Int32)), (.ref o2)] 3))
  refine Go.of (fun _ k => castTop (ef_10l1_0 m o0 o2) k) ?_
  show Go p e below _ (s₁.setTop (mkF m 0 #[.val (.ref o0), .val (.int (0 : Int32)), .val (.ref o2)] []))
  refine Go.of (fun _ k => XS.aloadN X0.here hx rfl (hb hby d10_0) rfl rfl k) ?_
  refine Go.of (fun _ k => XS.aloadN X0.here hx rfl (hb hby d10_1) rfl rfl k) ?_
  obtain ⟨cq1, q1, q1'⟩ := E_o0.cell
  obtain ⟨_, _, ⟨T1, L1, k1, n1⟩, -, X1, ⟨Lc1, hQ1, l1, y1, z1⟩, st1⟩ := X0.privateBack hx (y := own_y_AbstractStringBuilder_inflateIfNeededFor_2) hown (mvT hZ (own_h hw 69 rfl)) (mvT hZ (own_h hw 70 rfl)) (own_selpriv (mvT hZ (own_h hw 72 rfl)) (Cond.privateMethod_at (mvP hZ (own_h hw 71 rfl) (args := #[]))) (mvT hZ (own_h hw 70 rfl)) (by decide)) (Cond.privateMethod_at (mvP hZ (own_h hw 71 rfl) (args := #[]))) (mvT hZ (own_h hw 73 rfl)) (by decide) (backOf (W := 0) (rm11 l Z a0 hw [] o0 o2 w_COMPACT_STRINGS h0 n0 Z0 S_COMPACT_STRINGS hc3_1 F_o0_coder F_o2_coder E_o2) hZ (own_h hw 73 rfl) (own_h hw 16 rfl) (by decide) (by decide)) (g := (mkF m 2 #[.val (.ref o0), .val (.int (0 : Int32)), .val (.ref o2)] [(.ref o2), (.ref o0)])) rfl (by rw [hml]; rfl) (Steps.refl _) (a := o0) (by rw [e0]; exact q1) q1' (argsL := [(.ref o2)]) (rest := []) (lenOf pd_2 rfl) rfl (Nat.le_of_eq rfl) (hb hby d10_2) (fun _ _ => ⟨rfl, e0, (by decide : 0 + 0 ≤ _), (by decide : 0 + 0 ≤ _)⟩)
  dsimp only [Pt.U, Pt.locs, Pt.cells, Pt.slots] at X1 l1 y1 z1 st1 hQ1
  subst l1 y1 z1
  obtain ⟨rfl, Nq1, q1_0⟩ := hQ1
  have N1 := Fr.app N0 Nq1
  refine Go.tr st1 ?_
  show Go p e below _ (T1.setTop (mkF m 5 #[.val (.ref o0), .val (.int (0 : Int32)), .val (.ref o2)] []))
  refine Go.of (fun _ k => XS.aloadN X1.here hx rfl (hb hby d10_5) rfl rfl k) ?_
  refine Go.of (fun _ k => XS.aloadN X1.here hx rfl (hb hby d10_6) rfl rfl k) ?_
  obtain ⟨T2, X2, e2, st2⟩ := getF X1 hx hZ hown (host := "") (Or.inl (own_h hw 24 rfl)) Via.refl q1_0 F_o0_value (g := (mkF m 7 #[.val (.ref o0), .val (.int (0 : Int32)), .val (.ref o2)] [(.ref o0), (.ref o2)])) rfl rfl (hb hby d10_7)
  refine Go.of st2 ?_
  show Go p e below _ (T2.setTop (mkF m 10 #[.val (.ref o0), .val (.int (0 : Int32)), .val (.ref o2)] [(.ref f_o0_value), (.ref o2)]))
  refine Go.of (fun _ k => XS.iloadN X2.here hx rfl (hb hby d10_10) rfl  k) ?_
  refine Go.of (fun _ k => XS.aloadN X2.here hx rfl (hb hby d10_11) rfl rfl k) ?_
  obtain ⟨T3, X3, e3, st3⟩ := getF X2 hx hZ hown (host := "") (Or.inl (own_h hw 26 rfl)) Via.refl e2 F_o0_coder (g := (mkF m 12 #[.val (.ref o0), .val (.int (0 : Int32)), .val (.ref o2)] [(.ref o0), (.int (0 : Int32)), (.ref f_o0_value), (.ref o2)])) rfl rfl (hb hby d10_12)
  refine Go.of st3 ?_
  show Go p e below _ (T3.setTop (mkF m 15 #[.val (.ref o0), .val (.int (0 : Int32)), .val (.ref o2)] [(.int (0 : Int32)), (.int (0 : Int32)), (.ref f_o0_value), (.ref o2)]))
  obtain ⟨cq4, kq4, q4a, q4b, q4c⟩ := isOf hZ e3 E_o2
  obtain ⟨_, _, ⟨T4, L4, k4, n4⟩, -, X4, ⟨Lc4, hQ4, l4, y4, z4⟩, st4⟩ := X3.virtualBack hx (y := own_y_String_getBytes_3) (z := own_y_String_getBytes_3) hown (mvT hZ (own_h hw 75 rfl)) (mvT hZ (own_h hw 76 rfl)) (notFace_of_selects (args := #[]) (mvT hZ (own_h hw 78 rfl))) (mvT hZ (own_h hw 78 rfl)) (mvT hZ (own_h hw 77 rfl)) (by decide) (backOf (W := 0) (rm12_5 l Z a0 hw [] o2 f_o0_value w_COMPACT_STRINGS f_o2_value ks kv h0 n0 Z0 S_COMPACT_STRINGS hc3_1 F_o2_coder E_o2 F_o2_value V_f_o2_value V_f_o0_value g_f_o0_value) hZ (own_h hw 79 rfl) (own_h hw 22 rfl) (by decide) (by decide)) q4a q4c (g := (mkF m 15 #[.val (.ref o0), .val (.int (0 : Int32)), .val (.ref o2)] [(.int (0 : Int32)), (.int (0 : Int32)), (.ref f_o0_value), (.ref o2)])) rfl (by rw [hml]; rfl) (Steps.refl _) (argsL := [(.ref f_o0_value), (.int (0 : Int32)), (.int (0 : Int32))]) (rest := []) (lenOf pd_3 rfl) rfl (Nat.le_of_eq rfl) (hb hby d10_15) (fun _ _ => ⟨rfl, e3, (by decide : 0 + 0 ≤ _), (by decide : 0 + 0 ≤ _)⟩)
  dsimp only [Pt.U, Pt.locs, Pt.cells, Pt.slots] at X4 l4 y4 z4 st4 hQ4
  subst l4 y4 z4
  obtain ⟨rfl, Nq4, q4_0, q4_1⟩ := hQ4
  have N4 := Fr.app N1 Nq4
  refine Go.tr st4 ?_
  have K4 : Keep h0 T4.heap [f_o0_value] := ((Keep.refl h0 [f_o0_value])).trans q4_0 (allS (Or.inl (List.mem_of_getElem? (i := 0) rfl)) all0)
  have Z4 : n0 ≤ T4.heap.size := Nat.le_trans Z0 q4_0.1
  show Go p e below _ (T4.setTop (mkF m 18 #[.val (.ref o0), .val (.int (0 : Int32)), .val (.ref o2)] []))
  obtain ⟨fs, hr, hrun, hended, hW, hsame⟩ := X4.leave (v := none) (fun _ => rfl)
  refine Go.mk _ _ ?_ hrun hended ⟨_, _, rfl, ?_, ⟨_, rfl⟩, hW, hsame.mono (by decide) (by decide)⟩
  · exact X4.returnOut hx Bd.returns (hb hby d10_18) hr
  · show Q10_5 Z o0 o2 w_COMPACT_STRINGS f_o0_value f_o2_value ks kv h0 n0 _ T4.heap _
    exact ⟨rfl, N4, K4, q4_1⟩
theorem d9_0 : decode jdk_68_method_9_code 0 = .ok (.aload_n 0, 1) := by decide +kernel
theorem d9_1 : decode jdk_68_method_9_code 1 = .ok (.getfield 15, 3) := by decide +kernel
theorem d9_4 : decode jdk_68_method_9_code 4 = .ok (.arraylength, 1) := by decide +kernel
theorem d9_5 : decode jdk_68_method_9_code 5 = .ok (.aload_n 0, 1) := by decide +kernel
theorem d9_6 : decode jdk_68_method_9_code 6 = .ok (.getfield 22, 3) := by decide +kernel
theorem d9_9 : decode jdk_68_method_9_code 9 = .ok (.ishr, 1) := by decide +kernel
theorem d9_10 : decode jdk_68_method_9_code 10 = .ok (.istore_n 2, 1) := by decide +kernel
theorem d9_11 : decode jdk_68_method_9_code 11 = .ok (.iload_n 1, 1) := by decide +kernel
theorem d9_12 : decode jdk_68_method_9_code 12 = .ok (.iload_n 2, 1) := by decide +kernel
theorem d9_13 : decode jdk_68_method_9_code 13 = .ok (.isub, 1) := by decide +kernel
theorem d9_14 : decode jdk_68_method_9_code 14 = .ok (.ifCond .le 24, 3) := by decide +kernel
theorem d9_38 : decode jdk_68_method_9_code 38 = .ok (.return_, 1) := by decide +kernel
theorem ef_9l1_5 (m : MethodId) (x0 : Addr) : entryFrame m #[(.ref x0), (.int (5 : Int32))] 3 = mkF m 0 #[.val (.ref x0), .val (.int (5 : Int32)), .unset] [] := by first | (simp [entryFrame, mkF, argsToLocals, Value.category]; done) | rfl
def Q9_s5 (Z : State) (o0 : Addr) (f_o0_value : Addr) (kv : ClassId) (h0 : Heap) (n0 : Nat) (v : Option Value) (h : Heap) (L : List Loc) : Prop := v = none ∧ Fr n0 L ∧ h = h0
set_option maxRecDepth 65536 in
set_option maxHeartbeats 40000000 in
theorem rm9_s5 (l : Launch) (Z : State) (a0 : Array Value) (hw : ∀ d ∈ tables_1, d.before a0 Z = true) (ws : List Jvm.Cond) (o0 : Addr) (f_o0_value : Addr) (kv : ClassId) (h0 : Heap) (n0 : Nat) (Z0 : n0 ≤ h0.size) (F_o0_value : Fld Z h0 o0 "java/lang/AbstractStringBuilder" "value" "[B" (.ref f_o0_value)) (V_f_o0_value : Arv Z h0 f_o0_value kv .byte (16 : Int32) [(.int (0 : Int32)), (.int (0 : Int32)), (.int (0 : Int32)), (.int (0 : Int32)), (.int (0 : Int32)), (.int (0 : Int32)), (.int (0 : Int32)), (.int (0 : Int32)), (.int (0 : Int32)), (.int (0 : Int32)), (.int (0 : Int32)), (.int (0 : Int32)), (.int (0 : Int32)), (.int (0 : Int32)), (.int (0 : Int32)), (.int (0 : Int32))] (.int (0 : Int32))) (F_o0_coder : Fld Z h0 o0 "java/lang/AbstractStringBuilder" "coder" "B" (.int (0 : Int32))) :
    MetFree l (⟨"java/lang/AbstractStringBuilder", "ensureCapacityInternal", "(I)V"⟩ : MethodName) (head1 (Jvm.Cond.code (⟨"java/lang/AbstractStringBuilder", "ensureCapacityInternal", "(I)V"⟩ : MethodName) jdk_68_method_9_code 3 none :: ws) ({ frames := 0, cells := 0, slots := 0, locals := 0 } : Room)) (fun a U => a = #[(.ref o0), (.int (5 : Int32))] ∧ Z.Warmed39 U.vm ∧ U.heap = h0) (fun _ _ _ _ _ => True) (fun _ U o U' => ∃ v L, o = .returned v ∧ Q9_s5 Z o0 f_o0_value kv h0 n0 v U'.heap L ∧ FrameEnd U o U' L ({ frames := 0, cells := 0, slots := 0, locals := 0 } : Room).cells ({ frames := 0, cells := 0, slots := 0, locals := 0 } : Room).slots) := by
  refine MetFree.of_bodySF (plainFor_of_name pn_java_lang_AbstractStringBuilder) hisR ?_
  intro p e s m args below meth c s₁ Bd hml0 hP hK
  obtain ⟨rfl, hZ, hh⟩ := hP
  have hx := Bd.exec
  have hby := Bd.bytes
  have hml : c.maxLocals = 3 := hml0
  have hown : s.vm.findClass "java/lang/AbstractStringBuilder" = some m.cls := findClass_of_methodNamed Bd.named
  have hnm := (name_of_methodNamed Bd.named Bd.method).1
  have X0 : Stand p l e ({ frames := 0, cells := 0, slots := 0, locals := 0 } : Room) s m #[(.ref o0), (.int (5 : Int32))] below meth c s₁ [] 0 0 := Stand.of_body Bd
  have e0 : s₁.heap = h0 := by rw [← hh, Bd.state]; rfl
  have N0 := Fr.nil n0
  show Go p e below (fun o U' => ∃ v L, o = .returned v ∧ Q9_s5 Z o0 f_o0_value kv h0 n0 v U'.heap L ∧ FrameEnd s o U' L ({ frames := 0, cells := 0, slots := 0, locals := 0 } : Room).cells ({ frames := 0, cells := 0, slots := 0, locals := 0 } : Room).slots) (s₁.setTop (entryFrame m #[(.ref o0), (.int (5 : Int32))] 3))
  refine Go.of (fun _ k => castTop (ef_9l1_5 m o0) k) ?_
  show Go p e below _ (s₁.setTop (mkF m 0 #[.val (.ref o0), .val (.int (5 : Int32)), .unset] []))
  refine Go.of (fun _ k => XS.aloadN X0.here hx rfl (hb hby d9_0) rfl rfl k) ?_
  obtain ⟨T1, X1, e1, st1⟩ := getF X0 hx hZ hown (host := "") (Or.inl (own_h hw 24 rfl)) Via.refl e0 F_o0_value (g := (mkF m 1 #[.val (.ref o0), .val (.int (5 : Int32)), .unset] [(.ref o0)])) rfl rfl (hb hby d9_1)
  refine Go.of st1 ?_
  show Go p e below _ (T1.setTop (mkF m 4 #[.val (.ref o0), .val (.int (5 : Int32)), .unset] [(.ref f_o0_value)]))
  obtain ⟨clt2, Art2, qt2, st2, nt2, Ht2, Gt2⟩ := id V_f_o0_value
  refine Go.of (fun _ k => X1.arraylength hx (by rw [e1]; exact Art2.1) (State.isArrayOf_alike hZ.alike Art2.2.1) (g := (mkF m 4 #[.val (.ref o0), .val (.int (5 : Int32)), .unset] [(.ref f_o0_value)])) rfl rfl (hb hby d9_4) _ k) ?_
  rw [len_of st2 nt2]
  show Go p e below _ (T1.setTop (mkF m 5 #[.val (.ref o0), .val (.int (5 : Int32)), .unset] [(.int (16 : Int32))]))
  refine Go.of (fun _ k => XS.aloadN X1.here hx rfl (hb hby d9_5) rfl rfl k) ?_
  obtain ⟨T3, X3, e3, st3⟩ := getF X1 hx hZ hown (host := "") (Or.inl (own_h hw 26 rfl)) Via.refl e1 F_o0_coder (g := (mkF m 6 #[.val (.ref o0), .val (.int (5 : Int32)), .unset] [(.ref o0), (.int (16 : Int32))])) rfl rfl (hb hby d9_6)
  refine Go.of st3 ?_
  show Go p e below _ (T3.setTop (mkF m 9 #[.val (.ref o0), .val (.int (5 : Int32)), .unset] [(.int (0 : Int32)), (.int (16 : Int32))]))
  refine Go.of (fun _ k => XS.ishr X3.here hx rfl (hb hby d9_9) rfl k) ?_
  show Go p e below _ (T3.setTop (mkF m 10 #[.val (.ref o0), .val (.int (5 : Int32)), .unset] [(.int (16 : Int32))]))
  refine Go.of (fun _ k => XS.istoreN X3.here hx rfl (hb hby d9_10) rfl (l' := #[.val (.ref o0), .val (.int (5 : Int32)), .val (.int (16 : Int32))]) rfl k) ?_
  show Go p e below _ (T3.setTop (mkF m 11 #[.val (.ref o0), .val (.int (5 : Int32)), .val (.int (16 : Int32))] []))
  refine Go.of (fun _ k => XS.iloadN X3.here hx rfl (hb hby d9_11) rfl  k) ?_
  refine Go.of (fun _ k => XS.iloadN X3.here hx rfl (hb hby d9_12) rfl  k) ?_
  refine Go.of (fun _ k => XS.isub X3.here hx rfl (hb hby d9_13) rfl k) ?_
  show Go p e below _ (T3.setTop (mkF m 14 #[.val (.ref o0), .val (.int (5 : Int32)), .val (.int (16 : Int32))] [(.int (-11 : Int32))]))
  refine Go.of (fun _ k => XS.ifYes X3.here hx rfl (pc0 := 14) (pc' := 38) rfl (hb hby d9_14) rfl ((if0 _ _).trans (flt (by decide : ¬ ((0 : Int32) < (-11 : Int32)))).2.2.2) (by decide) (by decide) k) ?_
  show Go p e below _ (T3.setTop (mkF m 38 #[.val (.ref o0), .val (.int (5 : Int32)), .val (.int (16 : Int32))] []))
  obtain ⟨fs, hr, hrun, hended, hW, hsame⟩ := X3.leave (v := none) (fun _ => rfl)
  refine Go.mk _ _ ?_ hrun hended ⟨_, _, rfl, ?_, ⟨_, rfl⟩, hW, hsame.mono (by decide) (by decide)⟩
  · exact X3.returnOut hx Bd.returns (hb hby d9_38) hr
  · show Q9_s5 Z o0 f_o0_value kv h0 n0 _ T3.heap _
    rw [e3]
    exact ⟨rfl, N0, rfl⟩
theorem d6_0 : decode jdk_68_method_22_code 0 = .ok (.aload_n 1, 1) := by decide +kernel
theorem d6_1 : decode jdk_68_method_22_code 1 = .ok (.ifnonnull 8, 3) := by decide +kernel
theorem d6_9 : decode jdk_68_method_22_code 9 = .ok (.aload_n 1, 1) := by decide +kernel
theorem d6_10 : decode jdk_68_method_22_code 10 = .ok (.invokevirtual 32, 3) := by decide +kernel
theorem pd_4 : parseMethodDescriptor "()I" = some ⟨[], some .int⟩ := by decide +kernel
abbrev own_y_String_length_4 : MethodName := ⟨"java/lang/String", "length", "()I"⟩
theorem d6_13 : decode jdk_68_method_22_code 13 = .ok (.istore_n 2, 1) := by decide +kernel
theorem d6_14 : decode jdk_68_method_22_code 14 = .ok (.aload_n 0, 1) := by decide +kernel
theorem d6_15 : decode jdk_68_method_22_code 15 = .ok (.aload_n 0, 1) := by decide +kernel
theorem d6_16 : decode jdk_68_method_22_code 16 = .ok (.getfield 79, 3) := by decide +kernel
theorem d6_19 : decode jdk_68_method_22_code 19 = .ok (.iload_n 2, 1) := by decide +kernel
theorem d6_20 : decode jdk_68_method_22_code 20 = .ok (.iadd, 1) := by decide +kernel
theorem d6_21 : decode jdk_68_method_22_code 21 = .ok (.invokevirtual 100, 3) := by decide +kernel
abbrev own_y_AbstractStringBuilder_ensureCapacityInternal_5 : MethodName := ⟨"java/lang/AbstractStringBuilder", "ensureCapacityInternal", "(I)V"⟩
theorem d6_24 : decode jdk_68_method_22_code 24 = .ok (.aload_n 0, 1) := by decide +kernel
theorem d6_25 : decode jdk_68_method_22_code 25 = .ok (.aload_n 0, 1) := by decide +kernel
theorem d6_26 : decode jdk_68_method_22_code 26 = .ok (.getfield 79, 3) := by decide +kernel
theorem d6_29 : decode jdk_68_method_22_code 29 = .ok (.aload_n 1, 1) := by decide +kernel
theorem d6_30 : decode jdk_68_method_22_code 30 = .ok (.invokevirtual 208, 3) := by decide +kernel
theorem pd_5 : parseMethodDescriptor "(ILjava/lang/String;)V" = some ⟨[.int, (.object "java/lang/String")], none⟩ := by decide +kernel
abbrev own_y_AbstractStringBuilder_putStringAt_6 : MethodName := ⟨"java/lang/AbstractStringBuilder", "putStringAt", "(ILjava/lang/String;)V"⟩
theorem d6_33 : decode jdk_68_method_22_code 33 = .ok (.aload_n 0, 1) := by decide +kernel
theorem d6_34 : decode jdk_68_method_22_code 34 = .ok (.dup, 1) := by decide +kernel
theorem d6_35 : decode jdk_68_method_22_code 35 = .ok (.getfield 79, 3) := by decide +kernel
theorem d6_38 : decode jdk_68_method_22_code 38 = .ok (.iload_n 2, 1) := by decide +kernel
theorem d6_39 : decode jdk_68_method_22_code 39 = .ok (.iadd, 1) := by decide +kernel
theorem d6_40 : decode jdk_68_method_22_code 40 = .ok (.putfield 79, 3) := by decide +kernel
theorem d6_43 : decode jdk_68_method_22_code 43 = .ok (.aload_n 0, 1) := by decide +kernel
theorem d6_44 : decode jdk_68_method_22_code 44 = .ok (.areturn, 1) := by decide +kernel
theorem ef_6 (m : MethodId) (x0 : Addr) (x1 : Addr) : entryFrame m #[(.ref x0), (.ref x1)] 3 = mkF m 0 #[.val (.ref x0), .val (.ref x1), .unset] [] := by first | (simp [entryFrame, mkF, argsToLocals, Value.category]; done) | rfl
def Q6_5 (Z : State) (o0 : Addr) (o1 : Addr) (f_o1_value : Addr) (ks : ClassId) (w_COMPACT_STRINGS : Int32) (f_o0_value : Addr) (kv : ClassId) (h0 : Heap) (n0 : Nat) (v : Option Value) (h : Heap) (L : List Loc) : Prop := v = some (.ref o0) ∧ Fr n0 L ∧ Keep h0 h [f_o0_value, o0] ∧ Arv Z h f_o0_value kv .byte (16 : Int32) [(.int (104 : Int32)), (.int (116 : Int32)), (.int (116 : Int32)), (.int (112 : Int32)), (.int (45 : Int32)), (.int (0 : Int32)), (.int (0 : Int32)), (.int (0 : Int32)), (.int (0 : Int32)), (.int (0 : Int32)), (.int (0 : Int32)), (.int (0 : Int32)), (.int (0 : Int32)), (.int (0 : Int32)), (.int (0 : Int32)), (.int (0 : Int32))] (.int (0 : Int32)) ∧ Exa Z h o0 "java/lang/StringBuilder" ∧ Fld Z h o0 "java/lang/AbstractStringBuilder" "coder" "B" (.int (0 : Int32)) ∧ Fld Z h o0 "java/lang/AbstractStringBuilder" "count" "I" (.int (5 : Int32)) ∧ Fld Z h o0 "java/lang/AbstractStringBuilder" "value" "[B" (.ref f_o0_value)
set_option maxRecDepth 65536 in
set_option maxHeartbeats 40000000 in
theorem rm6_5 (l : Launch) (Z : State) (a0 : Array Value) (hw : ∀ d ∈ tables_1, d.before a0 Z = true) (ws : List Jvm.Cond) (o0 : Addr) (o1 : Addr) (f_o1_value : Addr) (ks : ClassId) (w_COMPACT_STRINGS : Int32) (f_o0_value : Addr) (kv : ClassId) (h0 : Heap) (n0 : Nat) (Z0 : n0 ≤ h0.size) (F_o1_value : Fld Z h0 o1 "java/lang/String" "value" "[B" (.ref f_o1_value)) (V_f_o1_value : Arv Z h0 f_o1_value ks .byte (5 : Int32) [(.int (104 : Int32)), (.int (116 : Int32)), (.int (116 : Int32)), (.int (112 : Int32)), (.int (45 : Int32))] (.int (0 : Int32))) (S_COMPACT_STRINGS : Sta Z h0 "java/lang/String" "COMPACT_STRINGS" "Z" (.int w_COMPACT_STRINGS)) (hc3_3_1 : ¬ (w_COMPACT_STRINGS = (0 : Int32))) (F_o1_coder : Fld Z h0 o1 "java/lang/String" "coder" "B" (.int (0 : Int32))) (E_o1 : Exa Z h0 o1 "java/lang/String") (F_o0_count : Fld Z h0 o0 "java/lang/AbstractStringBuilder" "count" "I" (.int (0 : Int32))) (F_o0_value : Fld Z h0 o0 "java/lang/AbstractStringBuilder" "value" "[B" (.ref f_o0_value)) (V_f_o0_value : Arv Z h0 f_o0_value kv .byte (16 : Int32) [(.int (0 : Int32)), (.int (0 : Int32)), (.int (0 : Int32)), (.int (0 : Int32)), (.int (0 : Int32)), (.int (0 : Int32)), (.int (0 : Int32)), (.int (0 : Int32)), (.int (0 : Int32)), (.int (0 : Int32)), (.int (0 : Int32)), (.int (0 : Int32)), (.int (0 : Int32)), (.int (0 : Int32)), (.int (0 : Int32)), (.int (0 : Int32))] (.int (0 : Int32))) (F_o0_coder : Fld Z h0 o0 "java/lang/AbstractStringBuilder" "coder" "B" (.int (0 : Int32))) (E_o0 : Exa Z h0 o0 "java/lang/StringBuilder") (g_f_o0_value : n0 ≤ f_o0_value) (ne_f_o0_value_o0 : f_o0_value ≠ o0) (g_o0 : n0 ≤ o0) :
    MetFree l (⟨"java/lang/AbstractStringBuilder", "append", "(Ljava/lang/String;)Ljava/lang/AbstractStringBuilder;"⟩ : MethodName) (head1 (Jvm.Cond.code (⟨"java/lang/AbstractStringBuilder", "append", "(Ljava/lang/String;)Ljava/lang/AbstractStringBuilder;"⟩ : MethodName) jdk_68_method_22_code 3 (some (.object "java/lang/AbstractStringBuilder")) :: ws) ({ frames := 3, cells := 0, slots := 0, locals := 61 } : Room)) (fun a U => a = #[(.ref o0), (.ref o1)] ∧ Z.Warmed39 U.vm ∧ U.heap = h0) (fun _ _ _ _ _ => True) (fun _ U o U' => ∃ v L, o = .returned v ∧ Q6_5 Z o0 o1 f_o1_value ks w_COMPACT_STRINGS f_o0_value kv h0 n0 v U'.heap L ∧ FrameEnd U o U' L ({ frames := 3, cells := 0, slots := 0, locals := 61 } : Room).cells ({ frames := 3, cells := 0, slots := 0, locals := 61 } : Room).slots) := by
  refine MetFree.of_bodySF (plainFor_of_name pn_java_lang_AbstractStringBuilder) hisR ?_
  intro p e s m args below meth c s₁ Bd hml0 hP hK
  obtain ⟨rfl, hZ, hh⟩ := hP
  have hx := Bd.exec
  have hby := Bd.bytes
  have hml : c.maxLocals = 3 := hml0
  have hown : s.vm.findClass "java/lang/AbstractStringBuilder" = some m.cls := findClass_of_methodNamed Bd.named
  have hnm := (name_of_methodNamed Bd.named Bd.method).1
  have X0 : Stand p l e ({ frames := 3, cells := 0, slots := 0, locals := 61 } : Room) s m #[(.ref o0), (.ref o1)] below meth c s₁ [] 0 0 := Stand.of_body Bd
  have e0 : s₁.heap = h0 := by rw [← hh, Bd.state]; rfl
  have N0 := Fr.nil n0
  show Go p e below (fun o U' => ∃ v L, o = .returned v ∧ Q6_5 Z o0 o1 f_o1_value ks w_COMPACT_STRINGS f_o0_value kv h0 n0 v U'.heap L ∧ FrameEnd s o U' L ({ frames := 3, cells := 0, slots := 0, locals := 61 } : Room).cells ({ frames := 3, cells := 0, slots := 0, locals := 61 } : Room).slots) (s₁.setTop (entryFrame m #[(.ref o0), (.ref o1)] 3))
  refine Go.of (fun _ k => castTop (ef_6 m o0 o1) k) ?_
  show Go p e below _ (s₁.setTop (mkF m 0 #[.val (.ref o0), .val (.ref o1), .unset] []))
  refine Go.of (fun _ k => XS.aloadN X0.here hx rfl (hb hby d6_0) rfl rfl k) ?_
  refine Go.of (fun _ k => XS.ifnonnullYes X0.here hx rfl (pc0 := 1) (pc' := 9) rfl (hb hby d6_1) rfl (by decide) (by decide) k) ?_
  show Go p e below _ (s₁.setTop (mkF m 9 #[.val (.ref o0), .val (.ref o1), .unset] []))
  refine Go.of (fun _ k => XS.aloadN X0.here hx rfl (hb hby d6_9) rfl rfl k) ?_
  obtain ⟨cq1, kq1, q1a, q1b, q1c⟩ := isOf hZ e0 E_o1
  obtain ⟨_, _, ⟨T1, L1, k1, n1⟩, -, X1, ⟨Lc1, hQ1, l1, y1, z1⟩, st1⟩ := X0.virtualBack hx (y := own_y_String_length_4) (z := own_y_String_length_4) hown (mvT hZ (own_h hw 44 rfl)) (mvT hZ (own_h hw 45 rfl)) (notFace_of_selects (args := #[]) (mvT hZ (own_h hw 47 rfl))) (mvT hZ (own_h hw 47 rfl)) (mvT hZ (own_h hw 46 rfl)) (by decide) (backOf (W := 0) (rm7_5 l Z a0 hw [] o1 f_o1_value ks w_COMPACT_STRINGS h0 n0 Z0 F_o1_value V_f_o1_value S_COMPACT_STRINGS hc3_3_1 F_o1_coder E_o1) hZ (own_h hw 48 rfl) (own_h hw 22 rfl) (by decide) (by decide)) q1a q1c (g := (mkF m 10 #[.val (.ref o0), .val (.ref o1), .unset] [(.ref o1)])) rfl (by rw [hml]; rfl) (Steps.refl _) (argsL := []) (rest := []) (lenOf pd_4 rfl) rfl (Nat.le_of_eq rfl) (hb hby d6_10) (fun _ _ => ⟨rfl, e0, (by decide : 0 + 0 ≤ _), (by decide : 0 + 0 ≤ _)⟩)
  dsimp only [Pt.U, Pt.locs, Pt.cells, Pt.slots] at X1 l1 y1 z1 st1 hQ1
  subst l1 y1 z1
  obtain ⟨rfl, Nq1, q1_0⟩ := hQ1
  have N1 := Fr.app N0 Nq1
  refine Go.tr st1 ?_
  show Go p e below _ (T1.setTop (mkF m 13 #[.val (.ref o0), .val (.ref o1), .unset] [(.int (5 : Int32))]))
  refine Go.of (fun _ k => XS.istoreN X1.here hx rfl (hb hby d6_13) rfl (l' := #[.val (.ref o0), .val (.ref o1), .val (.int (5 : Int32))]) rfl k) ?_
  show Go p e below _ (T1.setTop (mkF m 14 #[.val (.ref o0), .val (.ref o1), .val (.int (5 : Int32))] []))
  refine Go.of (fun _ k => XS.aloadN X1.here hx rfl (hb hby d6_14) rfl rfl k) ?_
  refine Go.of (fun _ k => XS.aloadN X1.here hx rfl (hb hby d6_15) rfl rfl k) ?_
  obtain ⟨T2, X2, e2, st2⟩ := getF X1 hx hZ hown (host := "") (Or.inl (own_h hw 57 rfl)) Via.refl q1_0 F_o0_count (g := (mkF m 16 #[.val (.ref o0), .val (.ref o1), .val (.int (5 : Int32))] [(.ref o0), (.ref o0)])) rfl rfl (hb hby d6_16)
  refine Go.of st2 ?_
  show Go p e below _ (T2.setTop (mkF m 19 #[.val (.ref o0), .val (.ref o1), .val (.int (5 : Int32))] [(.int (0 : Int32)), (.ref o0)]))
  refine Go.of (fun _ k => XS.iloadN X2.here hx rfl (hb hby d6_19) rfl  k) ?_
  refine Go.of (fun _ k => XS.iadd X2.here hx rfl (hb hby d6_20) rfl k) ?_
  show Go p e below _ (T2.setTop (mkF m 21 #[.val (.ref o0), .val (.ref o1), .val (.int (5 : Int32))] [(.int (5 : Int32)), (.ref o0)]))
  obtain ⟨cq3, q3, q3'⟩ := E_o0.cell
  obtain ⟨_, _, ⟨T3, L3, k3, n3⟩, -, X3, ⟨Lc3, hQ3, l3, y3, z3⟩, st3⟩ := X2.privateBack hx (y := own_y_AbstractStringBuilder_ensureCapacityInternal_5) hown (mvT hZ (own_h hw 59 rfl)) (mvT hZ (own_h hw 60 rfl)) (own_selpriv (mvT hZ (own_h hw 62 rfl)) (Cond.privateMethod_at (mvP hZ (own_h hw 61 rfl) (args := #[]))) (mvT hZ (own_h hw 60 rfl)) (by decide)) (Cond.privateMethod_at (mvP hZ (own_h hw 61 rfl) (args := #[]))) (mvT hZ (own_h hw 63 rfl)) (by decide) (backOf (W := 0) (rm9_s5 l Z a0 hw [] o0 f_o0_value kv h0 n0 Z0 F_o0_value V_f_o0_value F_o0_coder) hZ (own_h hw 63 rfl) (own_h hw 16 rfl) (by decide) (by decide)) (g := (mkF m 21 #[.val (.ref o0), .val (.ref o1), .val (.int (5 : Int32))] [(.int (5 : Int32)), (.ref o0)])) rfl (by rw [hml]; rfl) (Steps.refl _) (a := o0) (by rw [e2]; exact q3) q3' (argsL := [(.int (5 : Int32))]) (rest := []) (lenOf pd_0 rfl) rfl (Nat.le_of_eq rfl) (hb hby d6_21) (fun _ _ => ⟨rfl, e2, (by decide : 0 + 0 ≤ _), (by decide : 0 + 0 ≤ _)⟩)
  dsimp only [Pt.U, Pt.locs, Pt.cells, Pt.slots] at X3 l3 y3 z3 st3 hQ3
  subst l3 y3 z3
  obtain ⟨rfl, Nq3, q3_0⟩ := hQ3
  have N3 := Fr.app N1 Nq3
  refine Go.tr st3 ?_
  show Go p e below _ (T3.setTop (mkF m 24 #[.val (.ref o0), .val (.ref o1), .val (.int (5 : Int32))] []))
  refine Go.of (fun _ k => XS.aloadN X3.here hx rfl (hb hby d6_24) rfl rfl k) ?_
  refine Go.of (fun _ k => XS.aloadN X3.here hx rfl (hb hby d6_25) rfl rfl k) ?_
  obtain ⟨T4, X4, e4, st4⟩ := getF X3 hx hZ hown (host := "") (Or.inl (own_h hw 57 rfl)) Via.refl q3_0 F_o0_count (g := (mkF m 26 #[.val (.ref o0), .val (.ref o1), .val (.int (5 : Int32))] [(.ref o0), (.ref o0)])) rfl rfl (hb hby d6_26)
  refine Go.of st4 ?_
  show Go p e below _ (T4.setTop (mkF m 29 #[.val (.ref o0), .val (.ref o1), .val (.int (5 : Int32))] [(.int (0 : Int32)), (.ref o0)]))
  refine Go.of (fun _ k => XS.aloadN X4.here hx rfl (hb hby d6_29) rfl rfl k) ?_
  obtain ⟨cq5, q5, q5'⟩ := E_o0.cell
  obtain ⟨_, _, ⟨T5, L5, k5, n5⟩, -, X5, ⟨Lc5, hQ5, l5, y5, z5⟩, st5⟩ := X4.privateBack hx (y := own_y_AbstractStringBuilder_putStringAt_6) hown (mvT hZ (own_h hw 64 rfl)) (mvT hZ (own_h hw 65 rfl)) (own_selpriv (mvT hZ (own_h hw 67 rfl)) (Cond.privateMethod_at (mvP hZ (own_h hw 66 rfl) (args := #[]))) (mvT hZ (own_h hw 65 rfl)) (by decide)) (Cond.privateMethod_at (mvP hZ (own_h hw 66 rfl) (args := #[]))) (mvT hZ (own_h hw 68 rfl)) (by decide) (backOf (W := 0) (rm10_5 l Z a0 hw [] o0 o1 w_COMPACT_STRINGS f_o0_value f_o1_value ks kv h0 n0 Z0 S_COMPACT_STRINGS hc3_3_1 F_o0_coder F_o1_coder E_o1 E_o0 F_o0_value F_o1_value V_f_o1_value V_f_o0_value g_f_o0_value) hZ (own_h hw 68 rfl) (own_h hw 16 rfl) (by decide) (by decide)) (g := (mkF m 30 #[.val (.ref o0), .val (.ref o1), .val (.int (5 : Int32))] [(.ref o1), (.int (0 : Int32)), (.ref o0)])) rfl (by rw [hml]; rfl) (Steps.refl _) (a := o0) (by rw [e4]; exact q5) q5' (argsL := [(.int (0 : Int32)), (.ref o1)]) (rest := []) (lenOf pd_5 rfl) rfl (Nat.le_of_eq rfl) (hb hby d6_30) (fun _ _ => ⟨rfl, e4, (by decide : 0 + 0 ≤ _), (by decide : 0 + 0 ≤ _)⟩)
  dsimp only [Pt.U, Pt.locs, Pt.cells, Pt.slots] at X5 l5 y5 z5 st5 hQ5
  subst l5 y5 z5
  obtain ⟨rfl, Nq5, q5_0, q5_1⟩ := hQ5
  have N5 := Fr.app N3 Nq5
  refine Go.tr st5 ?_
  have K5 : Keep h0 T5.heap [f_o0_value, o0] := ((Keep.refl h0 [f_o0_value, o0])).trans q5_0 (allS (Or.inl (List.mem_of_getElem? (i := 0) rfl)) all0)
  have Z5 : n0 ≤ T5.heap.size := Nat.le_trans Z0 q5_0.1
  show Go p e below _ (T5.setTop (mkF m 33 #[.val (.ref o0), .val (.ref o1), .val (.int (5 : Int32))] []))
  refine Go.of (fun _ k => XS.aloadN X5.here hx rfl (hb hby d6_33) rfl rfl k) ?_
  refine Go.of (fun _ k => XS.dup X5.here hx rfl (hb hby d6_34) rfl rfl k) ?_
  have c6 : Fld Z T5.heap o0 "java/lang/AbstractStringBuilder" "count" "I" (.int (0 : Int32)) := (F_o0_count.keep q5_0 (ninS (Ne.symm ne_f_o0_value_o0) nin0))
  obtain ⟨T7, X7, e7, st7⟩ := getF X5 hx hZ hown (host := "") (Or.inl (own_h hw 57 rfl)) Via.refl rfl c6 (g := (mkF m 35 #[.val (.ref o0), .val (.ref o1), .val (.int (5 : Int32))] [(.ref o0), (.ref o0)])) rfl rfl (hb hby d6_35)
  refine Go.of st7 ?_
  show Go p e below _ (T7.setTop (mkF m 38 #[.val (.ref o0), .val (.ref o1), .val (.int (5 : Int32))] [(.int (0 : Int32)), (.ref o0)]))
  refine Go.of (fun _ k => XS.iloadN X7.here hx rfl (hb hby d6_38) rfl  k) ?_
  refine Go.of (fun _ k => XS.iadd X7.here hx rfl (hb hby d6_39) rfl k) ?_
  show Go p e below _ (T7.setTop (mkF m 40 #[.val (.ref o0), .val (.ref o1), .val (.int (5 : Int32))] [(.int (5 : Int32)), (.ref o0)]))
  have c8 : Exa Z T5.heap o0 "java/lang/StringBuilder" := (E_o0.keep q5_0)
  obtain ⟨T9, h9, X9, e9, W9, st9⟩ := putF X7 hx hZ hown (host := "") (Or.inl (own_h hw 57 rfl)) Via.refl e7 c6 c8 (Or.inl (own_h hw 58 rfl)) (own_h hw 7 rfl) (ty := .int) (by decide) rfl rfl (g := (mkF m 40 #[.val (.ref o0), .val (.ref o1), .val (.int (5 : Int32))] [(.int (5 : Int32)), (.ref o0)])) rfl rfl (hb hby d6_40)
  refine Go.of st9 ?_
  have N9 := Fr.snoc X9 N5 g_o0
  have K9 : Keep h0 h9 [f_o0_value, o0] := (K5).wr W9 (Or.inl (List.mem_of_getElem? (i := 1) rfl))
  have Z9 : n0 ≤ h9.size := Nat.le_trans Z5 (Keep.of_wr W9).1
  have f10 : Fld Z h9 o0 "java/lang/AbstractStringBuilder" "count" "I" (.int (5 : Int32)) := Fld.same W9 c6
  show Go p e below _ (T9.setTop (mkF m 43 #[.val (.ref o0), .val (.ref o1), .val (.int (5 : Int32))] []))
  refine Go.of (fun _ k => XS.aloadN X9.here hx rfl (hb hby d6_43) rfl rfl k) ?_
  have c12 : Arv Z h9 f_o0_value kv .byte (16 : Int32) [(.int (104 : Int32)), (.int (116 : Int32)), (.int (116 : Int32)), (.int (112 : Int32)), (.int (45 : Int32)), (.int (0 : Int32)), (.int (0 : Int32)), (.int (0 : Int32)), (.int (0 : Int32)), (.int (0 : Int32)), (.int (0 : Int32)), (.int (0 : Int32)), (.int (0 : Int32)), (.int (0 : Int32)), (.int (0 : Int32)), (.int (0 : Int32))] (.int (0 : Int32)) := (q5_1.other W9 ne_f_o0_value_o0)
  have c13 : Exa Z h9 o0 "java/lang/StringBuilder" := (Exa.wr W9 c8)
  have c14 : Fld Z T5.heap o0 "java/lang/AbstractStringBuilder" "coder" "B" (.int (0 : Int32)) := (F_o0_coder.keep q5_0 (ninS (Ne.symm ne_f_o0_value_o0) nin0))
  have c15 : Fld Z h9 o0 "java/lang/AbstractStringBuilder" "coder" "B" (.int (0 : Int32)) := (Fld.other W9 c14 (Or.inr (slot_ne (Or.inl (own_h hw 27 rfl)) (Or.inl (own_h hw 58 rfl)) (by decide) (t := .byte) (t' := .int) (by decide) (by decide))))
  have c16 : Fld Z T5.heap o0 "java/lang/AbstractStringBuilder" "value" "[B" (.ref f_o0_value) := (F_o0_value.keep q5_0 (ninS (Ne.symm ne_f_o0_value_o0) nin0))
  have c17 : Fld Z h9 o0 "java/lang/AbstractStringBuilder" "value" "[B" (.ref f_o0_value) := (Fld.other W9 c16 (Or.inr (slot_ne (Or.inl (own_h hw 25 rfl)) (Or.inl (own_h hw 58 rfl)) (by decide) (t := (.array .byte)) (t' := .int) (by decide) (by decide))))
  obtain ⟨fs, hr, hrun, hended, hW, hsame⟩ := X9.leave (v := some (.ref o0)) (fun h => by rw [Bd.returns] at h; cases h)
  refine Go.mk _ _ ?_ hrun hended ⟨_, _, rfl, ?_, ⟨_, rfl⟩, hW, hsame.mono (by decide) (by decide)⟩
  · exact retOut X9 hx Bd.returns rfl (Or.inr (Or.inr (Or.inr (Or.inr ⟨rfl, rfl, rfl⟩)))) (hb hby d6_44) hr
  · show Q6_5 Z o0 o1 f_o1_value ks w_COMPACT_STRINGS f_o0_value kv h0 n0 _ T9.heap _
    rw [e9]
    exact ⟨rfl, N9, K9, c12, c13, c15, f10, c17⟩
theorem d5_0 : decode jdk_67_method_7_code 0 = .ok (.aload_n 0, 1) := by decide +kernel
theorem d5_1 : decode jdk_67_method_7_code 1 = .ok (.aload_n 1, 1) := by decide +kernel
theorem d5_2 : decode jdk_67_method_7_code 2 = .ok (.invokespecial 29, 3) := by decide +kernel
theorem pd_6 : parseMethodDescriptor "(Ljava/lang/String;)Ljava/lang/AbstractStringBuilder;" = some ⟨[(.object "java/lang/String")], some (.object "java/lang/AbstractStringBuilder")⟩ := by decide +kernel
abbrev own_y_AbstractStringBuilder_append_7 : MethodName := ⟨"java/lang/AbstractStringBuilder", "append", "(Ljava/lang/String;)Ljava/lang/AbstractStringBuilder;"⟩
theorem d5_5 : decode jdk_67_method_7_code 5 = .ok (.pop, 1) := by decide +kernel
theorem d5_6 : decode jdk_67_method_7_code 6 = .ok (.aload_n 0, 1) := by decide +kernel
theorem d5_7 : decode jdk_67_method_7_code 7 = .ok (.areturn, 1) := by decide +kernel
theorem ef_5 (m : MethodId) (x0 : Addr) (x1 : Addr) : entryFrame m #[(.ref x0), (.ref x1)] 2 = mkF m 0 #[.val (.ref x0), .val (.ref x1)] [] := by first | (simp [entryFrame, mkF, argsToLocals, Value.category]; done) | rfl
def Q5_5 (Z : State) (o0 : Addr) (o1 : Addr) (f_o1_value : Addr) (ks : ClassId) (w_COMPACT_STRINGS : Int32) (f_o0_value : Addr) (kv : ClassId) (h0 : Heap) (n0 : Nat) (v : Option Value) (h : Heap) (L : List Loc) : Prop := v = some (.ref o0) ∧ Fr n0 L ∧ Keep h0 h [f_o0_value, o0] ∧ Arv Z h f_o0_value kv .byte (16 : Int32) [(.int (104 : Int32)), (.int (116 : Int32)), (.int (116 : Int32)), (.int (112 : Int32)), (.int (45 : Int32)), (.int (0 : Int32)), (.int (0 : Int32)), (.int (0 : Int32)), (.int (0 : Int32)), (.int (0 : Int32)), (.int (0 : Int32)), (.int (0 : Int32)), (.int (0 : Int32)), (.int (0 : Int32)), (.int (0 : Int32)), (.int (0 : Int32))] (.int (0 : Int32)) ∧ Exa Z h o0 "java/lang/StringBuilder" ∧ Fld Z h o0 "java/lang/AbstractStringBuilder" "coder" "B" (.int (0 : Int32)) ∧ Fld Z h o0 "java/lang/AbstractStringBuilder" "count" "I" (.int (5 : Int32)) ∧ Fld Z h o0 "java/lang/AbstractStringBuilder" "value" "[B" (.ref f_o0_value)
set_option maxRecDepth 65536 in
set_option maxHeartbeats 40000000 in
theorem rm5_5 (l : Launch) (Z : State) (a0 : Array Value) (hw : ∀ d ∈ tables_1, d.before a0 Z = true) (ws : List Jvm.Cond) (o0 : Addr) (o1 : Addr) (f_o1_value : Addr) (ks : ClassId) (w_COMPACT_STRINGS : Int32) (f_o0_value : Addr) (kv : ClassId) (h0 : Heap) (n0 : Nat) (Z0 : n0 ≤ h0.size) (F_o1_value : Fld Z h0 o1 "java/lang/String" "value" "[B" (.ref f_o1_value)) (V_f_o1_value : Arv Z h0 f_o1_value ks .byte (5 : Int32) [(.int (104 : Int32)), (.int (116 : Int32)), (.int (116 : Int32)), (.int (112 : Int32)), (.int (45 : Int32))] (.int (0 : Int32))) (S_COMPACT_STRINGS : Sta Z h0 "java/lang/String" "COMPACT_STRINGS" "Z" (.int w_COMPACT_STRINGS)) (hc3_3_1_1 : ¬ (w_COMPACT_STRINGS = (0 : Int32))) (F_o1_coder : Fld Z h0 o1 "java/lang/String" "coder" "B" (.int (0 : Int32))) (E_o1 : Exa Z h0 o1 "java/lang/String") (F_o0_count : Fld Z h0 o0 "java/lang/AbstractStringBuilder" "count" "I" (.int (0 : Int32))) (F_o0_value : Fld Z h0 o0 "java/lang/AbstractStringBuilder" "value" "[B" (.ref f_o0_value)) (V_f_o0_value : Arv Z h0 f_o0_value kv .byte (16 : Int32) [(.int (0 : Int32)), (.int (0 : Int32)), (.int (0 : Int32)), (.int (0 : Int32)), (.int (0 : Int32)), (.int (0 : Int32)), (.int (0 : Int32)), (.int (0 : Int32)), (.int (0 : Int32)), (.int (0 : Int32)), (.int (0 : Int32)), (.int (0 : Int32)), (.int (0 : Int32)), (.int (0 : Int32)), (.int (0 : Int32)), (.int (0 : Int32))] (.int (0 : Int32))) (F_o0_coder : Fld Z h0 o0 "java/lang/AbstractStringBuilder" "coder" "B" (.int (0 : Int32))) (E_o0 : Exa Z h0 o0 "java/lang/StringBuilder") (g_f_o0_value : n0 ≤ f_o0_value) (ne_f_o0_value_o0 : f_o0_value ≠ o0) (g_o0 : n0 ≤ o0) :
    MetFree l (⟨"java/lang/StringBuilder", "append", "(Ljava/lang/String;)Ljava/lang/StringBuilder;"⟩ : MethodName) (head1 (Jvm.Cond.code (⟨"java/lang/StringBuilder", "append", "(Ljava/lang/String;)Ljava/lang/StringBuilder;"⟩ : MethodName) jdk_67_method_7_code 2 (some (.object "java/lang/StringBuilder")) :: ws) ({ frames := 4, cells := 0, slots := 0, locals := 75 } : Room)) (fun a U => a = #[(.ref o0), (.ref o1)] ∧ Z.Warmed39 U.vm ∧ U.heap = h0) (fun _ _ _ _ _ => True) (fun _ U o U' => ∃ v L, o = .returned v ∧ Q5_5 Z o0 o1 f_o1_value ks w_COMPACT_STRINGS f_o0_value kv h0 n0 v U'.heap L ∧ FrameEnd U o U' L ({ frames := 4, cells := 0, slots := 0, locals := 75 } : Room).cells ({ frames := 4, cells := 0, slots := 0, locals := 75 } : Room).slots) := by
  refine MetFree.of_bodySF (plainFor_of_name pn_java_lang_StringBuilder) hisR ?_
  intro p e s m args below meth c s₁ Bd hml0 hP hK
  obtain ⟨rfl, hZ, hh⟩ := hP
  have hx := Bd.exec
  have hby := Bd.bytes
  have hml : c.maxLocals = 2 := hml0
  have hown : s.vm.findClass "java/lang/StringBuilder" = some m.cls := findClass_of_methodNamed Bd.named
  have hnm := (name_of_methodNamed Bd.named Bd.method).1
  have X0 : Stand p l e ({ frames := 4, cells := 0, slots := 0, locals := 75 } : Room) s m #[(.ref o0), (.ref o1)] below meth c s₁ [] 0 0 := Stand.of_body Bd
  have e0 : s₁.heap = h0 := by rw [← hh, Bd.state]; rfl
  have N0 := Fr.nil n0
  show Go p e below (fun o U' => ∃ v L, o = .returned v ∧ Q5_5 Z o0 o1 f_o1_value ks w_COMPACT_STRINGS f_o0_value kv h0 n0 v U'.heap L ∧ FrameEnd s o U' L ({ frames := 4, cells := 0, slots := 0, locals := 75 } : Room).cells ({ frames := 4, cells := 0, slots := 0, locals := 75 } : Room).slots) (s₁.setTop (entryFrame m #[(.ref o0), (.ref o1)] 2))
  refine Go.of (fun _ k => castTop (ef_5 m o0 o1) k) ?_
  show Go p e below _ (s₁.setTop (mkF m 0 #[.val (.ref o0), .val (.ref o1)] []))
  refine Go.of (fun _ k => XS.aloadN X0.here hx rfl (hb hby d5_0) rfl rfl k) ?_
  refine Go.of (fun _ k => XS.aloadN X0.here hx rfl (hb hby d5_1) rfl rfl k) ?_
  obtain ⟨_, _, ⟨T1, L1, k1, n1⟩, -, X1, ⟨Lc1, hQ1, l1, y1, z1⟩, st1⟩ := superBack X0 hx hZ (y := own_y_AbstractStringBuilder_append_7) hown (own_h hw 39 rfl) (own_same (y := own_y_AbstractStringBuilder_append_7) (own_h hw 62 rfl) rfl (own_h hw 40 rfl) (by decide)) (own_h hw 40 rfl) (own_h hw 41 rfl) (by decide) (backOf (W := 0) (rm6_5 l Z a0 hw [] o0 o1 f_o1_value ks w_COMPACT_STRINGS f_o0_value kv h0 n0 Z0 F_o1_value V_f_o1_value S_COMPACT_STRINGS hc3_3_1_1 F_o1_coder E_o1 F_o0_count F_o0_value V_f_o0_value F_o0_coder E_o0 g_f_o0_value ne_f_o0_value_o0 g_o0) hZ (own_h hw 43 rfl) (own_h hw 16 rfl) (by decide) (by decide)) e0 (Ins.self E_o0) (g := (mkF m 2 #[.val (.ref o0), .val (.ref o1)] [(.ref o1), (.ref o0)])) rfl (by rw [hml]; rfl) (own_h hw 43 rfl) (argsL := [(.ref o1)]) (rest := []) (lenOf pd_6 rfl) rfl (Nat.le_of_eq rfl) (hb hby d5_2) (fun _ _ => ⟨rfl, e0, (by decide : 0 + 0 ≤ _), (by decide : 0 + 0 ≤ _)⟩)
  dsimp only [Pt.U, Pt.locs, Pt.cells, Pt.slots] at X1 l1 y1 z1 st1 hQ1
  subst l1 y1 z1
  obtain ⟨rfl, Nq1, q1_0, q1_1, q1_2, q1_3, q1_4, q1_5⟩ := hQ1
  have N1 := Fr.app N0 Nq1
  refine Go.tr st1 ?_
  have K1 : Keep h0 T1.heap [f_o0_value, o0] := ((Keep.refl h0 [f_o0_value, o0])).trans q1_0 (allS (Or.inl (List.mem_of_getElem? (i := 0) rfl)) (allS (Or.inl (List.mem_of_getElem? (i := 1) rfl)) all0))
  have Z1 : n0 ≤ T1.heap.size := Nat.le_trans Z0 q1_0.1
  show Go p e below _ (T1.setTop (mkF m 5 #[.val (.ref o0), .val (.ref o1)] [(.ref o0)]))
  refine Go.of (fun _ k => XS.pop X1.here hx rfl (hb hby d5_5) rfl rfl k) ?_
  show Go p e below _ (T1.setTop (mkF m 6 #[.val (.ref o0), .val (.ref o1)] []))
  refine Go.of (fun _ k => XS.aloadN X1.here hx rfl (hb hby d5_6) rfl rfl k) ?_
  obtain ⟨fs, hr, hrun, hended, hW, hsame⟩ := X1.leave (v := some (.ref o0)) (fun h => by rw [Bd.returns] at h; cases h)
  refine Go.mk _ _ ?_ hrun hended ⟨_, _, rfl, ?_, ⟨_, rfl⟩, hW, hsame.mono (by decide) (by decide)⟩
  · exact retOut X1 hx Bd.returns rfl (Or.inr (Or.inr (Or.inr (Or.inr ⟨rfl, rfl, rfl⟩)))) (hb hby d5_7) hr
  · show Q5_5 Z o0 o1 f_o1_value ks w_COMPACT_STRINGS f_o0_value kv h0 n0 _ T1.heap _
    exact ⟨rfl, N1, K1, q1_1, q1_2, q1_3, q1_4, q1_5⟩
def Q7_12 (Z : State) (o0 : Addr) (f_o0_value : Addr) (kv : ClassId) (w_COMPACT_STRINGS : Int32) (h0 : Heap) (n0 : Nat) (v : Option Value) (h : Heap) (L : List Loc) : Prop := v = some (.int (12 : Int32)) ∧ Fr n0 L ∧ h = h0
set_option maxRecDepth 65536 in
set_option maxHeartbeats 40000000 in
theorem rm7_12 (l : Launch) (Z : State) (a0 : Array Value) (hw : ∀ d ∈ tables_1, d.before a0 Z = true) (ws : List Jvm.Cond) (o0 : Addr) (f_o0_value : Addr) (kv : ClassId) (w_COMPACT_STRINGS : Int32) (h0 : Heap) (n0 : Nat) (Z0 : n0 ≤ h0.size) (F_o0_value : Fld Z h0 o0 "java/lang/String" "value" "[B" (.ref f_o0_value)) (V_f_o0_value : Arv Z h0 f_o0_value kv .byte (12 : Int32) [(.int (72 : Int32)), (.int (84 : Int32)), (.int (84 : Int32)), (.int (80 : Int32)), (.int (32 : Int32)), (.int (115 : Int32)), (.int (116 : Int32)), (.int (97 : Int32)), (.int (116 : Int32)), (.int (117 : Int32)), (.int (115 : Int32)), (.int (32 : Int32))] (.int (0 : Int32))) (S_COMPACT_STRINGS : Sta Z h0 "java/lang/String" "COMPACT_STRINGS" "Z" (.int w_COMPACT_STRINGS)) (hc3_3 : ¬ (w_COMPACT_STRINGS = (0 : Int32))) (F_o0_coder : Fld Z h0 o0 "java/lang/String" "coder" "B" (.int (0 : Int32))) (E_o0 : Exa Z h0 o0 "java/lang/String") :
    MetFree l (⟨"java/lang/String", "length", "()I"⟩ : MethodName) (head1 (Jvm.Cond.code (⟨"java/lang/String", "length", "()I"⟩ : MethodName) jdk_42_method_54_code 1 (some .int) :: ws) ({ frames := 1, cells := 0, slots := 0, locals := 13 } : Room)) (fun a U => a = #[(.ref o0)] ∧ Z.Warmed39 U.vm ∧ U.heap = h0) (fun _ _ _ _ _ => True) (fun _ U o U' => ∃ v L, o = .returned v ∧ Q7_12 Z o0 f_o0_value kv w_COMPACT_STRINGS h0 n0 v U'.heap L ∧ FrameEnd U o U' L ({ frames := 1, cells := 0, slots := 0, locals := 13 } : Room).cells ({ frames := 1, cells := 0, slots := 0, locals := 13 } : Room).slots) := by
  refine MetFree.of_bodySF (plainFor_of_name pn_java_lang_String) hisR ?_
  intro p e s m args below meth c s₁ Bd hml0 hP hK
  obtain ⟨rfl, hZ, hh⟩ := hP
  have hx := Bd.exec
  have hby := Bd.bytes
  have hml : c.maxLocals = 1 := hml0
  have hown : s.vm.findClass "java/lang/String" = some m.cls := findClass_of_methodNamed Bd.named
  have hnm := (name_of_methodNamed Bd.named Bd.method).1
  have X0 : Stand p l e ({ frames := 1, cells := 0, slots := 0, locals := 13 } : Room) s m #[(.ref o0)] below meth c s₁ [] 0 0 := Stand.of_body Bd
  have e0 : s₁.heap = h0 := by rw [← hh, Bd.state]; rfl
  have N0 := Fr.nil n0
  show Go p e below (fun o U' => ∃ v L, o = .returned v ∧ Q7_12 Z o0 f_o0_value kv w_COMPACT_STRINGS h0 n0 v U'.heap L ∧ FrameEnd s o U' L ({ frames := 1, cells := 0, slots := 0, locals := 13 } : Room).cells ({ frames := 1, cells := 0, slots := 0, locals := 13 } : Room).slots) (s₁.setTop (entryFrame m #[(.ref o0)] 1))
  refine Go.of (fun _ k => castTop (ef_7 m o0) k) ?_
  show Go p e below _ (s₁.setTop (mkF m 0 #[.val (.ref o0)] []))
  refine Go.of (fun _ k => XS.aloadN X0.here hx rfl (hb hby d7_0) rfl rfl k) ?_
  obtain ⟨T1, X1, e1, st1⟩ := getF X0 hx hZ hown (host := "") (Or.inl (own_h hw 49 rfl)) Via.refl e0 F_o0_value (g := (mkF m 1 #[.val (.ref o0)] [(.ref o0)])) rfl rfl (hb hby d7_1)
  refine Go.of st1 ?_
  show Go p e below _ (T1.setTop (mkF m 4 #[.val (.ref o0)] [(.ref f_o0_value)]))
  obtain ⟨clt2, Art2, qt2, st2, nt2, Ht2, Gt2⟩ := id V_f_o0_value
  refine Go.of (fun _ k => X1.arraylength hx (by rw [e1]; exact Art2.1) (State.isArrayOf_alike hZ.alike Art2.2.1) (g := (mkF m 4 #[.val (.ref o0)] [(.ref f_o0_value)])) rfl rfl (hb hby d7_4) _ k) ?_
  rw [len_of st2 nt2]
  show Go p e below _ (T1.setTop (mkF m 5 #[.val (.ref o0)] [(.int (12 : Int32))]))
  refine Go.of (fun _ k => XS.aloadN X1.here hx rfl (hb hby d7_5) rfl rfl k) ?_
  obtain ⟨cq3, kq3, q3a, q3b, q3c⟩ := isOf hZ e1 E_o0
  obtain ⟨_, _, ⟨T3, L3, k3, n3⟩, -, X3, ⟨Lc3, hQ3, l3, y3, z3⟩, st3⟩ := X1.virtualBack hx (y := own_y_String_coder_1) (z := own_y_String_coder_1) hown (mvT hZ (own_h hw 50 rfl)) (mvT hZ (own_h hw 51 rfl)) (notFace_of_selects (args := #[]) (mvT hZ (own_h hw 53 rfl))) (mvT hZ (own_h hw 53 rfl)) (mvT hZ (own_h hw 52 rfl)) (by decide) (backOf (W := 1) (rm8 l Z a0 hw [] o0 w_COMPACT_STRINGS h0 n0 Z0 S_COMPACT_STRINGS hc3_3 F_o0_coder) hZ (own_h hw 54 rfl) (own_h hw 22 rfl) (by decide) (by decide)) q3a q3c (g := (mkF m 6 #[.val (.ref o0)] [(.ref o0), (.int (12 : Int32))])) rfl (by rw [hml]; rfl) (Steps.refl _) (argsL := []) (rest := [(.int (12 : Int32))]) (lenOf pd_1 rfl) rfl (Nat.le_of_eq rfl) (hb hby d7_6) (fun _ _ => ⟨rfl, e1, (by decide : 0 + 0 ≤ _), (by decide : 0 + 0 ≤ _)⟩)
  dsimp only [Pt.U, Pt.locs, Pt.cells, Pt.slots] at X3 l3 y3 z3 st3 hQ3
  subst l3 y3 z3
  obtain ⟨rfl, Nq3, q3_0⟩ := hQ3
  have N3 := Fr.app N0 Nq3
  refine Go.tr st3 ?_
  show Go p e below _ (T3.setTop (mkF m 9 #[.val (.ref o0)] [(.int (0 : Int32)), (.int (12 : Int32))]))
  refine Go.of (fun _ k => XS.ishr X3.here hx rfl (hb hby d7_9) rfl k) ?_
  show Go p e below _ (T3.setTop (mkF m 10 #[.val (.ref o0)] [(.int (12 : Int32))]))
  obtain ⟨fs, hr, hrun, hended, hW, hsame⟩ := X3.leave (v := some (.int (12 : Int32))) (fun h => by rw [Bd.returns] at h; cases h)
  refine Go.mk _ _ ?_ hrun hended ⟨_, _, rfl, ?_, ⟨_, rfl⟩, hW, hsame.mono (by decide) (by decide)⟩
  · exact retI X3 hx Bd.returns (hb hby d7_10) hr
  · show Q7_12 Z o0 f_o0_value kv w_COMPACT_STRINGS h0 n0 _ T3.heap _
    rw [q3_0]
    exact ⟨rfl, N3, rfl⟩
def Q12_12 (Z : State) (o0 : Addr) (o1 : Addr) (w_COMPACT_STRINGS : Int32) (f_o0_value : Addr) (ks : ClassId) (kd : ClassId) (h0 : Heap) (n0 : Nat) (v : Option Value) (h : Heap) (L : List Loc) : Prop := v = none ∧ Fr n0 L ∧ Keep h0 h [o1] ∧ Arv Z h o1 kd .byte (16 : Int32) [(.int (72 : Int32)), (.int (84 : Int32)), (.int (84 : Int32)), (.int (80 : Int32)), (.int (32 : Int32)), (.int (115 : Int32)), (.int (116 : Int32)), (.int (97 : Int32)), (.int (116 : Int32)), (.int (117 : Int32)), (.int (115 : Int32)), (.int (32 : Int32)), (.int (0 : Int32)), (.int (0 : Int32)), (.int (0 : Int32)), (.int (0 : Int32))] (.int (0 : Int32))
set_option maxRecDepth 65536 in
set_option maxHeartbeats 40000000 in
theorem rm12_12 (l : Launch) (Z : State) (a0 : Array Value) (hw : ∀ d ∈ tables_1, d.before a0 Z = true) (ws : List Jvm.Cond) (o0 : Addr) (o1 : Addr) (w_COMPACT_STRINGS : Int32) (f_o0_value : Addr) (ks : ClassId) (kd : ClassId) (h0 : Heap) (n0 : Nat) (Z0 : n0 ≤ h0.size) (S_COMPACT_STRINGS : Sta Z h0 "java/lang/String" "COMPACT_STRINGS" "Z" (.int w_COMPACT_STRINGS)) (hc3_1 : ¬ (w_COMPACT_STRINGS = (0 : Int32))) (F_o0_coder : Fld Z h0 o0 "java/lang/String" "coder" "B" (.int (0 : Int32))) (E_o0 : Exa Z h0 o0 "java/lang/String") (F_o0_value : Fld Z h0 o0 "java/lang/String" "value" "[B" (.ref f_o0_value)) (V_f_o0_value : Arv Z h0 f_o0_value ks .byte (12 : Int32) [(.int (72 : Int32)), (.int (84 : Int32)), (.int (84 : Int32)), (.int (80 : Int32)), (.int (32 : Int32)), (.int (115 : Int32)), (.int (116 : Int32)), (.int (97 : Int32)), (.int (116 : Int32)), (.int (117 : Int32)), (.int (115 : Int32)), (.int (32 : Int32))] (.int (0 : Int32))) (V_o1 : Arv Z h0 o1 kd .byte (16 : Int32) [(.int (0 : Int32)), (.int (0 : Int32)), (.int (0 : Int32)), (.int (0 : Int32)), (.int (0 : Int32)), (.int (0 : Int32)), (.int (0 : Int32)), (.int (0 : Int32)), (.int (0 : Int32)), (.int (0 : Int32)), (.int (0 : Int32)), (.int (0 : Int32)), (.int (0 : Int32)), (.int (0 : Int32)), (.int (0 : Int32)), (.int (0 : Int32))] (.int (0 : Int32))) (g_o1 : n0 ≤ o1) :
    MetFree l (⟨"java/lang/String", "getBytes", "([BIB)V"⟩ : MethodName) (head1 (Jvm.Cond.code (⟨"java/lang/String", "getBytes", "([BIB)V"⟩ : MethodName) jdk_42_method_147_code 4 none :: ws) ({ frames := 1, cells := 0, slots := 0, locals := 32 } : Room)) (fun a U => a = #[(.ref o0), (.ref o1), (.int (0 : Int32)), (.int (0 : Int32))] ∧ Z.Warmed39 U.vm ∧ U.heap = h0) (fun _ _ _ _ _ => True) (fun _ U o U' => ∃ v L, o = .returned v ∧ Q12_12 Z o0 o1 w_COMPACT_STRINGS f_o0_value ks kd h0 n0 v U'.heap L ∧ FrameEnd U o U' L ({ frames := 1, cells := 0, slots := 0, locals := 32 } : Room).cells ({ frames := 1, cells := 0, slots := 0, locals := 32 } : Room).slots) := by
  refine MetFree.of_bodySF (plainFor_of_name pn_java_lang_String) hisR ?_
  intro p e s m args below meth c s₁ Bd hml0 hP hK
  obtain ⟨rfl, hZ, hh⟩ := hP
  have hx := Bd.exec
  have hby := Bd.bytes
  have hml : c.maxLocals = 4 := hml0
  have hown : s.vm.findClass "java/lang/String" = some m.cls := findClass_of_methodNamed Bd.named
  have hnm := (name_of_methodNamed Bd.named Bd.method).1
  have X0 : Stand p l e ({ frames := 1, cells := 0, slots := 0, locals := 32 } : Room) s m #[(.ref o0), (.ref o1), (.int (0 : Int32)), (.int (0 : Int32))] below meth c s₁ [] 0 0 := Stand.of_body Bd
  have e0 : s₁.heap = h0 := by rw [← hh, Bd.state]; rfl
  have N0 := Fr.nil n0
  show Go p e below (fun o U' => ∃ v L, o = .returned v ∧ Q12_12 Z o0 o1 w_COMPACT_STRINGS f_o0_value ks kd h0 n0 v U'.heap L ∧ FrameEnd s o U' L ({ frames := 1, cells := 0, slots := 0, locals := 32 } : Room).cells ({ frames := 1, cells := 0, slots := 0, locals := 32 } : Room).slots) (s₁.setTop (entryFrame m #[(.ref o0), (.ref o1), (.int (0 : Int32)), (.int (0 : Int32))] 4))
  refine Go.of (fun _ k => castTop (ef_12l2_0l3_0 m o0 o1) k) ?_
  show Go p e below _ (s₁.setTop (mkF m 0 #[.val (.ref o0), .val (.ref o1), .val (.int (0 : Int32)), .val (.int (0 : Int32))] []))
  refine Go.of (fun _ k => XS.aloadN X0.here hx rfl (hb hby d12_0) rfl rfl k) ?_
  obtain ⟨cq1, kq1, q1a, q1b, q1c⟩ := isOf hZ e0 E_o0
  obtain ⟨_, _, ⟨T1, L1, k1, n1⟩, -, X1, ⟨Lc1, hQ1, l1, y1, z1⟩, st1⟩ := X0.virtualBack hx (y := own_y_String_coder_1) (z := own_y_String_coder_1) hown (mvT hZ (own_h hw 50 rfl)) (mvT hZ (own_h hw 51 rfl)) (notFace_of_selects (args := #[]) (mvT hZ (own_h hw 53 rfl))) (mvT hZ (own_h hw 53 rfl)) (mvT hZ (own_h hw 52 rfl)) (by decide) (backOf (W := 0) (rm8 l Z a0 hw [] o0 w_COMPACT_STRINGS h0 n0 Z0 S_COMPACT_STRINGS hc3_1 F_o0_coder) hZ (own_h hw 54 rfl) (own_h hw 22 rfl) (by decide) (by decide)) q1a q1c (g := (mkF m 1 #[.val (.ref o0), .val (.ref o1), .val (.int (0 : Int32)), .val (.int (0 : Int32))] [(.ref o0)])) rfl (by rw [hml]; rfl) (Steps.refl _) (argsL := []) (rest := []) (lenOf pd_1 rfl) rfl (Nat.le_of_eq rfl) (hb hby d12_1) (fun _ _ => ⟨rfl, e0, (by decide : 0 + 0 ≤ _), (by decide : 0 + 0 ≤ _)⟩)
  dsimp only [Pt.U, Pt.locs, Pt.cells, Pt.slots] at X1 l1 y1 z1 st1 hQ1
  subst l1 y1 z1
  obtain ⟨rfl, Nq1, q1_0⟩ := hQ1
  have N1 := Fr.app N0 Nq1
  refine Go.tr st1 ?_
  show Go p e below _ (T1.setTop (mkF m 4 #[.val (.ref o0), .val (.ref o1), .val (.int (0 : Int32)), .val (.int (0 : Int32))] [(.int (0 : Int32))]))
  refine Go.of (fun _ k => XS.iloadN X1.here hx rfl (hb hby d12_4) rfl  k) ?_
  refine Go.of (fun _ k => XS.icmpNo X1.here hx rfl (hb hby d12_5) rfl (teq (by decide : (0 : Int32) = (0 : Int32))).2 k) ?_
  show Go p e below _ (T1.setTop (mkF m 8 #[.val (.ref o0), .val (.ref o1), .val (.int (0 : Int32)), .val (.int (0 : Int32))] []))
  refine Go.of (fun _ k => XS.aloadN X1.here hx rfl (hb hby d12_8) rfl rfl k) ?_
  obtain ⟨T2, X2, e2, st2⟩ := getF X1 hx hZ hown (host := "") (Or.inl (own_h hw 49 rfl)) Via.refl q1_0 F_o0_value (g := (mkF m 9 #[.val (.ref o0), .val (.ref o1), .val (.int (0 : Int32)), .val (.int (0 : Int32))] [(.ref o0)])) rfl rfl (hb hby d12_9)
  refine Go.of st2 ?_
  show Go p e below _ (T2.setTop (mkF m 12 #[.val (.ref o0), .val (.ref o1), .val (.int (0 : Int32)), .val (.int (0 : Int32))] [(.ref f_o0_value)]))
  refine Go.of (fun _ k => XS.iconst X2.here hx rfl (hb hby d12_12) k) ?_
  refine Go.of (fun _ k => XS.aloadN X2.here hx rfl (hb hby d12_13) rfl rfl k) ?_
  refine Go.of (fun _ k => XS.iloadN X2.here hx rfl (hb hby d12_14) rfl  k) ?_
  refine Go.of (fun _ k => XS.iloadN X2.here hx rfl (hb hby d12_15) rfl  k) ?_
  refine Go.of (fun _ k => XS.ishl X2.here hx rfl (hb hby d12_16) rfl k) ?_
  show Go p e below _ (T2.setTop (mkF m 17 #[.val (.ref o0), .val (.ref o1), .val (.int (0 : Int32)), .val (.int (0 : Int32))] [(.int (0 : Int32)), (.ref o1), (.int (0 : Int32)), (.ref f_o0_value)]))
  refine Go.of (fun _ k => XS.aloadN X2.here hx rfl (hb hby d12_17) rfl rfl k) ?_
  obtain ⟨T3, X3, e3, st3⟩ := getF X2 hx hZ hown (host := "") (Or.inl (own_h hw 49 rfl)) Via.refl e2 F_o0_value (g := (mkF m 18 #[.val (.ref o0), .val (.ref o1), .val (.int (0 : Int32)), .val (.int (0 : Int32))] [(.ref o0), (.int (0 : Int32)), (.ref o1), (.int (0 : Int32)), (.ref f_o0_value)])) rfl rfl (hb hby d12_18)
  refine Go.of st3 ?_
  show Go p e below _ (T3.setTop (mkF m 21 #[.val (.ref o0), .val (.ref o1), .val (.int (0 : Int32)), .val (.int (0 : Int32))] [(.ref f_o0_value), (.int (0 : Int32)), (.ref o1), (.int (0 : Int32)), (.ref f_o0_value)]))
  obtain ⟨clt4, Art4, qt4, st4, nt4, Ht4, Gt4⟩ := id V_f_o0_value
  refine Go.of (fun _ k => X3.arraylength hx (by rw [e3]; exact Art4.1) (State.isArrayOf_alike hZ.alike Art4.2.1) (g := (mkF m 21 #[.val (.ref o0), .val (.ref o1), .val (.int (0 : Int32)), .val (.int (0 : Int32))] [(.ref f_o0_value), (.int (0 : Int32)), (.ref o1), (.int (0 : Int32)), (.ref f_o0_value)])) rfl rfl (hb hby d12_21) _ k) ?_
  rw [len_of st4 nt4]
  show Go p e below _ (T3.setTop (mkF m 22 #[.val (.ref o0), .val (.ref o1), .val (.int (0 : Int32)), .val (.int (0 : Int32))] [(.int (12 : Int32)), (.int (0 : Int32)), (.ref o1), (.int (0 : Int32)), (.ref f_o0_value)]))
  obtain ⟨T5, h5, L5, X5, e5, N5, q5_0, V5, st5⟩ := cpA X3 hx hZ hown (own_h hw 80 rfl) (own_h hw 83 rfl) (own_h hw 81 rfl) (own_h hw 82 rfl) e3 V_f_o0_value V_o1 (us := [(.int (72 : Int32)), (.int (84 : Int32)), (.int (84 : Int32)), (.int (80 : Int32)), (.int (32 : Int32)), (.int (115 : Int32)), (.int (116 : Int32)), (.int (97 : Int32)), (.int (116 : Int32)), (.int (117 : Int32)), (.int (115 : Int32)), (.int (32 : Int32))]) (Or.inl ⟨rfl, rfl⟩) (by decide) (by decide) (by decide) (by decide) (by decide) rfl (Nat.le_of_ble_eq_true rfl) N1 g_o1 (g := (mkF m 22 #[.val (.ref o0), .val (.ref o1), .val (.int (0 : Int32)), .val (.int (0 : Int32))] [(.int (12 : Int32)), (.int (0 : Int32)), (.ref o1), (.int (0 : Int32)), (.ref f_o0_value)])) rfl (by rw [hml]; rfl) (rest := []) rfl (hb hby d12_22) (by decide) (W := 0) (Nat.le_of_eq rfl) (by decide)
  refine Go.of st5 ?_
  have K5 : Keep h0 h5 [o1] := ((Keep.refl h0 [o1])).trans q5_0 (allS (Or.inl (List.mem_of_getElem? (i := 0) rfl)) all0)
  have Z5 : n0 ≤ h5.size := Nat.le_trans Z0 q5_0.1
  have Vc5 : Arv Z h5 o1 kd .byte (16 : Int32) [(.int (72 : Int32)), (.int (84 : Int32)), (.int (84 : Int32)), (.int (80 : Int32)), (.int (32 : Int32)), (.int (115 : Int32)), (.int (116 : Int32)), (.int (97 : Int32)), (.int (116 : Int32)), (.int (117 : Int32)), (.int (115 : Int32)), (.int (32 : Int32)), (.int (0 : Int32)), (.int (0 : Int32)), (.int (0 : Int32)), (.int (0 : Int32))] (.int (0 : Int32)) := V5
  show Go p e below _ (T5.setTop (mkF m 25 #[.val (.ref o0), .val (.ref o1), .val (.int (0 : Int32)), .val (.int (0 : Int32))] []))
  refine Go.of (fun _ k => XS.goto X5.here hx rfl (pc0 := 25) (pc' := 43) rfl (hb hby d12_25) (by decide) (by decide) k) ?_
  show Go p e below _ (T5.setTop (mkF m 43 #[.val (.ref o0), .val (.ref o1), .val (.int (0 : Int32)), .val (.int (0 : Int32))] []))
  obtain ⟨fs, hr, hrun, hended, hW, hsame⟩ := X5.leave (v := none) (fun _ => rfl)
  refine Go.mk _ _ ?_ hrun hended ⟨_, _, rfl, ?_, ⟨_, rfl⟩, hW, hsame.mono (by decide) (by decide)⟩
  · exact X5.returnOut hx Bd.returns (hb hby d12_43) hr
  · show Q12_12 Z o0 o1 w_COMPACT_STRINGS f_o0_value ks kd h0 n0 _ T5.heap _
    rw [e5]
    exact ⟨rfl, N5, K5, Vc5⟩
def Q10_12 (Z : State) (o0 : Addr) (o2 : Addr) (w_COMPACT_STRINGS : Int32) (f_o0_value : Addr) (f_o2_value : Addr) (ks : ClassId) (kv : ClassId) (h0 : Heap) (n0 : Nat) (v : Option Value) (h : Heap) (L : List Loc) : Prop := v = none ∧ Fr n0 L ∧ Keep h0 h [f_o0_value] ∧ Arv Z h f_o0_value kv .byte (16 : Int32) [(.int (72 : Int32)), (.int (84 : Int32)), (.int (84 : Int32)), (.int (80 : Int32)), (.int (32 : Int32)), (.int (115 : Int32)), (.int (116 : Int32)), (.int (97 : Int32)), (.int (116 : Int32)), (.int (117 : Int32)), (.int (115 : Int32)), (.int (32 : Int32)), (.int (0 : Int32)), (.int (0 : Int32)), (.int (0 : Int32)), (.int (0 : Int32))] (.int (0 : Int32))
set_option maxRecDepth 65536 in
set_option maxHeartbeats 40000000 in
theorem rm10_12 (l : Launch) (Z : State) (a0 : Array Value) (hw : ∀ d ∈ tables_1, d.before a0 Z = true) (ws : List Jvm.Cond) (o0 : Addr) (o2 : Addr) (w_COMPACT_STRINGS : Int32) (f_o0_value : Addr) (f_o2_value : Addr) (ks : ClassId) (kv : ClassId) (h0 : Heap) (n0 : Nat) (Z0 : n0 ≤ h0.size) (S_COMPACT_STRINGS : Sta Z h0 "java/lang/String" "COMPACT_STRINGS" "Z" (.int w_COMPACT_STRINGS)) (hc3_1 : ¬ (w_COMPACT_STRINGS = (0 : Int32))) (F_o0_coder : Fld Z h0 o0 "java/lang/AbstractStringBuilder" "coder" "B" (.int (0 : Int32))) (F_o2_coder : Fld Z h0 o2 "java/lang/String" "coder" "B" (.int (0 : Int32))) (E_o2 : Exa Z h0 o2 "java/lang/String") (E_o0 : Exa Z h0 o0 "java/lang/StringBuilder") (F_o0_value : Fld Z h0 o0 "java/lang/AbstractStringBuilder" "value" "[B" (.ref f_o0_value)) (F_o2_value : Fld Z h0 o2 "java/lang/String" "value" "[B" (.ref f_o2_value)) (V_f_o2_value : Arv Z h0 f_o2_value ks .byte (12 : Int32) [(.int (72 : Int32)), (.int (84 : Int32)), (.int (84 : Int32)), (.int (80 : Int32)), (.int (32 : Int32)), (.int (115 : Int32)), (.int (116 : Int32)), (.int (97 : Int32)), (.int (116 : Int32)), (.int (117 : Int32)), (.int (115 : Int32)), (.int (32 : Int32))] (.int (0 : Int32))) (V_f_o0_value : Arv Z h0 f_o0_value kv .byte (16 : Int32) [(.int (0 : Int32)), (.int (0 : Int32)), (.int (0 : Int32)), (.int (0 : Int32)), (.int (0 : Int32)), (.int (0 : Int32)), (.int (0 : Int32)), (.int (0 : Int32)), (.int (0 : Int32)), (.int (0 : Int32)), (.int (0 : Int32)), (.int (0 : Int32)), (.int (0 : Int32)), (.int (0 : Int32)), (.int (0 : Int32)), (.int (0 : Int32))] (.int (0 : Int32))) (g_f_o0_value : n0 ≤ f_o0_value) :
    MetFree l (⟨"java/lang/AbstractStringBuilder", "putStringAt", "(ILjava/lang/String;)V"⟩ : MethodName) (head1 (Jvm.Cond.code (⟨"java/lang/AbstractStringBuilder", "putStringAt", "(ILjava/lang/String;)V"⟩ : MethodName) jdk_68_method_73_code 3 none :: ws) ({ frames := 2, cells := 0, slots := 0, locals := 47 } : Room)) (fun a U => a = #[(.ref o0), (.int (0 : Int32)), (.ref o2)] ∧ Z.Warmed39 U.vm ∧ U.heap = h0) (fun _ _ _ _ _ => True) (fun _ U o U' => ∃ v L, o = .returned v ∧ Q10_12 Z o0 o2 w_COMPACT_STRINGS f_o0_value f_o2_value ks kv h0 n0 v U'.heap L ∧ FrameEnd U o U' L ({ frames := 2, cells := 0, slots := 0, locals := 47 } : Room).cells ({ frames := 2, cells := 0, slots := 0, locals := 47 } : Room).slots) := by
  refine MetFree.of_bodySF (plainFor_of_name pn_java_lang_AbstractStringBuilder) hisR ?_
  intro p e s m args below meth c s₁ Bd hml0 hP hK
  obtain ⟨rfl, hZ, hh⟩ := hP
  have hx := Bd.exec
  have hby := Bd.bytes
  have hml : c.maxLocals = 3 := hml0
  have hown : s.vm.findClass "java/lang/AbstractStringBuilder" = some m.cls := findClass_of_methodNamed Bd.named
  have hnm := (name_of_methodNamed Bd.named Bd.method).1
  have X0 : Stand p l e ({ frames := 2, cells := 0, slots := 0, locals := 47 } : Room) s m #[(.ref o0), (.int (0 : Int32)), (.ref o2)] below meth c s₁ [] 0 0 := Stand.of_body Bd
  have e0 : s₁.heap = h0 := by rw [← hh, Bd.state]; rfl
  have N0 := Fr.nil n0
  show Go p e below (fun o U' => ∃ v L, o = .returned v ∧ Q10_12 Z o0 o2 w_COMPACT_STRINGS f_o0_value f_o2_value ks kv h0 n0 v U'.heap L ∧ FrameEnd s o U' L ({ frames := 2, cells := 0, slots := 0, locals := 47 } : Room).cells ({ frames := 2, cells := 0, slots := 0, locals := 47 } : Room).slots) (s₁.setTop (entryFrame m #[(.ref o0), (.int (0 : Int32)), (.ref o2)] 3))
  refine Go.of (fun _ k => castTop (ef_10l1_0 m o0 o2) k) ?_
  show Go p e below _ (s₁.setTop (mkF m 0 #[.val (.ref o0), .val (.int (0 : Int32)), .val (.ref o2)] []))
  refine Go.of (fun _ k => XS.aloadN X0.here hx rfl (hb hby d10_0) rfl rfl k) ?_
  refine Go.of (fun _ k => XS.aloadN X0.here hx rfl (hb hby d10_1) rfl rfl k) ?_
  obtain ⟨cq1, q1, q1'⟩ := E_o0.cell
  obtain ⟨_, _, ⟨T1, L1, k1, n1⟩, -, X1, ⟨Lc1, hQ1, l1, y1, z1⟩, st1⟩ := X0.privateBack hx (y := own_y_AbstractStringBuilder_inflateIfNeededFor_2) hown (mvT hZ (own_h hw 69 rfl)) (mvT hZ (own_h hw 70 rfl)) (own_selpriv (mvT hZ (own_h hw 72 rfl)) (Cond.privateMethod_at (mvP hZ (own_h hw 71 rfl) (args := #[]))) (mvT hZ (own_h hw 70 rfl)) (by decide)) (Cond.privateMethod_at (mvP hZ (own_h hw 71 rfl) (args := #[]))) (mvT hZ (own_h hw 73 rfl)) (by decide) (backOf (W := 0) (rm11 l Z a0 hw [] o0 o2 w_COMPACT_STRINGS h0 n0 Z0 S_COMPACT_STRINGS hc3_1 F_o0_coder F_o2_coder E_o2) hZ (own_h hw 73 rfl) (own_h hw 16 rfl) (by decide) (by decide)) (g := (mkF m 2 #[.val (.ref o0), .val (.int (0 : Int32)), .val (.ref o2)] [(.ref o2), (.ref o0)])) rfl (by rw [hml]; rfl) (Steps.refl _) (a := o0) (by rw [e0]; exact q1) q1' (argsL := [(.ref o2)]) (rest := []) (lenOf pd_2 rfl) rfl (Nat.le_of_eq rfl) (hb hby d10_2) (fun _ _ => ⟨rfl, e0, (by decide : 0 + 0 ≤ _), (by decide : 0 + 0 ≤ _)⟩)
  dsimp only [Pt.U, Pt.locs, Pt.cells, Pt.slots] at X1 l1 y1 z1 st1 hQ1
  subst l1 y1 z1
  obtain ⟨rfl, Nq1, q1_0⟩ := hQ1
  have N1 := Fr.app N0 Nq1
  refine Go.tr st1 ?_
  show Go p e below _ (T1.setTop (mkF m 5 #[.val (.ref o0), .val (.int (0 : Int32)), .val (.ref o2)] []))
  refine Go.of (fun _ k => XS.aloadN X1.here hx rfl (hb hby d10_5) rfl rfl k) ?_
  refine Go.of (fun _ k => XS.aloadN X1.here hx rfl (hb hby d10_6) rfl rfl k) ?_
  obtain ⟨T2, X2, e2, st2⟩ := getF X1 hx hZ hown (host := "") (Or.inl (own_h hw 24 rfl)) Via.refl q1_0 F_o0_value (g := (mkF m 7 #[.val (.ref o0), .val (.int (0 : Int32)), .val (.ref o2)] [(.ref o0), (.ref o2)])) rfl rfl (hb hby d10_7)
  refine Go.of st2 ?_
  show Go p e below _ (T2.setTop (mkF m 10 #[.val (.ref o0), .val (.int (0 : Int32)), .val (.ref o2)] [(.ref f_o0_value), (.ref o2)]))
  refine Go.of (fun _ k => XS.iloadN X2.here hx rfl (hb hby d10_10) rfl  k) ?_
  refine Go.of (fun _ k => XS.aloadN X2.here hx rfl (hb hby d10_11) rfl rfl k) ?_
  obtain ⟨T3, X3, e3, st3⟩ := getF X2 hx hZ hown (host := "") (Or.inl (own_h hw 26 rfl)) Via.refl e2 F_o0_coder (g := (mkF m 12 #[.val (.ref o0), .val (.int (0 : Int32)), .val (.ref o2)] [(.ref o0), (.int (0 : Int32)), (.ref f_o0_value), (.ref o2)])) rfl rfl (hb hby d10_12)
  refine Go.of st3 ?_
  show Go p e below _ (T3.setTop (mkF m 15 #[.val (.ref o0), .val (.int (0 : Int32)), .val (.ref o2)] [(.int (0 : Int32)), (.int (0 : Int32)), (.ref f_o0_value), (.ref o2)]))
  obtain ⟨cq4, kq4, q4a, q4b, q4c⟩ := isOf hZ e3 E_o2
  obtain ⟨_, _, ⟨T4, L4, k4, n4⟩, -, X4, ⟨Lc4, hQ4, l4, y4, z4⟩, st4⟩ := X3.virtualBack hx (y := own_y_String_getBytes_3) (z := own_y_String_getBytes_3) hown (mvT hZ (own_h hw 75 rfl)) (mvT hZ (own_h hw 76 rfl)) (notFace_of_selects (args := #[]) (mvT hZ (own_h hw 78 rfl))) (mvT hZ (own_h hw 78 rfl)) (mvT hZ (own_h hw 77 rfl)) (by decide) (backOf (W := 0) (rm12_12 l Z a0 hw [] o2 f_o0_value w_COMPACT_STRINGS f_o2_value ks kv h0 n0 Z0 S_COMPACT_STRINGS hc3_1 F_o2_coder E_o2 F_o2_value V_f_o2_value V_f_o0_value g_f_o0_value) hZ (own_h hw 79 rfl) (own_h hw 22 rfl) (by decide) (by decide)) q4a q4c (g := (mkF m 15 #[.val (.ref o0), .val (.int (0 : Int32)), .val (.ref o2)] [(.int (0 : Int32)), (.int (0 : Int32)), (.ref f_o0_value), (.ref o2)])) rfl (by rw [hml]; rfl) (Steps.refl _) (argsL := [(.ref f_o0_value), (.int (0 : Int32)), (.int (0 : Int32))]) (rest := []) (lenOf pd_3 rfl) rfl (Nat.le_of_eq rfl) (hb hby d10_15) (fun _ _ => ⟨rfl, e3, (by decide : 0 + 0 ≤ _), (by decide : 0 + 0 ≤ _)⟩)
  dsimp only [Pt.U, Pt.locs, Pt.cells, Pt.slots] at X4 l4 y4 z4 st4 hQ4
  subst l4 y4 z4
  obtain ⟨rfl, Nq4, q4_0, q4_1⟩ := hQ4
  have N4 := Fr.app N1 Nq4
  refine Go.tr st4 ?_
  have K4 : Keep h0 T4.heap [f_o0_value] := ((Keep.refl h0 [f_o0_value])).trans q4_0 (allS (Or.inl (List.mem_of_getElem? (i := 0) rfl)) all0)
  have Z4 : n0 ≤ T4.heap.size := Nat.le_trans Z0 q4_0.1
  show Go p e below _ (T4.setTop (mkF m 18 #[.val (.ref o0), .val (.int (0 : Int32)), .val (.ref o2)] []))
  obtain ⟨fs, hr, hrun, hended, hW, hsame⟩ := X4.leave (v := none) (fun _ => rfl)
  refine Go.mk _ _ ?_ hrun hended ⟨_, _, rfl, ?_, ⟨_, rfl⟩, hW, hsame.mono (by decide) (by decide)⟩
  · exact X4.returnOut hx Bd.returns (hb hby d10_18) hr
  · show Q10_12 Z o0 o2 w_COMPACT_STRINGS f_o0_value f_o2_value ks kv h0 n0 _ T4.heap _
    exact ⟨rfl, N4, K4, q4_1⟩
theorem ef_9l1_12 (m : MethodId) (x0 : Addr) : entryFrame m #[(.ref x0), (.int (12 : Int32))] 3 = mkF m 0 #[.val (.ref x0), .val (.int (12 : Int32)), .unset] [] := by first | (simp [entryFrame, mkF, argsToLocals, Value.category]; done) | rfl
def Q9_s12 (Z : State) (o0 : Addr) (f_o0_value : Addr) (kv : ClassId) (h0 : Heap) (n0 : Nat) (v : Option Value) (h : Heap) (L : List Loc) : Prop := v = none ∧ Fr n0 L ∧ h = h0
set_option maxRecDepth 65536 in
set_option maxHeartbeats 40000000 in
theorem rm9_s12 (l : Launch) (Z : State) (a0 : Array Value) (hw : ∀ d ∈ tables_1, d.before a0 Z = true) (ws : List Jvm.Cond) (o0 : Addr) (f_o0_value : Addr) (kv : ClassId) (h0 : Heap) (n0 : Nat) (Z0 : n0 ≤ h0.size) (F_o0_value : Fld Z h0 o0 "java/lang/AbstractStringBuilder" "value" "[B" (.ref f_o0_value)) (V_f_o0_value : Arv Z h0 f_o0_value kv .byte (16 : Int32) [(.int (0 : Int32)), (.int (0 : Int32)), (.int (0 : Int32)), (.int (0 : Int32)), (.int (0 : Int32)), (.int (0 : Int32)), (.int (0 : Int32)), (.int (0 : Int32)), (.int (0 : Int32)), (.int (0 : Int32)), (.int (0 : Int32)), (.int (0 : Int32)), (.int (0 : Int32)), (.int (0 : Int32)), (.int (0 : Int32)), (.int (0 : Int32))] (.int (0 : Int32))) (F_o0_coder : Fld Z h0 o0 "java/lang/AbstractStringBuilder" "coder" "B" (.int (0 : Int32))) :
    MetFree l (⟨"java/lang/AbstractStringBuilder", "ensureCapacityInternal", "(I)V"⟩ : MethodName) (head1 (Jvm.Cond.code (⟨"java/lang/AbstractStringBuilder", "ensureCapacityInternal", "(I)V"⟩ : MethodName) jdk_68_method_9_code 3 none :: ws) ({ frames := 0, cells := 0, slots := 0, locals := 0 } : Room)) (fun a U => a = #[(.ref o0), (.int (12 : Int32))] ∧ Z.Warmed39 U.vm ∧ U.heap = h0) (fun _ _ _ _ _ => True) (fun _ U o U' => ∃ v L, o = .returned v ∧ Q9_s12 Z o0 f_o0_value kv h0 n0 v U'.heap L ∧ FrameEnd U o U' L ({ frames := 0, cells := 0, slots := 0, locals := 0 } : Room).cells ({ frames := 0, cells := 0, slots := 0, locals := 0 } : Room).slots) := by
  refine MetFree.of_bodySF (plainFor_of_name pn_java_lang_AbstractStringBuilder) hisR ?_
  intro p e s m args below meth c s₁ Bd hml0 hP hK
  obtain ⟨rfl, hZ, hh⟩ := hP
  have hx := Bd.exec
  have hby := Bd.bytes
  have hml : c.maxLocals = 3 := hml0
  have hown : s.vm.findClass "java/lang/AbstractStringBuilder" = some m.cls := findClass_of_methodNamed Bd.named
  have hnm := (name_of_methodNamed Bd.named Bd.method).1
  have X0 : Stand p l e ({ frames := 0, cells := 0, slots := 0, locals := 0 } : Room) s m #[(.ref o0), (.int (12 : Int32))] below meth c s₁ [] 0 0 := Stand.of_body Bd
  have e0 : s₁.heap = h0 := by rw [← hh, Bd.state]; rfl
  have N0 := Fr.nil n0
  show Go p e below (fun o U' => ∃ v L, o = .returned v ∧ Q9_s12 Z o0 f_o0_value kv h0 n0 v U'.heap L ∧ FrameEnd s o U' L ({ frames := 0, cells := 0, slots := 0, locals := 0 } : Room).cells ({ frames := 0, cells := 0, slots := 0, locals := 0 } : Room).slots) (s₁.setTop (entryFrame m #[(.ref o0), (.int (12 : Int32))] 3))
  refine Go.of (fun _ k => castTop (ef_9l1_12 m o0) k) ?_
  show Go p e below _ (s₁.setTop (mkF m 0 #[.val (.ref o0), .val (.int (12 : Int32)), .unset] []))
  refine Go.of (fun _ k => XS.aloadN X0.here hx rfl (hb hby d9_0) rfl rfl k) ?_
  obtain ⟨T1, X1, e1, st1⟩ := getF X0 hx hZ hown (host := "") (Or.inl (own_h hw 24 rfl)) Via.refl e0 F_o0_value (g := (mkF m 1 #[.val (.ref o0), .val (.int (12 : Int32)), .unset] [(.ref o0)])) rfl rfl (hb hby d9_1)
  refine Go.of st1 ?_
  show Go p e below _ (T1.setTop (mkF m 4 #[.val (.ref o0), .val (.int (12 : Int32)), .unset] [(.ref f_o0_value)]))
  obtain ⟨clt2, Art2, qt2, st2, nt2, Ht2, Gt2⟩ := id V_f_o0_value
  refine Go.of (fun _ k => X1.arraylength hx (by rw [e1]; exact Art2.1) (State.isArrayOf_alike hZ.alike Art2.2.1) (g := (mkF m 4 #[.val (.ref o0), .val (.int (12 : Int32)), .unset] [(.ref f_o0_value)])) rfl rfl (hb hby d9_4) _ k) ?_
  rw [len_of st2 nt2]
  show Go p e below _ (T1.setTop (mkF m 5 #[.val (.ref o0), .val (.int (12 : Int32)), .unset] [(.int (16 : Int32))]))
  refine Go.of (fun _ k => XS.aloadN X1.here hx rfl (hb hby d9_5) rfl rfl k) ?_
  obtain ⟨T3, X3, e3, st3⟩ := getF X1 hx hZ hown (host := "") (Or.inl (own_h hw 26 rfl)) Via.refl e1 F_o0_coder (g := (mkF m 6 #[.val (.ref o0), .val (.int (12 : Int32)), .unset] [(.ref o0), (.int (16 : Int32))])) rfl rfl (hb hby d9_6)
  refine Go.of st3 ?_
  show Go p e below _ (T3.setTop (mkF m 9 #[.val (.ref o0), .val (.int (12 : Int32)), .unset] [(.int (0 : Int32)), (.int (16 : Int32))]))
  refine Go.of (fun _ k => XS.ishr X3.here hx rfl (hb hby d9_9) rfl k) ?_
  show Go p e below _ (T3.setTop (mkF m 10 #[.val (.ref o0), .val (.int (12 : Int32)), .unset] [(.int (16 : Int32))]))
  refine Go.of (fun _ k => XS.istoreN X3.here hx rfl (hb hby d9_10) rfl (l' := #[.val (.ref o0), .val (.int (12 : Int32)), .val (.int (16 : Int32))]) rfl k) ?_
  show Go p e below _ (T3.setTop (mkF m 11 #[.val (.ref o0), .val (.int (12 : Int32)), .val (.int (16 : Int32))] []))
  refine Go.of (fun _ k => XS.iloadN X3.here hx rfl (hb hby d9_11) rfl  k) ?_
  refine Go.of (fun _ k => XS.iloadN X3.here hx rfl (hb hby d9_12) rfl  k) ?_
  refine Go.of (fun _ k => XS.isub X3.here hx rfl (hb hby d9_13) rfl k) ?_
  show Go p e below _ (T3.setTop (mkF m 14 #[.val (.ref o0), .val (.int (12 : Int32)), .val (.int (16 : Int32))] [(.int (-4 : Int32))]))
  refine Go.of (fun _ k => XS.ifYes X3.here hx rfl (pc0 := 14) (pc' := 38) rfl (hb hby d9_14) rfl ((if0 _ _).trans (flt (by decide : ¬ ((0 : Int32) < (-4 : Int32)))).2.2.2) (by decide) (by decide) k) ?_
  show Go p e below _ (T3.setTop (mkF m 38 #[.val (.ref o0), .val (.int (12 : Int32)), .val (.int (16 : Int32))] []))
  obtain ⟨fs, hr, hrun, hended, hW, hsame⟩ := X3.leave (v := none) (fun _ => rfl)
  refine Go.mk _ _ ?_ hrun hended ⟨_, _, rfl, ?_, ⟨_, rfl⟩, hW, hsame.mono (by decide) (by decide)⟩
  · exact X3.returnOut hx Bd.returns (hb hby d9_38) hr
  · show Q9_s12 Z o0 f_o0_value kv h0 n0 _ T3.heap _
    rw [e3]
    exact ⟨rfl, N0, rfl⟩
def Q6_12 (Z : State) (o0 : Addr) (o1 : Addr) (f_o1_value : Addr) (ks : ClassId) (w_COMPACT_STRINGS : Int32) (f_o0_value : Addr) (kv : ClassId) (h0 : Heap) (n0 : Nat) (v : Option Value) (h : Heap) (L : List Loc) : Prop := v = some (.ref o0) ∧ Fr n0 L ∧ Keep h0 h [f_o0_value, o0] ∧ Arv Z h f_o0_value kv .byte (16 : Int32) [(.int (72 : Int32)), (.int (84 : Int32)), (.int (84 : Int32)), (.int (80 : Int32)), (.int (32 : Int32)), (.int (115 : Int32)), (.int (116 : Int32)), (.int (97 : Int32)), (.int (116 : Int32)), (.int (117 : Int32)), (.int (115 : Int32)), (.int (32 : Int32)), (.int (0 : Int32)), (.int (0 : Int32)), (.int (0 : Int32)), (.int (0 : Int32))] (.int (0 : Int32)) ∧ Exa Z h o0 "java/lang/StringBuilder" ∧ Fld Z h o0 "java/lang/AbstractStringBuilder" "coder" "B" (.int (0 : Int32)) ∧ Fld Z h o0 "java/lang/AbstractStringBuilder" "count" "I" (.int (12 : Int32)) ∧ Fld Z h o0 "java/lang/AbstractStringBuilder" "value" "[B" (.ref f_o0_value)
set_option maxRecDepth 65536 in
set_option maxHeartbeats 40000000 in
theorem rm6_12 (l : Launch) (Z : State) (a0 : Array Value) (hw : ∀ d ∈ tables_1, d.before a0 Z = true) (ws : List Jvm.Cond) (o0 : Addr) (o1 : Addr) (f_o1_value : Addr) (ks : ClassId) (w_COMPACT_STRINGS : Int32) (f_o0_value : Addr) (kv : ClassId) (h0 : Heap) (n0 : Nat) (Z0 : n0 ≤ h0.size) (F_o1_value : Fld Z h0 o1 "java/lang/String" "value" "[B" (.ref f_o1_value)) (V_f_o1_value : Arv Z h0 f_o1_value ks .byte (12 : Int32) [(.int (72 : Int32)), (.int (84 : Int32)), (.int (84 : Int32)), (.int (80 : Int32)), (.int (32 : Int32)), (.int (115 : Int32)), (.int (116 : Int32)), (.int (97 : Int32)), (.int (116 : Int32)), (.int (117 : Int32)), (.int (115 : Int32)), (.int (32 : Int32))] (.int (0 : Int32))) (S_COMPACT_STRINGS : Sta Z h0 "java/lang/String" "COMPACT_STRINGS" "Z" (.int w_COMPACT_STRINGS)) (hc3_3_1 : ¬ (w_COMPACT_STRINGS = (0 : Int32))) (F_o1_coder : Fld Z h0 o1 "java/lang/String" "coder" "B" (.int (0 : Int32))) (E_o1 : Exa Z h0 o1 "java/lang/String") (F_o0_count : Fld Z h0 o0 "java/lang/AbstractStringBuilder" "count" "I" (.int (0 : Int32))) (F_o0_value : Fld Z h0 o0 "java/lang/AbstractStringBuilder" "value" "[B" (.ref f_o0_value)) (V_f_o0_value : Arv Z h0 f_o0_value kv .byte (16 : Int32) [(.int (0 : Int32)), (.int (0 : Int32)), (.int (0 : Int32)), (.int (0 : Int32)), (.int (0 : Int32)), (.int (0 : Int32)), (.int (0 : Int32)), (.int (0 : Int32)), (.int (0 : Int32)), (.int (0 : Int32)), (.int (0 : Int32)), (.int (0 : Int32)), (.int (0 : Int32)), (.int (0 : Int32)), (.int (0 : Int32)), (.int (0 : Int32))] (.int (0 : Int32))) (F_o0_coder : Fld Z h0 o0 "java/lang/AbstractStringBuilder" "coder" "B" (.int (0 : Int32))) (E_o0 : Exa Z h0 o0 "java/lang/StringBuilder") (g_f_o0_value : n0 ≤ f_o0_value) (ne_f_o0_value_o0 : f_o0_value ≠ o0) (g_o0 : n0 ≤ o0) :
    MetFree l (⟨"java/lang/AbstractStringBuilder", "append", "(Ljava/lang/String;)Ljava/lang/AbstractStringBuilder;"⟩ : MethodName) (head1 (Jvm.Cond.code (⟨"java/lang/AbstractStringBuilder", "append", "(Ljava/lang/String;)Ljava/lang/AbstractStringBuilder;"⟩ : MethodName) jdk_68_method_22_code 3 (some (.object "java/lang/AbstractStringBuilder")) :: ws) ({ frames := 3, cells := 0, slots := 0, locals := 61 } : Room)) (fun a U => a = #[(.ref o0), (.ref o1)] ∧ Z.Warmed39 U.vm ∧ U.heap = h0) (fun _ _ _ _ _ => True) (fun _ U o U' => ∃ v L, o = .returned v ∧ Q6_12 Z o0 o1 f_o1_value ks w_COMPACT_STRINGS f_o0_value kv h0 n0 v U'.heap L ∧ FrameEnd U o U' L ({ frames := 3, cells := 0, slots := 0, locals := 61 } : Room).cells ({ frames := 3, cells := 0, slots := 0, locals := 61 } : Room).slots) := by
  refine MetFree.of_bodySF (plainFor_of_name pn_java_lang_AbstractStringBuilder) hisR ?_
  intro p e s m args below meth c s₁ Bd hml0 hP hK
  obtain ⟨rfl, hZ, hh⟩ := hP
  have hx := Bd.exec
  have hby := Bd.bytes
  have hml : c.maxLocals = 3 := hml0
  have hown : s.vm.findClass "java/lang/AbstractStringBuilder" = some m.cls := findClass_of_methodNamed Bd.named
  have hnm := (name_of_methodNamed Bd.named Bd.method).1
  have X0 : Stand p l e ({ frames := 3, cells := 0, slots := 0, locals := 61 } : Room) s m #[(.ref o0), (.ref o1)] below meth c s₁ [] 0 0 := Stand.of_body Bd
  have e0 : s₁.heap = h0 := by rw [← hh, Bd.state]; rfl
  have N0 := Fr.nil n0
  show Go p e below (fun o U' => ∃ v L, o = .returned v ∧ Q6_12 Z o0 o1 f_o1_value ks w_COMPACT_STRINGS f_o0_value kv h0 n0 v U'.heap L ∧ FrameEnd s o U' L ({ frames := 3, cells := 0, slots := 0, locals := 61 } : Room).cells ({ frames := 3, cells := 0, slots := 0, locals := 61 } : Room).slots) (s₁.setTop (entryFrame m #[(.ref o0), (.ref o1)] 3))
  refine Go.of (fun _ k => castTop (ef_6 m o0 o1) k) ?_
  show Go p e below _ (s₁.setTop (mkF m 0 #[.val (.ref o0), .val (.ref o1), .unset] []))
  refine Go.of (fun _ k => XS.aloadN X0.here hx rfl (hb hby d6_0) rfl rfl k) ?_
  refine Go.of (fun _ k => XS.ifnonnullYes X0.here hx rfl (pc0 := 1) (pc' := 9) rfl (hb hby d6_1) rfl (by decide) (by decide) k) ?_
  show Go p e below _ (s₁.setTop (mkF m 9 #[.val (.ref o0), .val (.ref o1), .unset] []))
  refine Go.of (fun _ k => XS.aloadN X0.here hx rfl (hb hby d6_9) rfl rfl k) ?_
  obtain ⟨cq1, kq1, q1a, q1b, q1c⟩ := isOf hZ e0 E_o1
  obtain ⟨_, _, ⟨T1, L1, k1, n1⟩, -, X1, ⟨Lc1, hQ1, l1, y1, z1⟩, st1⟩ := X0.virtualBack hx (y := own_y_String_length_4) (z := own_y_String_length_4) hown (mvT hZ (own_h hw 44 rfl)) (mvT hZ (own_h hw 45 rfl)) (notFace_of_selects (args := #[]) (mvT hZ (own_h hw 47 rfl))) (mvT hZ (own_h hw 47 rfl)) (mvT hZ (own_h hw 46 rfl)) (by decide) (backOf (W := 0) (rm7_12 l Z a0 hw [] o1 f_o1_value ks w_COMPACT_STRINGS h0 n0 Z0 F_o1_value V_f_o1_value S_COMPACT_STRINGS hc3_3_1 F_o1_coder E_o1) hZ (own_h hw 48 rfl) (own_h hw 22 rfl) (by decide) (by decide)) q1a q1c (g := (mkF m 10 #[.val (.ref o0), .val (.ref o1), .unset] [(.ref o1)])) rfl (by rw [hml]; rfl) (Steps.refl _) (argsL := []) (rest := []) (lenOf pd_4 rfl) rfl (Nat.le_of_eq rfl) (hb hby d6_10) (fun _ _ => ⟨rfl, e0, (by decide : 0 + 0 ≤ _), (by decide : 0 + 0 ≤ _)⟩)
  dsimp only [Pt.U, Pt.locs, Pt.cells, Pt.slots] at X1 l1 y1 z1 st1 hQ1
  subst l1 y1 z1
  obtain ⟨rfl, Nq1, q1_0⟩ := hQ1
  have N1 := Fr.app N0 Nq1
  refine Go.tr st1 ?_
  show Go p e below _ (T1.setTop (mkF m 13 #[.val (.ref o0), .val (.ref o1), .unset] [(.int (12 : Int32))]))
  refine Go.of (fun _ k => XS.istoreN X1.here hx rfl (hb hby d6_13) rfl (l' := #[.val (.ref o0), .val (.ref o1), .val (.int (12 : Int32))]) rfl k) ?_
  show Go p e below _ (T1.setTop (mkF m 14 #[.val (.ref o0), .val (.ref o1), .val (.int (12 : Int32))] []))
  refine Go.of (fun _ k => XS.aloadN X1.here hx rfl (hb hby d6_14) rfl rfl k) ?_
  refine Go.of (fun _ k => XS.aloadN X1.here hx rfl (hb hby d6_15) rfl rfl k) ?_
  obtain ⟨T2, X2, e2, st2⟩ := getF X1 hx hZ hown (host := "") (Or.inl (own_h hw 57 rfl)) Via.refl q1_0 F_o0_count (g := (mkF m 16 #[.val (.ref o0), .val (.ref o1), .val (.int (12 : Int32))] [(.ref o0), (.ref o0)])) rfl rfl (hb hby d6_16)
  refine Go.of st2 ?_
  show Go p e below _ (T2.setTop (mkF m 19 #[.val (.ref o0), .val (.ref o1), .val (.int (12 : Int32))] [(.int (0 : Int32)), (.ref o0)]))
  refine Go.of (fun _ k => XS.iloadN X2.here hx rfl (hb hby d6_19) rfl  k) ?_
  refine Go.of (fun _ k => XS.iadd X2.here hx rfl (hb hby d6_20) rfl k) ?_
  show Go p e below _ (T2.setTop (mkF m 21 #[.val (.ref o0), .val (.ref o1), .val (.int (12 : Int32))] [(.int (12 : Int32)), (.ref o0)]))
  obtain ⟨cq3, q3, q3'⟩ := E_o0.cell
  obtain ⟨_, _, ⟨T3, L3, k3, n3⟩, -, X3, ⟨Lc3, hQ3, l3, y3, z3⟩, st3⟩ := X2.privateBack hx (y := own_y_AbstractStringBuilder_ensureCapacityInternal_5) hown (mvT hZ (own_h hw 59 rfl)) (mvT hZ (own_h hw 60 rfl)) (own_selpriv (mvT hZ (own_h hw 62 rfl)) (Cond.privateMethod_at (mvP hZ (own_h hw 61 rfl) (args := #[]))) (mvT hZ (own_h hw 60 rfl)) (by decide)) (Cond.privateMethod_at (mvP hZ (own_h hw 61 rfl) (args := #[]))) (mvT hZ (own_h hw 63 rfl)) (by decide) (backOf (W := 0) (rm9_s12 l Z a0 hw [] o0 f_o0_value kv h0 n0 Z0 F_o0_value V_f_o0_value F_o0_coder) hZ (own_h hw 63 rfl) (own_h hw 16 rfl) (by decide) (by decide)) (g := (mkF m 21 #[.val (.ref o0), .val (.ref o1), .val (.int (12 : Int32))] [(.int (12 : Int32)), (.ref o0)])) rfl (by rw [hml]; rfl) (Steps.refl _) (a := o0) (by rw [e2]; exact q3) q3' (argsL := [(.int (12 : Int32))]) (rest := []) (lenOf pd_0 rfl) rfl (Nat.le_of_eq rfl) (hb hby d6_21) (fun _ _ => ⟨rfl, e2, (by decide : 0 + 0 ≤ _), (by decide : 0 + 0 ≤ _)⟩)
  dsimp only [Pt.U, Pt.locs, Pt.cells, Pt.slots] at X3 l3 y3 z3 st3 hQ3
  subst l3 y3 z3
  obtain ⟨rfl, Nq3, q3_0⟩ := hQ3
  have N3 := Fr.app N1 Nq3
  refine Go.tr st3 ?_
  show Go p e below _ (T3.setTop (mkF m 24 #[.val (.ref o0), .val (.ref o1), .val (.int (12 : Int32))] []))
  refine Go.of (fun _ k => XS.aloadN X3.here hx rfl (hb hby d6_24) rfl rfl k) ?_
  refine Go.of (fun _ k => XS.aloadN X3.here hx rfl (hb hby d6_25) rfl rfl k) ?_
  obtain ⟨T4, X4, e4, st4⟩ := getF X3 hx hZ hown (host := "") (Or.inl (own_h hw 57 rfl)) Via.refl q3_0 F_o0_count (g := (mkF m 26 #[.val (.ref o0), .val (.ref o1), .val (.int (12 : Int32))] [(.ref o0), (.ref o0)])) rfl rfl (hb hby d6_26)
  refine Go.of st4 ?_
  show Go p e below _ (T4.setTop (mkF m 29 #[.val (.ref o0), .val (.ref o1), .val (.int (12 : Int32))] [(.int (0 : Int32)), (.ref o0)]))
  refine Go.of (fun _ k => XS.aloadN X4.here hx rfl (hb hby d6_29) rfl rfl k) ?_
  obtain ⟨cq5, q5, q5'⟩ := E_o0.cell
  obtain ⟨_, _, ⟨T5, L5, k5, n5⟩, -, X5, ⟨Lc5, hQ5, l5, y5, z5⟩, st5⟩ := X4.privateBack hx (y := own_y_AbstractStringBuilder_putStringAt_6) hown (mvT hZ (own_h hw 64 rfl)) (mvT hZ (own_h hw 65 rfl)) (own_selpriv (mvT hZ (own_h hw 67 rfl)) (Cond.privateMethod_at (mvP hZ (own_h hw 66 rfl) (args := #[]))) (mvT hZ (own_h hw 65 rfl)) (by decide)) (Cond.privateMethod_at (mvP hZ (own_h hw 66 rfl) (args := #[]))) (mvT hZ (own_h hw 68 rfl)) (by decide) (backOf (W := 0) (rm10_12 l Z a0 hw [] o0 o1 w_COMPACT_STRINGS f_o0_value f_o1_value ks kv h0 n0 Z0 S_COMPACT_STRINGS hc3_3_1 F_o0_coder F_o1_coder E_o1 E_o0 F_o0_value F_o1_value V_f_o1_value V_f_o0_value g_f_o0_value) hZ (own_h hw 68 rfl) (own_h hw 16 rfl) (by decide) (by decide)) (g := (mkF m 30 #[.val (.ref o0), .val (.ref o1), .val (.int (12 : Int32))] [(.ref o1), (.int (0 : Int32)), (.ref o0)])) rfl (by rw [hml]; rfl) (Steps.refl _) (a := o0) (by rw [e4]; exact q5) q5' (argsL := [(.int (0 : Int32)), (.ref o1)]) (rest := []) (lenOf pd_5 rfl) rfl (Nat.le_of_eq rfl) (hb hby d6_30) (fun _ _ => ⟨rfl, e4, (by decide : 0 + 0 ≤ _), (by decide : 0 + 0 ≤ _)⟩)
  dsimp only [Pt.U, Pt.locs, Pt.cells, Pt.slots] at X5 l5 y5 z5 st5 hQ5
  subst l5 y5 z5
  obtain ⟨rfl, Nq5, q5_0, q5_1⟩ := hQ5
  have N5 := Fr.app N3 Nq5
  refine Go.tr st5 ?_
  have K5 : Keep h0 T5.heap [f_o0_value, o0] := ((Keep.refl h0 [f_o0_value, o0])).trans q5_0 (allS (Or.inl (List.mem_of_getElem? (i := 0) rfl)) all0)
  have Z5 : n0 ≤ T5.heap.size := Nat.le_trans Z0 q5_0.1
  show Go p e below _ (T5.setTop (mkF m 33 #[.val (.ref o0), .val (.ref o1), .val (.int (12 : Int32))] []))
  refine Go.of (fun _ k => XS.aloadN X5.here hx rfl (hb hby d6_33) rfl rfl k) ?_
  refine Go.of (fun _ k => XS.dup X5.here hx rfl (hb hby d6_34) rfl rfl k) ?_
  have c6 : Fld Z T5.heap o0 "java/lang/AbstractStringBuilder" "count" "I" (.int (0 : Int32)) := (F_o0_count.keep q5_0 (ninS (Ne.symm ne_f_o0_value_o0) nin0))
  obtain ⟨T7, X7, e7, st7⟩ := getF X5 hx hZ hown (host := "") (Or.inl (own_h hw 57 rfl)) Via.refl rfl c6 (g := (mkF m 35 #[.val (.ref o0), .val (.ref o1), .val (.int (12 : Int32))] [(.ref o0), (.ref o0)])) rfl rfl (hb hby d6_35)
  refine Go.of st7 ?_
  show Go p e below _ (T7.setTop (mkF m 38 #[.val (.ref o0), .val (.ref o1), .val (.int (12 : Int32))] [(.int (0 : Int32)), (.ref o0)]))
  refine Go.of (fun _ k => XS.iloadN X7.here hx rfl (hb hby d6_38) rfl  k) ?_
  refine Go.of (fun _ k => XS.iadd X7.here hx rfl (hb hby d6_39) rfl k) ?_
  show Go p e below _ (T7.setTop (mkF m 40 #[.val (.ref o0), .val (.ref o1), .val (.int (12 : Int32))] [(.int (12 : Int32)), (.ref o0)]))
  have c8 : Exa Z T5.heap o0 "java/lang/StringBuilder" := (E_o0.keep q5_0)
  obtain ⟨T9, h9, X9, e9, W9, st9⟩ := putF X7 hx hZ hown (host := "") (Or.inl (own_h hw 57 rfl)) Via.refl e7 c6 c8 (Or.inl (own_h hw 58 rfl)) (own_h hw 7 rfl) (ty := .int) (by decide) rfl rfl (g := (mkF m 40 #[.val (.ref o0), .val (.ref o1), .val (.int (12 : Int32))] [(.int (12 : Int32)), (.ref o0)])) rfl rfl (hb hby d6_40)
  refine Go.of st9 ?_
  have N9 := Fr.snoc X9 N5 g_o0
  have K9 : Keep h0 h9 [f_o0_value, o0] := (K5).wr W9 (Or.inl (List.mem_of_getElem? (i := 1) rfl))
  have Z9 : n0 ≤ h9.size := Nat.le_trans Z5 (Keep.of_wr W9).1
  have f10 : Fld Z h9 o0 "java/lang/AbstractStringBuilder" "count" "I" (.int (12 : Int32)) := Fld.same W9 c6
  show Go p e below _ (T9.setTop (mkF m 43 #[.val (.ref o0), .val (.ref o1), .val (.int (12 : Int32))] []))
  refine Go.of (fun _ k => XS.aloadN X9.here hx rfl (hb hby d6_43) rfl rfl k) ?_
  have c12 : Arv Z h9 f_o0_value kv .byte (16 : Int32) [(.int (72 : Int32)), (.int (84 : Int32)), (.int (84 : Int32)), (.int (80 : Int32)), (.int (32 : Int32)), (.int (115 : Int32)), (.int (116 : Int32)), (.int (97 : Int32)), (.int (116 : Int32)), (.int (117 : Int32)), (.int (115 : Int32)), (.int (32 : Int32)), (.int (0 : Int32)), (.int (0 : Int32)), (.int (0 : Int32)), (.int (0 : Int32))] (.int (0 : Int32)) := (q5_1.other W9 ne_f_o0_value_o0)
  have c13 : Exa Z h9 o0 "java/lang/StringBuilder" := (Exa.wr W9 c8)
  have c14 : Fld Z T5.heap o0 "java/lang/AbstractStringBuilder" "coder" "B" (.int (0 : Int32)) := (F_o0_coder.keep q5_0 (ninS (Ne.symm ne_f_o0_value_o0) nin0))
  have c15 : Fld Z h9 o0 "java/lang/AbstractStringBuilder" "coder" "B" (.int (0 : Int32)) := (Fld.other W9 c14 (Or.inr (slot_ne (Or.inl (own_h hw 27 rfl)) (Or.inl (own_h hw 58 rfl)) (by decide) (t := .byte) (t' := .int) (by decide) (by decide))))
  have c16 : Fld Z T5.heap o0 "java/lang/AbstractStringBuilder" "value" "[B" (.ref f_o0_value) := (F_o0_value.keep q5_0 (ninS (Ne.symm ne_f_o0_value_o0) nin0))
  have c17 : Fld Z h9 o0 "java/lang/AbstractStringBuilder" "value" "[B" (.ref f_o0_value) := (Fld.other W9 c16 (Or.inr (slot_ne (Or.inl (own_h hw 25 rfl)) (Or.inl (own_h hw 58 rfl)) (by decide) (t := (.array .byte)) (t' := .int) (by decide) (by decide))))
  obtain ⟨fs, hr, hrun, hended, hW, hsame⟩ := X9.leave (v := some (.ref o0)) (fun h => by rw [Bd.returns] at h; cases h)
  refine Go.mk _ _ ?_ hrun hended ⟨_, _, rfl, ?_, ⟨_, rfl⟩, hW, hsame.mono (by decide) (by decide)⟩
  · exact retOut X9 hx Bd.returns rfl (Or.inr (Or.inr (Or.inr (Or.inr ⟨rfl, rfl, rfl⟩)))) (hb hby d6_44) hr
  · show Q6_12 Z o0 o1 f_o1_value ks w_COMPACT_STRINGS f_o0_value kv h0 n0 _ T9.heap _
    rw [e9]
    exact ⟨rfl, N9, K9, c12, c13, c15, f10, c17⟩
def Q5_12 (Z : State) (o0 : Addr) (o1 : Addr) (f_o1_value : Addr) (ks : ClassId) (w_COMPACT_STRINGS : Int32) (f_o0_value : Addr) (kv : ClassId) (h0 : Heap) (n0 : Nat) (v : Option Value) (h : Heap) (L : List Loc) : Prop := v = some (.ref o0) ∧ Fr n0 L ∧ Keep h0 h [f_o0_value, o0] ∧ Arv Z h f_o0_value kv .byte (16 : Int32) [(.int (72 : Int32)), (.int (84 : Int32)), (.int (84 : Int32)), (.int (80 : Int32)), (.int (32 : Int32)), (.int (115 : Int32)), (.int (116 : Int32)), (.int (97 : Int32)), (.int (116 : Int32)), (.int (117 : Int32)), (.int (115 : Int32)), (.int (32 : Int32)), (.int (0 : Int32)), (.int (0 : Int32)), (.int (0 : Int32)), (.int (0 : Int32))] (.int (0 : Int32)) ∧ Exa Z h o0 "java/lang/StringBuilder" ∧ Fld Z h o0 "java/lang/AbstractStringBuilder" "coder" "B" (.int (0 : Int32)) ∧ Fld Z h o0 "java/lang/AbstractStringBuilder" "count" "I" (.int (12 : Int32)) ∧ Fld Z h o0 "java/lang/AbstractStringBuilder" "value" "[B" (.ref f_o0_value)
set_option maxRecDepth 65536 in
set_option maxHeartbeats 40000000 in
theorem rm5_12 (l : Launch) (Z : State) (a0 : Array Value) (hw : ∀ d ∈ tables_1, d.before a0 Z = true) (ws : List Jvm.Cond) (o0 : Addr) (o1 : Addr) (f_o1_value : Addr) (ks : ClassId) (w_COMPACT_STRINGS : Int32) (f_o0_value : Addr) (kv : ClassId) (h0 : Heap) (n0 : Nat) (Z0 : n0 ≤ h0.size) (F_o1_value : Fld Z h0 o1 "java/lang/String" "value" "[B" (.ref f_o1_value)) (V_f_o1_value : Arv Z h0 f_o1_value ks .byte (12 : Int32) [(.int (72 : Int32)), (.int (84 : Int32)), (.int (84 : Int32)), (.int (80 : Int32)), (.int (32 : Int32)), (.int (115 : Int32)), (.int (116 : Int32)), (.int (97 : Int32)), (.int (116 : Int32)), (.int (117 : Int32)), (.int (115 : Int32)), (.int (32 : Int32))] (.int (0 : Int32))) (S_COMPACT_STRINGS : Sta Z h0 "java/lang/String" "COMPACT_STRINGS" "Z" (.int w_COMPACT_STRINGS)) (hc3_3_1_1 : ¬ (w_COMPACT_STRINGS = (0 : Int32))) (F_o1_coder : Fld Z h0 o1 "java/lang/String" "coder" "B" (.int (0 : Int32))) (E_o1 : Exa Z h0 o1 "java/lang/String") (F_o0_count : Fld Z h0 o0 "java/lang/AbstractStringBuilder" "count" "I" (.int (0 : Int32))) (F_o0_value : Fld Z h0 o0 "java/lang/AbstractStringBuilder" "value" "[B" (.ref f_o0_value)) (V_f_o0_value : Arv Z h0 f_o0_value kv .byte (16 : Int32) [(.int (0 : Int32)), (.int (0 : Int32)), (.int (0 : Int32)), (.int (0 : Int32)), (.int (0 : Int32)), (.int (0 : Int32)), (.int (0 : Int32)), (.int (0 : Int32)), (.int (0 : Int32)), (.int (0 : Int32)), (.int (0 : Int32)), (.int (0 : Int32)), (.int (0 : Int32)), (.int (0 : Int32)), (.int (0 : Int32)), (.int (0 : Int32))] (.int (0 : Int32))) (F_o0_coder : Fld Z h0 o0 "java/lang/AbstractStringBuilder" "coder" "B" (.int (0 : Int32))) (E_o0 : Exa Z h0 o0 "java/lang/StringBuilder") (g_f_o0_value : n0 ≤ f_o0_value) (ne_f_o0_value_o0 : f_o0_value ≠ o0) (g_o0 : n0 ≤ o0) :
    MetFree l (⟨"java/lang/StringBuilder", "append", "(Ljava/lang/String;)Ljava/lang/StringBuilder;"⟩ : MethodName) (head1 (Jvm.Cond.code (⟨"java/lang/StringBuilder", "append", "(Ljava/lang/String;)Ljava/lang/StringBuilder;"⟩ : MethodName) jdk_67_method_7_code 2 (some (.object "java/lang/StringBuilder")) :: ws) ({ frames := 4, cells := 0, slots := 0, locals := 75 } : Room)) (fun a U => a = #[(.ref o0), (.ref o1)] ∧ Z.Warmed39 U.vm ∧ U.heap = h0) (fun _ _ _ _ _ => True) (fun _ U o U' => ∃ v L, o = .returned v ∧ Q5_12 Z o0 o1 f_o1_value ks w_COMPACT_STRINGS f_o0_value kv h0 n0 v U'.heap L ∧ FrameEnd U o U' L ({ frames := 4, cells := 0, slots := 0, locals := 75 } : Room).cells ({ frames := 4, cells := 0, slots := 0, locals := 75 } : Room).slots) := by
  refine MetFree.of_bodySF (plainFor_of_name pn_java_lang_StringBuilder) hisR ?_
  intro p e s m args below meth c s₁ Bd hml0 hP hK
  obtain ⟨rfl, hZ, hh⟩ := hP
  have hx := Bd.exec
  have hby := Bd.bytes
  have hml : c.maxLocals = 2 := hml0
  have hown : s.vm.findClass "java/lang/StringBuilder" = some m.cls := findClass_of_methodNamed Bd.named
  have hnm := (name_of_methodNamed Bd.named Bd.method).1
  have X0 : Stand p l e ({ frames := 4, cells := 0, slots := 0, locals := 75 } : Room) s m #[(.ref o0), (.ref o1)] below meth c s₁ [] 0 0 := Stand.of_body Bd
  have e0 : s₁.heap = h0 := by rw [← hh, Bd.state]; rfl
  have N0 := Fr.nil n0
  show Go p e below (fun o U' => ∃ v L, o = .returned v ∧ Q5_12 Z o0 o1 f_o1_value ks w_COMPACT_STRINGS f_o0_value kv h0 n0 v U'.heap L ∧ FrameEnd s o U' L ({ frames := 4, cells := 0, slots := 0, locals := 75 } : Room).cells ({ frames := 4, cells := 0, slots := 0, locals := 75 } : Room).slots) (s₁.setTop (entryFrame m #[(.ref o0), (.ref o1)] 2))
  refine Go.of (fun _ k => castTop (ef_5 m o0 o1) k) ?_
  show Go p e below _ (s₁.setTop (mkF m 0 #[.val (.ref o0), .val (.ref o1)] []))
  refine Go.of (fun _ k => XS.aloadN X0.here hx rfl (hb hby d5_0) rfl rfl k) ?_
  refine Go.of (fun _ k => XS.aloadN X0.here hx rfl (hb hby d5_1) rfl rfl k) ?_
  obtain ⟨_, _, ⟨T1, L1, k1, n1⟩, -, X1, ⟨Lc1, hQ1, l1, y1, z1⟩, st1⟩ := superBack X0 hx hZ (y := own_y_AbstractStringBuilder_append_7) hown (own_h hw 39 rfl) (own_same (y := own_y_AbstractStringBuilder_append_7) (own_h hw 62 rfl) rfl (own_h hw 40 rfl) (by decide)) (own_h hw 40 rfl) (own_h hw 41 rfl) (by decide) (backOf (W := 0) (rm6_12 l Z a0 hw [] o0 o1 f_o1_value ks w_COMPACT_STRINGS f_o0_value kv h0 n0 Z0 F_o1_value V_f_o1_value S_COMPACT_STRINGS hc3_3_1_1 F_o1_coder E_o1 F_o0_count F_o0_value V_f_o0_value F_o0_coder E_o0 g_f_o0_value ne_f_o0_value_o0 g_o0) hZ (own_h hw 43 rfl) (own_h hw 16 rfl) (by decide) (by decide)) e0 (Ins.self E_o0) (g := (mkF m 2 #[.val (.ref o0), .val (.ref o1)] [(.ref o1), (.ref o0)])) rfl (by rw [hml]; rfl) (own_h hw 43 rfl) (argsL := [(.ref o1)]) (rest := []) (lenOf pd_6 rfl) rfl (Nat.le_of_eq rfl) (hb hby d5_2) (fun _ _ => ⟨rfl, e0, (by decide : 0 + 0 ≤ _), (by decide : 0 + 0 ≤ _)⟩)
  dsimp only [Pt.U, Pt.locs, Pt.cells, Pt.slots] at X1 l1 y1 z1 st1 hQ1
  subst l1 y1 z1
  obtain ⟨rfl, Nq1, q1_0, q1_1, q1_2, q1_3, q1_4, q1_5⟩ := hQ1
  have N1 := Fr.app N0 Nq1
  refine Go.tr st1 ?_
  have K1 : Keep h0 T1.heap [f_o0_value, o0] := ((Keep.refl h0 [f_o0_value, o0])).trans q1_0 (allS (Or.inl (List.mem_of_getElem? (i := 0) rfl)) (allS (Or.inl (List.mem_of_getElem? (i := 1) rfl)) all0))
  have Z1 : n0 ≤ T1.heap.size := Nat.le_trans Z0 q1_0.1
  show Go p e below _ (T1.setTop (mkF m 5 #[.val (.ref o0), .val (.ref o1)] [(.ref o0)]))
  refine Go.of (fun _ k => XS.pop X1.here hx rfl (hb hby d5_5) rfl rfl k) ?_
  show Go p e below _ (T1.setTop (mkF m 6 #[.val (.ref o0), .val (.ref o1)] []))
  refine Go.of (fun _ k => XS.aloadN X1.here hx rfl (hb hby d5_6) rfl rfl k) ?_
  obtain ⟨fs, hr, hrun, hended, hW, hsame⟩ := X1.leave (v := some (.ref o0)) (fun h => by rw [Bd.returns] at h; cases h)
  refine Go.mk _ _ ?_ hrun hended ⟨_, _, rfl, ?_, ⟨_, rfl⟩, hW, hsame.mono (by decide) (by decide)⟩
  · exact retOut X1 hx Bd.returns rfl (Or.inr (Or.inr (Or.inr (Or.inr ⟨rfl, rfl, rfl⟩)))) (hb hby d5_7) hr
  · show Q5_12 Z o0 o1 f_o1_value ks w_COMPACT_STRINGS f_o0_value kv h0 n0 _ T1.heap _
    exact ⟨rfl, N1, K1, q1_1, q1_2, q1_3, q1_4, q1_5⟩
theorem own_in5 (x : Int32) : own_w 5 x ≤ (16 : Int32).toNatClampNeg := (own_wb 5 x).2
theorem own_in12a (x : Int32) (h : ¬ ((0 : Int32) < (own_sz 12 x - (16 : Int32)))) : own_w 12 x ≤ (16 : Int32).toNatClampNeg := by
  have e := own_szI (b := 12) (by omega) x
  have := own_wb 12 x
  rw [Int32.lt_iff_toInt_lt, Int32.toInt_sub, e, show (16 : Int32).toInt = 16 from rfl, show (0 : Int32).toInt = 0 from rfl, Int.bmod_eq_of_le (by omega) (by omega)] at h
  show _ ≤ 16; omega
theorem own_in12b (x : Int32) : own_w 12 x ≤ (34 : Int32).toNatClampNeg := Nat.le_trans (own_wb 12 x).2 (by decide)
theorem own_ng5 (x : Int32) : ¬ ((0 : Int32) < (own_sz 5 x - (16 : Int32))) := by
  have e := own_szI (b := 5) (by omega) x
  have := own_wb 5 x
  rw [Int32.lt_iff_toInt_lt, Int32.toInt_sub, e, show (16 : Int32).toInt = 16 from rfl, show (0 : Int32).toInt = 0 from rfl, Int.bmod_eq_of_le (by omega) (by omega)]
  omega
theorem own_gr12 (x : Int32) : (own_sz 12 x - (16 : Int32)) < (18 : Int32) := by
  have e := own_szI (b := 12) (by omega) x
  have := own_wb 12 x
  rw [Int32.lt_iff_toInt_lt, Int32.toInt_sub, e, show (16 : Int32).toInt = 16 from rfl, show (18 : Int32).toInt = 18 from rfl, Int.bmod_eq_of_le (by omega) (by omega)]
  omega
theorem own_zz {b : Nat} (hb : b ≤ 1000) (x z : Int32) (h : own_w b x ≤ z.toNatClampNeg) : ¬ (z < own_sz b x) := by
  rw [Int32.lt_iff_toInt_lt, own_szI hb x]
  simp only [Int32.toNatClampNeg] at h
  have := own_wb b x
  omega
theorem ef_9 (m : MethodId) (x0 : Addr) (x1 : Int32) : entryFrame m #[(.ref x0), (.int x1)] 3 = mkF m 0 #[.val (.ref x0), .val (.int x1), .unset] [] := by first | (simp [entryFrame, mkF, argsToLocals, Value.category]; done) | rfl
def Q9_n (Z : State) (o0 : Addr) (p1 : Int32) (vs0 : List Value) (f_o0_value : Addr) (kv : ClassId) (h0 : Heap) (n0 : Nat) (v : Option Value) (h : Heap) (L : List Loc) : Prop := v = none ∧ Fr n0 L ∧ h = h0
set_option maxRecDepth 65536 in
set_option maxHeartbeats 40000000 in
theorem rm9_n (l : Launch) (Z : State) (a0 : Array Value) (hw : ∀ d ∈ tables_1, d.before a0 Z = true) (ws : List Jvm.Cond) (o0 : Addr) (p1 : Int32) (vs0 : List Value) (f_o0_value : Addr) (kv : ClassId) (h0 : Heap) (n0 : Nat) (Z0 : n0 ≤ h0.size) (F_o0_value : Fld Z h0 o0 "java/lang/AbstractStringBuilder" "value" "[B" (.ref f_o0_value)) (V_f_o0_value : Arv Z h0 f_o0_value kv .byte (16 : Int32) vs0 (.int (0 : Int32))) (F_o0_coder : Fld Z h0 o0 "java/lang/AbstractStringBuilder" "coder" "B" (.int (0 : Int32))) (hc14 : ¬ ((0 : Int32) < (p1 - (16 : Int32)))) :
    MetFree l (⟨"java/lang/AbstractStringBuilder", "ensureCapacityInternal", "(I)V"⟩ : MethodName) (head1 (Jvm.Cond.code (⟨"java/lang/AbstractStringBuilder", "ensureCapacityInternal", "(I)V"⟩ : MethodName) jdk_68_method_9_code 3 none :: ws) ({ frames := 0, cells := 0, slots := 0, locals := 0 } : Room)) (fun a U => a = #[(.ref o0), (.int p1)] ∧ Z.Warmed39 U.vm ∧ U.heap = h0) (fun _ _ _ _ _ => True) (fun _ U o U' => ∃ v L, o = .returned v ∧ Q9_n Z o0 p1 vs0 f_o0_value kv h0 n0 v U'.heap L ∧ FrameEnd U o U' L ({ frames := 0, cells := 0, slots := 0, locals := 0 } : Room).cells ({ frames := 0, cells := 0, slots := 0, locals := 0 } : Room).slots) := by
  refine MetFree.of_bodySF (plainFor_of_name pn_java_lang_AbstractStringBuilder) hisR ?_
  intro p e s m args below meth c s₁ Bd hml0 hP hK
  obtain ⟨rfl, hZ, hh⟩ := hP
  have hx := Bd.exec
  have hby := Bd.bytes
  have hml : c.maxLocals = 3 := hml0
  have hown : s.vm.findClass "java/lang/AbstractStringBuilder" = some m.cls := findClass_of_methodNamed Bd.named
  have hnm := (name_of_methodNamed Bd.named Bd.method).1
  have X0 : Stand p l e ({ frames := 0, cells := 0, slots := 0, locals := 0 } : Room) s m #[(.ref o0), (.int p1)] below meth c s₁ [] 0 0 := Stand.of_body Bd
  have e0 : s₁.heap = h0 := by rw [← hh, Bd.state]; rfl
  have N0 := Fr.nil n0
  show Go p e below (fun o U' => ∃ v L, o = .returned v ∧ Q9_n Z o0 p1 vs0 f_o0_value kv h0 n0 v U'.heap L ∧ FrameEnd s o U' L ({ frames := 0, cells := 0, slots := 0, locals := 0 } : Room).cells ({ frames := 0, cells := 0, slots := 0, locals := 0 } : Room).slots) (s₁.setTop (entryFrame m #[(.ref o0), (.int p1)] 3))
  refine Go.of (fun _ k => castTop (ef_9 m o0 p1) k) ?_
  show Go p e below _ (s₁.setTop (mkF m 0 #[.val (.ref o0), .val (.int p1), .unset] []))
  refine Go.of (fun _ k => XS.aloadN X0.here hx rfl (hb hby d9_0) rfl rfl k) ?_
  obtain ⟨T1, X1, e1, st1⟩ := getF X0 hx hZ hown (host := "") (Or.inl (own_h hw 24 rfl)) Via.refl e0 F_o0_value (g := (mkF m 1 #[.val (.ref o0), .val (.int p1), .unset] [(.ref o0)])) rfl rfl (hb hby d9_1)
  refine Go.of st1 ?_
  show Go p e below _ (T1.setTop (mkF m 4 #[.val (.ref o0), .val (.int p1), .unset] [(.ref f_o0_value)]))
  obtain ⟨clt2, Art2, qt2, st2, nt2, Ht2, Gt2⟩ := id V_f_o0_value
  refine Go.of (fun _ k => X1.arraylength hx (by rw [e1]; exact Art2.1) (State.isArrayOf_alike hZ.alike Art2.2.1) (g := (mkF m 4 #[.val (.ref o0), .val (.int p1), .unset] [(.ref f_o0_value)])) rfl rfl (hb hby d9_4) _ k) ?_
  rw [len_of st2 nt2]
  show Go p e below _ (T1.setTop (mkF m 5 #[.val (.ref o0), .val (.int p1), .unset] [(.int (16 : Int32))]))
  refine Go.of (fun _ k => XS.aloadN X1.here hx rfl (hb hby d9_5) rfl rfl k) ?_
  obtain ⟨T3, X3, e3, st3⟩ := getF X1 hx hZ hown (host := "") (Or.inl (own_h hw 26 rfl)) Via.refl e1 F_o0_coder (g := (mkF m 6 #[.val (.ref o0), .val (.int p1), .unset] [(.ref o0), (.int (16 : Int32))])) rfl rfl (hb hby d9_6)
  refine Go.of st3 ?_
  show Go p e below _ (T3.setTop (mkF m 9 #[.val (.ref o0), .val (.int p1), .unset] [(.int (0 : Int32)), (.int (16 : Int32))]))
  refine Go.of (fun _ k => XS.ishr X3.here hx rfl (hb hby d9_9) rfl k) ?_
  show Go p e below _ (T3.setTop (mkF m 10 #[.val (.ref o0), .val (.int p1), .unset] [(.int (16 : Int32))]))
  refine Go.of (fun _ k => XS.istoreN X3.here hx rfl (hb hby d9_10) rfl (l' := #[.val (.ref o0), .val (.int p1), .val (.int (16 : Int32))]) rfl k) ?_
  show Go p e below _ (T3.setTop (mkF m 11 #[.val (.ref o0), .val (.int p1), .val (.int (16 : Int32))] []))
  refine Go.of (fun _ k => XS.iloadN X3.here hx rfl (hb hby d9_11) rfl  k) ?_
  refine Go.of (fun _ k => XS.iloadN X3.here hx rfl (hb hby d9_12) rfl  k) ?_
  refine Go.of (fun _ k => XS.isub X3.here hx rfl (hb hby d9_13) rfl k) ?_
  show Go p e below _ (T3.setTop (mkF m 14 #[.val (.ref o0), .val (.int p1), .val (.int (16 : Int32))] [(.int (p1 - (16 : Int32)))]))
  refine Go.of (fun _ k => XS.ifYes X3.here hx rfl (pc0 := 14) (pc' := 38) rfl (hb hby d9_14) rfl ((if0 _ _).trans (flt hc14).2.2.2) (by decide) (by decide) k) ?_
  show Go p e below _ (T3.setTop (mkF m 38 #[.val (.ref o0), .val (.int p1), .val (.int (16 : Int32))] []))
  obtain ⟨fs, hr, hrun, hended, hW, hsame⟩ := X3.leave (v := none) (fun _ => rfl)
  refine Go.mk _ _ ?_ hrun hended ⟨_, _, rfl, ?_, ⟨_, rfl⟩, hW, hsame.mono (by decide) (by decide)⟩
  · exact X3.returnOut hx Bd.returns (hb hby d9_38) hr
  · show Q9_n Z o0 p1 vs0 f_o0_value kv h0 n0 _ T3.heap _
    rw [e3]
    exact ⟨rfl, N0, rfl⟩
theorem d46_0 : decode jdk_29_method_65_code 0 = .ok (.iload_n 0, 1) := by decide +kernel
theorem d46_1 : decode jdk_29_method_65_code 1 = .ok (.iload_n 1, 1) := by decide +kernel
theorem d46_2 : decode jdk_29_method_65_code 2 = .ok (.if_icmp .lt 7, 3) := by decide +kernel
theorem d46_9 : decode jdk_29_method_65_code 9 = .ok (.iload_n 1, 1) := by decide +kernel
theorem d46_10 : decode jdk_29_method_65_code 10 = .ok (.ireturn, 1) := by decide +kernel
theorem ef_46 (m : MethodId) (x0 : Int32) (x1 : Int32) : entryFrame m #[(.int x0), (.int x1)] 2 = mkF m 0 #[.val (.int x0), .val (.int x1)] [] := by first | (simp [entryFrame, mkF, argsToLocals, Value.category]; done) | rfl
def Q46 (Z : State) (p0 : Int32) (p1 : Int32) (h0 : Heap) (n0 : Nat) (v : Option Value) (h : Heap) (L : List Loc) : Prop := v = some (.int p1) ∧ Fr n0 L ∧ h = h0
set_option maxRecDepth 65536 in
set_option maxHeartbeats 40000000 in
theorem rm46 (l : Launch) (Z : State) (a0 : Array Value) (hw : ∀ d ∈ tables_1, d.before a0 Z = true) (ws : List Jvm.Cond) (p0 : Int32) (p1 : Int32) (h0 : Heap) (n0 : Nat) (Z0 : n0 ≤ h0.size) (hc2 : p0 < p1) :
    MetFree l (⟨"java/lang/Math", "max", "(II)I"⟩ : MethodName) (head1 (Jvm.Cond.code (⟨"java/lang/Math", "max", "(II)I"⟩ : MethodName) jdk_29_method_65_code 2 (some .int) :: ws) ({ frames := 0, cells := 0, slots := 0, locals := 0 } : Room)) (fun a U => a = #[(.int p0), (.int p1)] ∧ Z.Warmed39 U.vm ∧ U.heap = h0) (fun _ _ _ _ _ => True) (fun _ U o U' => ∃ v L, o = .returned v ∧ Q46 Z p0 p1 h0 n0 v U'.heap L ∧ FrameEnd U o U' L ({ frames := 0, cells := 0, slots := 0, locals := 0 } : Room).cells ({ frames := 0, cells := 0, slots := 0, locals := 0 } : Room).slots) := by
  refine MetFree.of_bodySF (Jvm.Free.JP.mathPlain rfl (by decide +kernel)) hisR ?_
  intro p e s m args below meth c s₁ Bd hml0 hP hK
  obtain ⟨rfl, hZ, hh⟩ := hP
  have hx := Bd.exec
  have hby := Bd.bytes
  have hml : c.maxLocals = 2 := hml0
  have hown : s.vm.findClass "java/lang/Math" = some m.cls := findClass_of_methodNamed Bd.named
  have hnm := (name_of_methodNamed Bd.named Bd.method).1
  have X0 : Stand p l e ({ frames := 0, cells := 0, slots := 0, locals := 0 } : Room) s m #[(.int p0), (.int p1)] below meth c s₁ [] 0 0 := Stand.of_body Bd
  have e0 : s₁.heap = h0 := by rw [← hh, Bd.state]; rfl
  have N0 := Fr.nil n0
  show Go p e below (fun o U' => ∃ v L, o = .returned v ∧ Q46 Z p0 p1 h0 n0 v U'.heap L ∧ FrameEnd s o U' L ({ frames := 0, cells := 0, slots := 0, locals := 0 } : Room).cells ({ frames := 0, cells := 0, slots := 0, locals := 0 } : Room).slots) (s₁.setTop (entryFrame m #[(.int p0), (.int p1)] 2))
  refine Go.of (fun _ k => castTop (ef_46 m p0 p1) k) ?_
  show Go p e below _ (s₁.setTop (mkF m 0 #[.val (.int p0), .val (.int p1)] []))
  refine Go.of (fun _ k => XS.iloadN X0.here hx rfl (hb hby d46_0) rfl  k) ?_
  refine Go.of (fun _ k => XS.iloadN X0.here hx rfl (hb hby d46_1) rfl  k) ?_
  refine Go.of (fun _ k => XS.icmpYes X0.here hx rfl (pc0 := 2) (pc' := 9) rfl (hb hby d46_2) rfl (tlt hc2).1 (by decide) (by decide) k) ?_
  show Go p e below _ (s₁.setTop (mkF m 9 #[.val (.int p0), .val (.int p1)] []))
  refine Go.of (fun _ k => XS.iloadN X0.here hx rfl (hb hby d46_9) rfl  k) ?_
  obtain ⟨fs, hr, hrun, hended, hW, hsame⟩ := X0.leave (v := some (.int p1)) (fun h => by rw [Bd.returns] at h; cases h)
  refine Go.mk _ _ ?_ hrun hended ⟨_, _, rfl, ?_, ⟨_, rfl⟩, hW, hsame.mono (by decide) (by decide)⟩
  · exact retI X0 hx Bd.returns (hb hby d46_10) hr
  · show Q46 Z p0 p1 h0 n0 _ s₁.heap _
    rw [e0]
    exact ⟨rfl, N0, rfl⟩
theorem d27_0 : decode jdk_29_method_69_code 0 = .ok (.iload_n 0, 1) := by decide +kernel
theorem d27_1 : decode jdk_29_method_69_code 1 = .ok (.iload_n 1, 1) := by decide +kernel
theorem d27_2 : decode jdk_29_method_69_code 2 = .ok (.if_icmp .gt 7, 3) := by decide +kernel
theorem d27_5 : decode jdk_29_method_69_code 5 = .ok (.iload_n 0, 1) := by decide +kernel
theorem d27_6 : decode jdk_29_method_69_code 6 = .ok (.goto 4, 3) := by decide +kernel
theorem d27_10 : decode jdk_29_method_69_code 10 = .ok (.ireturn, 1) := by decide +kernel
theorem ef_27 (m : MethodId) (x0 : Int32) (x1 : Int32) : entryFrame m #[(.int x0), (.int x1)] 2 = mkF m 0 #[.val (.int x0), .val (.int x1)] [] := by first | (simp [entryFrame, mkF, argsToLocals, Value.category]; done) | rfl
def Q27_0 (Z : State) (p0 : Int32) (p1 : Int32) (h0 : Heap) (n0 : Nat) (v : Option Value) (h : Heap) (L : List Loc) : Prop := v = some (.int p0) ∧ Fr n0 L ∧ h = h0
set_option maxRecDepth 65536 in
set_option maxHeartbeats 40000000 in
theorem rm27_0 (l : Launch) (Z : State) (a0 : Array Value) (hw : ∀ d ∈ tables_1, d.before a0 Z = true) (ws : List Jvm.Cond) (p0 : Int32) (p1 : Int32) (h0 : Heap) (n0 : Nat) (Z0 : n0 ≤ h0.size) (hc2 : ¬ (p1 < p0)) :
    MetFree l (⟨"java/lang/Math", "min", "(II)I"⟩ : MethodName) (head1 (Jvm.Cond.code (⟨"java/lang/Math", "min", "(II)I"⟩ : MethodName) jdk_29_method_69_code 2 (some .int) :: ws) ({ frames := 0, cells := 0, slots := 0, locals := 0 } : Room)) (fun a U => a = #[(.int p0), (.int p1)] ∧ Z.Warmed39 U.vm ∧ U.heap = h0) (fun _ _ _ _ _ => True) (fun _ U o U' => ∃ v L, o = .returned v ∧ Q27_0 Z p0 p1 h0 n0 v U'.heap L ∧ FrameEnd U o U' L ({ frames := 0, cells := 0, slots := 0, locals := 0 } : Room).cells ({ frames := 0, cells := 0, slots := 0, locals := 0 } : Room).slots) := by
  refine MetFree.of_bodySF (Jvm.Free.JP.mathPlain rfl (by decide +kernel)) hisR ?_
  intro p e s m args below meth c s₁ Bd hml0 hP hK
  obtain ⟨rfl, hZ, hh⟩ := hP
  have hx := Bd.exec
  have hby := Bd.bytes
  have hml : c.maxLocals = 2 := hml0
  have hown : s.vm.findClass "java/lang/Math" = some m.cls := findClass_of_methodNamed Bd.named
  have hnm := (name_of_methodNamed Bd.named Bd.method).1
  have X0 : Stand p l e ({ frames := 0, cells := 0, slots := 0, locals := 0 } : Room) s m #[(.int p0), (.int p1)] below meth c s₁ [] 0 0 := Stand.of_body Bd
  have e0 : s₁.heap = h0 := by rw [← hh, Bd.state]; rfl
  have N0 := Fr.nil n0
  show Go p e below (fun o U' => ∃ v L, o = .returned v ∧ Q27_0 Z p0 p1 h0 n0 v U'.heap L ∧ FrameEnd s o U' L ({ frames := 0, cells := 0, slots := 0, locals := 0 } : Room).cells ({ frames := 0, cells := 0, slots := 0, locals := 0 } : Room).slots) (s₁.setTop (entryFrame m #[(.int p0), (.int p1)] 2))
  refine Go.of (fun _ k => castTop (ef_27 m p0 p1) k) ?_
  show Go p e below _ (s₁.setTop (mkF m 0 #[.val (.int p0), .val (.int p1)] []))
  refine Go.of (fun _ k => XS.iloadN X0.here hx rfl (hb hby d27_0) rfl  k) ?_
  refine Go.of (fun _ k => XS.iloadN X0.here hx rfl (hb hby d27_1) rfl  k) ?_
  refine Go.of (fun _ k => XS.icmpNo X0.here hx rfl (hb hby d27_2) rfl (flt hc2).2.2.1 k) ?_
  show Go p e below _ (s₁.setTop (mkF m 5 #[.val (.int p0), .val (.int p1)] []))
  refine Go.of (fun _ k => XS.iloadN X0.here hx rfl (hb hby d27_5) rfl  k) ?_
  refine Go.of (fun _ k => XS.goto X0.here hx rfl (pc0 := 6) (pc' := 10) rfl (hb hby d27_6) (by decide) (by decide) k) ?_
  show Go p e below _ (s₁.setTop (mkF m 10 #[.val (.int p0), .val (.int p1)] [(.int p0)]))
  obtain ⟨fs, hr, hrun, hended, hW, hsame⟩ := X0.leave (v := some (.int p0)) (fun h => by rw [Bd.returns] at h; cases h)
  refine Go.mk _ _ ?_ hrun hended ⟨_, _, rfl, ?_, ⟨_, rfl⟩, hW, hsame.mono (by decide) (by decide)⟩
  · exact retI X0 hx Bd.returns (hb hby d27_10) hr
  · show Q27_0 Z p0 p1 h0 n0 _ s₁.heap _
    rw [e0]
    exact ⟨rfl, N0, rfl⟩
theorem d27_9 : decode jdk_29_method_69_code 9 = .ok (.iload_n 1, 1) := by decide +kernel
def Q27_1 (Z : State) (p0 : Int32) (p1 : Int32) (h0 : Heap) (n0 : Nat) (v : Option Value) (h : Heap) (L : List Loc) : Prop := v = some (.int p1) ∧ Fr n0 L ∧ h = h0
set_option maxRecDepth 65536 in
set_option maxHeartbeats 40000000 in
theorem rm27_1 (l : Launch) (Z : State) (a0 : Array Value) (hw : ∀ d ∈ tables_1, d.before a0 Z = true) (ws : List Jvm.Cond) (p0 : Int32) (p1 : Int32) (h0 : Heap) (n0 : Nat) (Z0 : n0 ≤ h0.size) (hc2 : p1 < p0) :
    MetFree l (⟨"java/lang/Math", "min", "(II)I"⟩ : MethodName) (head1 (Jvm.Cond.code (⟨"java/lang/Math", "min", "(II)I"⟩ : MethodName) jdk_29_method_69_code 2 (some .int) :: ws) ({ frames := 0, cells := 0, slots := 0, locals := 0 } : Room)) (fun a U => a = #[(.int p0), (.int p1)] ∧ Z.Warmed39 U.vm ∧ U.heap = h0) (fun _ _ _ _ _ => True) (fun _ U o U' => ∃ v L, o = .returned v ∧ Q27_1 Z p0 p1 h0 n0 v U'.heap L ∧ FrameEnd U o U' L ({ frames := 0, cells := 0, slots := 0, locals := 0 } : Room).cells ({ frames := 0, cells := 0, slots := 0, locals := 0 } : Room).slots) := by
  refine MetFree.of_bodySF (Jvm.Free.JP.mathPlain rfl (by decide +kernel)) hisR ?_
  intro p e s m args below meth c s₁ Bd hml0 hP hK
  obtain ⟨rfl, hZ, hh⟩ := hP
  have hx := Bd.exec
  have hby := Bd.bytes
  have hml : c.maxLocals = 2 := hml0
  have hown : s.vm.findClass "java/lang/Math" = some m.cls := findClass_of_methodNamed Bd.named
  have hnm := (name_of_methodNamed Bd.named Bd.method).1
  have X0 : Stand p l e ({ frames := 0, cells := 0, slots := 0, locals := 0 } : Room) s m #[(.int p0), (.int p1)] below meth c s₁ [] 0 0 := Stand.of_body Bd
  have e0 : s₁.heap = h0 := by rw [← hh, Bd.state]; rfl
  have N0 := Fr.nil n0
  show Go p e below (fun o U' => ∃ v L, o = .returned v ∧ Q27_1 Z p0 p1 h0 n0 v U'.heap L ∧ FrameEnd s o U' L ({ frames := 0, cells := 0, slots := 0, locals := 0 } : Room).cells ({ frames := 0, cells := 0, slots := 0, locals := 0 } : Room).slots) (s₁.setTop (entryFrame m #[(.int p0), (.int p1)] 2))
  refine Go.of (fun _ k => castTop (ef_27 m p0 p1) k) ?_
  show Go p e below _ (s₁.setTop (mkF m 0 #[.val (.int p0), .val (.int p1)] []))
  refine Go.of (fun _ k => XS.iloadN X0.here hx rfl (hb hby d27_0) rfl  k) ?_
  refine Go.of (fun _ k => XS.iloadN X0.here hx rfl (hb hby d27_1) rfl  k) ?_
  refine Go.of (fun _ k => XS.icmpYes X0.here hx rfl (pc0 := 2) (pc' := 9) rfl (hb hby d27_2) rfl (tlt hc2).2.2.1 (by decide) (by decide) k) ?_
  show Go p e below _ (s₁.setTop (mkF m 9 #[.val (.int p0), .val (.int p1)] []))
  refine Go.of (fun _ k => XS.iloadN X0.here hx rfl (hb hby d27_9) rfl  k) ?_
  obtain ⟨fs, hr, hrun, hended, hW, hsame⟩ := X0.leave (v := some (.int p1)) (fun h => by rw [Bd.returns] at h; cases h)
  refine Go.mk _ _ ?_ hrun hended ⟨_, _, rfl, ?_, ⟨_, rfl⟩, hW, hsame.mono (by decide) (by decide)⟩
  · exact retI X0 hx Bd.returns (hb hby d27_10) hr
  · show Q27_1 Z p0 p1 h0 n0 _ s₁.heap _
    rw [e0]
    exact ⟨rfl, N0, rfl⟩
theorem d45_0 : decode jdk_48_method_27_code 0 = .ok (.iload_n 0, 1) := by decide +kernel
theorem d45_1 : decode jdk_48_method_27_code 1 = .ok (.iload_n 1, 1) := by decide +kernel
theorem d45_2 : decode jdk_48_method_27_code 2 = .ok (.iload_n 2, 1) := by decide +kernel
theorem d45_3 : decode jdk_48_method_27_code 3 = .ok (.invokestatic 194, 3) := by decide +kernel
theorem pd_7 : parseMethodDescriptor "(II)I" = some ⟨[.int, .int], some .int⟩ := by decide +kernel
abbrev own_y_Math_max_8 : MethodName := ⟨"java/lang/Math", "max", "(II)I"⟩
theorem d45_6 : decode jdk_48_method_27_code 6 = .ok (.iadd, 1) := by decide +kernel
theorem d45_7 : decode jdk_48_method_27_code 7 = .ok (.istore_n 3, 1) := by decide +kernel
theorem d45_8 : decode jdk_48_method_27_code 8 = .ok (.iconst 0, 1) := by decide +kernel
theorem d45_9 : decode jdk_48_method_27_code 9 = .ok (.iload_n 3, 1) := by decide +kernel
theorem d45_10 : decode jdk_48_method_27_code 10 = .ok (.if_icmp .ge 11, 3) := by decide +kernel
theorem d45_13 : decode jdk_48_method_27_code 13 = .ok (.iload_n 3, 1) := by decide +kernel
theorem d45_14 : decode jdk_48_method_27_code 14 = .ok (.ldc 200, 2) := by decide +kernel
theorem d45_16 : decode jdk_48_method_27_code 16 = .ok (.if_icmp .gt 5, 3) := by decide +kernel
theorem d45_19 : decode jdk_48_method_27_code 19 = .ok (.iload_n 3, 1) := by decide +kernel
theorem d45_20 : decode jdk_48_method_27_code 20 = .ok (.ireturn, 1) := by decide +kernel
theorem pn_jdk_internal_util_ArraysSupport : plainName "jdk/internal/util/ArraysSupport" = true := by first | (simp [plainName, overriddenIn]; done) | decide +kernel
theorem ef_45l1_16l3_18 (m : MethodId) (x1 : Int32) : entryFrame m #[(.int (16 : Int32)), (.int x1), (.int (18 : Int32))] 4 = mkF m 0 #[.val (.int (16 : Int32)), .val (.int x1), .val (.int (18 : Int32)), .unset] [] := by first | (simp [entryFrame, mkF, argsToLocals, Value.category]; done) | rfl
def Q45 (Z : State) (p1 : Int32) (h0 : Heap) (n0 : Nat) (v : Option Value) (h : Heap) (L : List Loc) : Prop := v = some (.int (34 : Int32)) ∧ Fr n0 L ∧ h = h0
set_option maxRecDepth 65536 in
set_option maxHeartbeats 40000000 in
theorem rm45 (l : Launch) (Z : State) (a0 : Array Value) (hw : ∀ d ∈ tables_1, d.before a0 Z = true) (ws : List Jvm.Cond) (p1 : Int32) (h0 : Heap) (n0 : Nat) (Z0 : n0 ≤ h0.size) (hc2_1 : p1 < (18 : Int32)) :
    MetFree l (⟨"jdk/internal/util/ArraysSupport", "newLength", "(III)I"⟩ : MethodName) (head1 (Jvm.Cond.code (⟨"jdk/internal/util/ArraysSupport", "newLength", "(III)I"⟩ : MethodName) jdk_48_method_27_code 4 (some .int) :: ws) ({ frames := 1, cells := 0, slots := 0, locals := 14 } : Room)) (fun a U => a = #[(.int (16 : Int32)), (.int p1), (.int (18 : Int32))] ∧ Z.Warmed39 U.vm ∧ U.heap = h0) (fun _ _ _ _ _ => True) (fun _ U o U' => ∃ v L, o = .returned v ∧ Q45 Z p1 h0 n0 v U'.heap L ∧ FrameEnd U o U' L ({ frames := 1, cells := 0, slots := 0, locals := 14 } : Room).cells ({ frames := 1, cells := 0, slots := 0, locals := 14 } : Room).slots) := by
  refine MetFree.of_bodySF (plainFor_of_name pn_jdk_internal_util_ArraysSupport) hisR ?_
  intro p e s m args below meth c s₁ Bd hml0 hP hK
  obtain ⟨rfl, hZ, hh⟩ := hP
  have hx := Bd.exec
  have hby := Bd.bytes
  have hml : c.maxLocals = 4 := hml0
  have hown : s.vm.findClass "jdk/internal/util/ArraysSupport" = some m.cls := findClass_of_methodNamed Bd.named
  have hnm := (name_of_methodNamed Bd.named Bd.method).1
  have X0 : Stand p l e ({ frames := 1, cells := 0, slots := 0, locals := 14 } : Room) s m #[(.int (16 : Int32)), (.int p1), (.int (18 : Int32))] below meth c s₁ [] 0 0 := Stand.of_body Bd
  have e0 : s₁.heap = h0 := by rw [← hh, Bd.state]; rfl
  have N0 := Fr.nil n0
  show Go p e below (fun o U' => ∃ v L, o = .returned v ∧ Q45 Z p1 h0 n0 v U'.heap L ∧ FrameEnd s o U' L ({ frames := 1, cells := 0, slots := 0, locals := 14 } : Room).cells ({ frames := 1, cells := 0, slots := 0, locals := 14 } : Room).slots) (s₁.setTop (entryFrame m #[(.int (16 : Int32)), (.int p1), (.int (18 : Int32))] 4))
  refine Go.of (fun _ k => castTop (ef_45l1_16l3_18 m p1) k) ?_
  show Go p e below _ (s₁.setTop (mkF m 0 #[.val (.int (16 : Int32)), .val (.int p1), .val (.int (18 : Int32)), .unset] []))
  refine Go.of (fun _ k => XS.iloadN X0.here hx rfl (hb hby d45_0) rfl  k) ?_
  refine Go.of (fun _ k => XS.iloadN X0.here hx rfl (hb hby d45_1) rfl  k) ?_
  refine Go.of (fun _ k => XS.iloadN X0.here hx rfl (hb hby d45_2) rfl  k) ?_
  obtain ⟨_, _, ⟨T1, L1, k1, n1⟩, -, X1, ⟨Lc1, hQ1, l1, y1, z1⟩, st1⟩ := Jvm.LawKit.callS X0 hx (y := own_y_Math_max_8) hown (mvT hZ (own_h hw 267 rfl)) (mvT hZ (own_h hw 268 rfl)) (mvT hZ (own_h hw 146 rfl)) (mvT hZ (own_h hw 269 rfl)) (by decide) (backOf (W := 1) (rm46 l Z a0 hw [] p1 (18 : Int32) h0 n0 Z0 hc2_1) hZ (own_h hw 269 rfl) (own_h hw 146 rfl) (by decide) (by decide)) (g := (mkF m 3 #[.val (.int (16 : Int32)), .val (.int p1), .val (.int (18 : Int32)), .unset] [(.int (18 : Int32)), (.int p1), (.int (16 : Int32))])) rfl (by rw [hml]; rfl) (argsL := [(.int p1), (.int (18 : Int32))]) (rest := [(.int (16 : Int32))]) (lenOf pd_7 rfl) rfl (Nat.le_of_eq rfl) (hb hby d45_3) (fun _ _ => ⟨rfl, e0, (by decide : 0 + 0 ≤ _), (by decide : 0 + 0 ≤ _)⟩)
  dsimp only [Pt.U, Pt.locs, Pt.cells, Pt.slots] at X1 l1 y1 z1 st1 hQ1
  subst l1 y1 z1
  obtain ⟨rfl, Nq1, q1_0⟩ := hQ1
  have N1 := Fr.app N0 Nq1
  refine Go.of st1 ?_
  show Go p e below _ (T1.setTop (mkF m 6 #[.val (.int (16 : Int32)), .val (.int p1), .val (.int (18 : Int32)), .unset] [(.int (18 : Int32)), (.int (16 : Int32))]))
  refine Go.of (fun _ k => XS.iadd X1.here hx rfl (hb hby d45_6) rfl k) ?_
  show Go p e below _ (T1.setTop (mkF m 7 #[.val (.int (16 : Int32)), .val (.int p1), .val (.int (18 : Int32)), .unset] [(.int (34 : Int32))]))
  refine Go.of (fun _ k => XS.istoreN X1.here hx rfl (hb hby d45_7) rfl (l' := #[.val (.int (16 : Int32)), .val (.int p1), .val (.int (18 : Int32)), .val (.int (34 : Int32))]) rfl k) ?_
  show Go p e below _ (T1.setTop (mkF m 8 #[.val (.int (16 : Int32)), .val (.int p1), .val (.int (18 : Int32)), .val (.int (34 : Int32))] []))
  refine Go.of (fun _ k => XS.iconst X1.here hx rfl (hb hby d45_8) k) ?_
  refine Go.of (fun _ k => XS.iloadN X1.here hx rfl (hb hby d45_9) rfl  k) ?_
  refine Go.of (fun _ k => XS.icmpNo X1.here hx rfl (hb hby d45_10) rfl (tlt (by decide : (0 : Int32) < (34 : Int32))).2.1 k) ?_
  show Go p e below _ (T1.setTop (mkF m 13 #[.val (.int (16 : Int32)), .val (.int p1), .val (.int (18 : Int32)), .val (.int (34 : Int32))] []))
  refine Go.of (fun _ k => XS.iloadN X1.here hx rfl (hb hby d45_13) rfl  k) ?_
  refine Go.of (fun _ k => X1.ldcInt hx hown (mvT hZ (own_h hw 270 rfl)) (g := (mkF m 14 #[.val (.int (16 : Int32)), .val (.int p1), .val (.int (18 : Int32)), .val (.int (34 : Int32))] [(.int (34 : Int32))])) rfl (hb hby d45_14) _ k) ?_
  show Go p e below _ (T1.setTop (mkF m 16 #[.val (.int (16 : Int32)), .val (.int p1), .val (.int (18 : Int32)), .val (.int (34 : Int32))] [(.int (2147483639 : Int32)), (.int (34 : Int32))]))
  refine Go.of (fun _ k => XS.icmpNo X1.here hx rfl (hb hby d45_16) rfl (flt (by decide : ¬ ((2147483639 : Int32) < (34 : Int32)))).2.2.1 k) ?_
  show Go p e below _ (T1.setTop (mkF m 19 #[.val (.int (16 : Int32)), .val (.int p1), .val (.int (18 : Int32)), .val (.int (34 : Int32))] []))
  refine Go.of (fun _ k => XS.iloadN X1.here hx rfl (hb hby d45_19) rfl  k) ?_
  obtain ⟨fs, hr, hrun, hended, hW, hsame⟩ := X1.leave (v := some (.int (34 : Int32))) (fun h => by rw [Bd.returns] at h; cases h)
  refine Go.mk _ _ ?_ hrun hended ⟨_, _, rfl, ?_, ⟨_, rfl⟩, hW, hsame.mono (by decide) (by decide)⟩
  · exact retI X1 hx Bd.returns (hb hby d45_20) hr
  · show Q45 Z p1 h0 n0 _ T1.heap _
    rw [q1_0]
    exact ⟨rfl, N1, rfl⟩
theorem d44_0 : decode jdk_68_method_10_code 0 = .ok (.aload_n 0, 1) := by decide +kernel
theorem d44_1 : decode jdk_68_method_10_code 1 = .ok (.getfield 15, 3) := by decide +kernel
theorem d44_4 : decode jdk_68_method_10_code 4 = .ok (.arraylength, 1) := by decide +kernel
theorem d44_5 : decode jdk_68_method_10_code 5 = .ok (.istore_n 2, 1) := by decide +kernel
theorem d44_6 : decode jdk_68_method_10_code 6 = .ok (.iload_n 1, 1) := by decide +kernel
theorem d44_7 : decode jdk_68_method_10_code 7 = .ok (.aload_n 0, 1) := by decide +kernel
theorem d44_8 : decode jdk_68_method_10_code 8 = .ok (.getfield 22, 3) := by decide +kernel
theorem d44_11 : decode jdk_68_method_10_code 11 = .ok (.ishl, 1) := by decide +kernel
theorem d44_12 : decode jdk_68_method_10_code 12 = .ok (.istore_n 3, 1) := by decide +kernel
theorem d44_13 : decode jdk_68_method_10_code 13 = .ok (.iload_n 3, 1) := by decide +kernel
theorem d44_14 : decode jdk_68_method_10_code 14 = .ok (.iload_n 2, 1) := by decide +kernel
theorem d44_15 : decode jdk_68_method_10_code 15 = .ok (.isub, 1) := by decide +kernel
theorem d44_16 : decode jdk_68_method_10_code 16 = .ok (.istore 4, 2) := by decide +kernel
theorem d44_18 : decode jdk_68_method_10_code 18 = .ok (.iload_n 2, 1) := by decide +kernel
theorem d44_19 : decode jdk_68_method_10_code 19 = .ok (.iload 4, 2) := by decide +kernel
theorem d44_21 : decode jdk_68_method_10_code 21 = .ok (.iload_n 2, 1) := by decide +kernel
theorem d44_22 : decode jdk_68_method_10_code 22 = .ok (.iconst 2, 1) := by decide +kernel
theorem d44_23 : decode jdk_68_method_10_code 23 = .ok (.aload_n 0, 1) := by decide +kernel
theorem d44_24 : decode jdk_68_method_10_code 24 = .ok (.getfield 22, 3) := by decide +kernel
theorem d44_27 : decode jdk_68_method_10_code 27 = .ok (.ishl, 1) := by decide +kernel
theorem d44_28 : decode jdk_68_method_10_code 28 = .ok (.iadd, 1) := by decide +kernel
theorem d44_29 : decode jdk_68_method_10_code 29 = .ok (.invokestatic 114, 3) := by decide +kernel
theorem pd_8 : parseMethodDescriptor "(III)I" = some ⟨[.int, .int, .int], some .int⟩ := by decide +kernel
abbrev own_y_ArraysSupport_newLength_9 : MethodName := ⟨"jdk/internal/util/ArraysSupport", "newLength", "(III)I"⟩
theorem d44_32 : decode jdk_68_method_10_code 32 = .ok (.istore 5, 2) := by decide +kernel
theorem d44_34 : decode jdk_68_method_10_code 34 = .ok (.iload 5, 2) := by decide +kernel
theorem d44_36 : decode jdk_68_method_10_code 36 = .ok (.ldc 39, 2) := by decide +kernel
theorem d44_38 : decode jdk_68_method_10_code 38 = .ok (.if_icmp .ne 13, 3) := by decide +kernel
theorem d44_51 : decode jdk_68_method_10_code 51 = .ok (.iload 5, 2) := by decide +kernel
theorem d44_53 : decode jdk_68_method_10_code 53 = .ok (.aload_n 0, 1) := by decide +kernel
theorem d44_54 : decode jdk_68_method_10_code 54 = .ok (.getfield 22, 3) := by decide +kernel
theorem d44_57 : decode jdk_68_method_10_code 57 = .ok (.ishr, 1) := by decide +kernel
theorem d44_58 : decode jdk_68_method_10_code 58 = .ok (.ireturn, 1) := by decide +kernel
theorem ef_44 (m : MethodId) (x0 : Addr) (x1 : Int32) : entryFrame m #[(.ref x0), (.int x1)] 6 = mkF m 0 #[.val (.ref x0), .val (.int x1), .unset, .unset, .unset, .unset] [] := by first | (simp [entryFrame, mkF, argsToLocals, Value.category]; done) | rfl
def Q44 (Z : State) (o0 : Addr) (p1 : Int32) (f_o0_value : Addr) (kv : ClassId) (h0 : Heap) (n0 : Nat) (v : Option Value) (h : Heap) (L : List Loc) : Prop := v = some (.int (34 : Int32)) ∧ Fr n0 L ∧ h = h0
set_option maxRecDepth 65536 in
set_option maxHeartbeats 40000000 in
theorem rm44 (l : Launch) (Z : State) (a0 : Array Value) (hw : ∀ d ∈ tables_1, d.before a0 Z = true) (ws : List Jvm.Cond) (o0 : Addr) (p1 : Int32) (f_o0_value : Addr) (kv : ClassId) (h0 : Heap) (n0 : Nat) (Z0 : n0 ≤ h0.size) (F_o0_value : Fld Z h0 o0 "java/lang/AbstractStringBuilder" "value" "[B" (.ref f_o0_value)) (V_f_o0_value : Arv Z h0 f_o0_value kv .byte (16 : Int32) [(.int (72 : Int32)), (.int (84 : Int32)), (.int (84 : Int32)), (.int (80 : Int32)), (.int (32 : Int32)), (.int (115 : Int32)), (.int (116 : Int32)), (.int (97 : Int32)), (.int (116 : Int32)), (.int (117 : Int32)), (.int (115 : Int32)), (.int (32 : Int32)), (.int (0 : Int32)), (.int (0 : Int32)), (.int (0 : Int32)), (.int (0 : Int32))] (.int (0 : Int32))) (F_o0_coder : Fld Z h0 o0 "java/lang/AbstractStringBuilder" "coder" "B" (.int (0 : Int32))) (hc2_1_5 : (p1 - (16 : Int32)) < (18 : Int32)) :
    MetFree l (⟨"java/lang/AbstractStringBuilder", "newCapacity", "(I)I"⟩ : MethodName) (head1 (Jvm.Cond.code (⟨"java/lang/AbstractStringBuilder", "newCapacity", "(I)I"⟩ : MethodName) jdk_68_method_10_code 6 (some .int) :: ws) ({ frames := 2, cells := 0, slots := 0, locals := 29 } : Room)) (fun a U => a = #[(.ref o0), (.int p1)] ∧ Z.Warmed39 U.vm ∧ U.heap = h0) (fun _ _ _ _ _ => True) (fun _ U o U' => ∃ v L, o = .returned v ∧ Q44 Z o0 p1 f_o0_value kv h0 n0 v U'.heap L ∧ FrameEnd U o U' L ({ frames := 2, cells := 0, slots := 0, locals := 29 } : Room).cells ({ frames := 2, cells := 0, slots := 0, locals := 29 } : Room).slots) := by
  refine MetFree.of_bodySF (plainFor_of_name pn_java_lang_AbstractStringBuilder) hisR ?_
  intro p e s m args below meth c s₁ Bd hml0 hP hK
  obtain ⟨rfl, hZ, hh⟩ := hP
  have hx := Bd.exec
  have hby := Bd.bytes
  have hml : c.maxLocals = 6 := hml0
  have hown : s.vm.findClass "java/lang/AbstractStringBuilder" = some m.cls := findClass_of_methodNamed Bd.named
  have hnm := (name_of_methodNamed Bd.named Bd.method).1
  have X0 : Stand p l e ({ frames := 2, cells := 0, slots := 0, locals := 29 } : Room) s m #[(.ref o0), (.int p1)] below meth c s₁ [] 0 0 := Stand.of_body Bd
  have e0 : s₁.heap = h0 := by rw [← hh, Bd.state]; rfl
  have N0 := Fr.nil n0
  show Go p e below (fun o U' => ∃ v L, o = .returned v ∧ Q44 Z o0 p1 f_o0_value kv h0 n0 v U'.heap L ∧ FrameEnd s o U' L ({ frames := 2, cells := 0, slots := 0, locals := 29 } : Room).cells ({ frames := 2, cells := 0, slots := 0, locals := 29 } : Room).slots) (s₁.setTop (entryFrame m #[(.ref o0), (.int p1)] 6))
  refine Go.of (fun _ k => castTop (ef_44 m o0 p1) k) ?_
  show Go p e below _ (s₁.setTop (mkF m 0 #[.val (.ref o0), .val (.int p1), .unset, .unset, .unset, .unset] []))
  refine Go.of (fun _ k => XS.aloadN X0.here hx rfl (hb hby d44_0) rfl rfl k) ?_
  obtain ⟨T1, X1, e1, st1⟩ := getF X0 hx hZ hown (host := "") (Or.inl (own_h hw 24 rfl)) Via.refl e0 F_o0_value (g := (mkF m 1 #[.val (.ref o0), .val (.int p1), .unset, .unset, .unset, .unset] [(.ref o0)])) rfl rfl (hb hby d44_1)
  refine Go.of st1 ?_
  show Go p e below _ (T1.setTop (mkF m 4 #[.val (.ref o0), .val (.int p1), .unset, .unset, .unset, .unset] [(.ref f_o0_value)]))
  obtain ⟨clt2, Art2, qt2, st2, nt2, Ht2, Gt2⟩ := id V_f_o0_value
  refine Go.of (fun _ k => X1.arraylength hx (by rw [e1]; exact Art2.1) (State.isArrayOf_alike hZ.alike Art2.2.1) (g := (mkF m 4 #[.val (.ref o0), .val (.int p1), .unset, .unset, .unset, .unset] [(.ref f_o0_value)])) rfl rfl (hb hby d44_4) _ k) ?_
  rw [len_of st2 nt2]
  show Go p e below _ (T1.setTop (mkF m 5 #[.val (.ref o0), .val (.int p1), .unset, .unset, .unset, .unset] [(.int (16 : Int32))]))
  refine Go.of (fun _ k => XS.istoreN X1.here hx rfl (hb hby d44_5) rfl (l' := #[.val (.ref o0), .val (.int p1), .val (.int (16 : Int32)), .unset, .unset, .unset]) rfl k) ?_
  show Go p e below _ (T1.setTop (mkF m 6 #[.val (.ref o0), .val (.int p1), .val (.int (16 : Int32)), .unset, .unset, .unset] []))
  refine Go.of (fun _ k => XS.iloadN X1.here hx rfl (hb hby d44_6) rfl  k) ?_
  refine Go.of (fun _ k => XS.aloadN X1.here hx rfl (hb hby d44_7) rfl rfl k) ?_
  obtain ⟨T3, X3, e3, st3⟩ := getF X1 hx hZ hown (host := "") (Or.inl (own_h hw 26 rfl)) Via.refl e1 F_o0_coder (g := (mkF m 8 #[.val (.ref o0), .val (.int p1), .val (.int (16 : Int32)), .unset, .unset, .unset] [(.ref o0), (.int p1)])) rfl rfl (hb hby d44_8)
  refine Go.of st3 ?_
  show Go p e below _ (T3.setTop (mkF m 11 #[.val (.ref o0), .val (.int p1), .val (.int (16 : Int32)), .unset, .unset, .unset] [(.int (0 : Int32)), (.int p1)]))
  refine Go.of (fun _ k => XS.ishl X3.here hx rfl (hb hby d44_11) rfl k) ?_
  show Go p e below _ (T3.setTop (mkF m 12 #[.val (.ref o0), .val (.int p1), .val (.int (16 : Int32)), .unset, .unset, .unset] [(.int (p1 <<< ((0 : Int32) &&& 31)))]))
  rw [own_ishl0]
  show Go p e below _ (T3.setTop (mkF m 12 #[.val (.ref o0), .val (.int p1), .val (.int (16 : Int32)), .unset, .unset, .unset] [(.int p1)]))
  refine Go.of (fun _ k => XS.istoreN X3.here hx rfl (hb hby d44_12) rfl (l' := #[.val (.ref o0), .val (.int p1), .val (.int (16 : Int32)), .val (.int p1), .unset, .unset]) rfl k) ?_
  show Go p e below _ (T3.setTop (mkF m 13 #[.val (.ref o0), .val (.int p1), .val (.int (16 : Int32)), .val (.int p1), .unset, .unset] []))
  refine Go.of (fun _ k => XS.iloadN X3.here hx rfl (hb hby d44_13) rfl  k) ?_
  refine Go.of (fun _ k => XS.iloadN X3.here hx rfl (hb hby d44_14) rfl  k) ?_
  refine Go.of (fun _ k => XS.isub X3.here hx rfl (hb hby d44_15) rfl k) ?_
  show Go p e below _ (T3.setTop (mkF m 16 #[.val (.ref o0), .val (.int p1), .val (.int (16 : Int32)), .val (.int p1), .unset, .unset] [(.int (p1 - (16 : Int32)))]))
  refine Go.of (fun _ k => XS.istore X3.here hx rfl (hb hby d44_16) rfl (l' := #[.val (.ref o0), .val (.int p1), .val (.int (16 : Int32)), .val (.int p1), .val (.int (p1 - (16 : Int32))), .unset]) rfl k) ?_
  show Go p e below _ (T3.setTop (mkF m 18 #[.val (.ref o0), .val (.int p1), .val (.int (16 : Int32)), .val (.int p1), .val (.int (p1 - (16 : Int32))), .unset] []))
  refine Go.of (fun _ k => XS.iloadN X3.here hx rfl (hb hby d44_18) rfl  k) ?_
  refine Go.of (fun _ k => XS.iload X3.here hx rfl (hb hby d44_19) rfl  k) ?_
  refine Go.of (fun _ k => XS.iloadN X3.here hx rfl (hb hby d44_21) rfl  k) ?_
  refine Go.of (fun _ k => XS.iconst X3.here hx rfl (hb hby d44_22) k) ?_
  refine Go.of (fun _ k => XS.aloadN X3.here hx rfl (hb hby d44_23) rfl rfl k) ?_
  obtain ⟨T4, X4, e4, st4⟩ := getF X3 hx hZ hown (host := "") (Or.inl (own_h hw 26 rfl)) Via.refl e3 F_o0_coder (g := (mkF m 24 #[.val (.ref o0), .val (.int p1), .val (.int (16 : Int32)), .val (.int p1), .val (.int (p1 - (16 : Int32))), .unset] [(.ref o0), (.int (2 : Int32)), (.int (16 : Int32)), (.int (p1 - (16 : Int32))), (.int (16 : Int32))])) rfl rfl (hb hby d44_24)
  refine Go.of st4 ?_
  show Go p e below _ (T4.setTop (mkF m 27 #[.val (.ref o0), .val (.int p1), .val (.int (16 : Int32)), .val (.int p1), .val (.int (p1 - (16 : Int32))), .unset] [(.int (0 : Int32)), (.int (2 : Int32)), (.int (16 : Int32)), (.int (p1 - (16 : Int32))), (.int (16 : Int32))]))
  refine Go.of (fun _ k => XS.ishl X4.here hx rfl (hb hby d44_27) rfl k) ?_
  show Go p e below _ (T4.setTop (mkF m 28 #[.val (.ref o0), .val (.int p1), .val (.int (16 : Int32)), .val (.int p1), .val (.int (p1 - (16 : Int32))), .unset] [(.int (2 : Int32)), (.int (16 : Int32)), (.int (p1 - (16 : Int32))), (.int (16 : Int32))]))
  refine Go.of (fun _ k => XS.iadd X4.here hx rfl (hb hby d44_28) rfl k) ?_
  show Go p e below _ (T4.setTop (mkF m 29 #[.val (.ref o0), .val (.int p1), .val (.int (16 : Int32)), .val (.int p1), .val (.int (p1 - (16 : Int32))), .unset] [(.int (18 : Int32)), (.int (p1 - (16 : Int32))), (.int (16 : Int32))]))
  obtain ⟨_, _, ⟨T5, L5, k5, n5⟩, -, X5, ⟨Lc5, hQ5, l5, y5, z5⟩, st5⟩ := Jvm.LawKit.callS X4 hx (y := own_y_ArraysSupport_newLength_9) hown (mvT hZ (own_h hw 263 rfl)) (mvT hZ (own_h hw 264 rfl)) (mvT hZ (own_h hw 265 rfl)) (mvT hZ (own_h hw 266 rfl)) (by decide) (backOf (W := 0) (rm45 l Z a0 hw [] (p1 - (16 : Int32)) h0 n0 Z0 hc2_1_5) hZ (own_h hw 266 rfl) (own_h hw 265 rfl) (by decide) (by decide)) (g := (mkF m 29 #[.val (.ref o0), .val (.int p1), .val (.int (16 : Int32)), .val (.int p1), .val (.int (p1 - (16 : Int32))), .unset] [(.int (18 : Int32)), (.int (p1 - (16 : Int32))), (.int (16 : Int32))])) rfl (by rw [hml]; rfl) (argsL := [(.int (16 : Int32)), (.int (p1 - (16 : Int32))), (.int (18 : Int32))]) (rest := []) (lenOf pd_8 rfl) rfl (Nat.le_of_eq rfl) (hb hby d44_29) (fun _ _ => ⟨rfl, e4, (by decide : 0 + 0 ≤ _), (by decide : 0 + 0 ≤ _)⟩)
  dsimp only [Pt.U, Pt.locs, Pt.cells, Pt.slots] at X5 l5 y5 z5 st5 hQ5
  subst l5 y5 z5
  obtain ⟨rfl, Nq5, q5_0⟩ := hQ5
  have N5 := Fr.app N0 Nq5
  refine Go.of st5 ?_
  show Go p e below _ (T5.setTop (mkF m 32 #[.val (.ref o0), .val (.int p1), .val (.int (16 : Int32)), .val (.int p1), .val (.int (p1 - (16 : Int32))), .unset] [(.int (34 : Int32))]))
  refine Go.of (fun _ k => XS.istore X5.here hx rfl (hb hby d44_32) rfl (l' := #[.val (.ref o0), .val (.int p1), .val (.int (16 : Int32)), .val (.int p1), .val (.int (p1 - (16 : Int32))), .val (.int (34 : Int32))]) rfl k) ?_
  show Go p e below _ (T5.setTop (mkF m 34 #[.val (.ref o0), .val (.int p1), .val (.int (16 : Int32)), .val (.int p1), .val (.int (p1 - (16 : Int32))), .val (.int (34 : Int32))] []))
  refine Go.of (fun _ k => XS.iload X5.here hx rfl (hb hby d44_34) rfl  k) ?_
  refine Go.of (fun _ k => X5.ldcInt hx hown (mvT hZ (own_h hw 271 rfl)) (g := (mkF m 36 #[.val (.ref o0), .val (.int p1), .val (.int (16 : Int32)), .val (.int p1), .val (.int (p1 - (16 : Int32))), .val (.int (34 : Int32))] [(.int (34 : Int32))])) rfl (hb hby d44_36) _ k) ?_
  show Go p e below _ (T5.setTop (mkF m 38 #[.val (.ref o0), .val (.int p1), .val (.int (16 : Int32)), .val (.int p1), .val (.int (p1 - (16 : Int32))), .val (.int (34 : Int32))] [(.int (2147483647 : Int32)), (.int (34 : Int32))]))
  refine Go.of (fun _ k => XS.icmpYes X5.here hx rfl (pc0 := 38) (pc' := 51) rfl (hb hby d44_38) rfl (feq (by decide : ¬ ((34 : Int32) = (2147483647 : Int32)))).2 (by decide) (by decide) k) ?_
  show Go p e below _ (T5.setTop (mkF m 51 #[.val (.ref o0), .val (.int p1), .val (.int (16 : Int32)), .val (.int p1), .val (.int (p1 - (16 : Int32))), .val (.int (34 : Int32))] []))
  refine Go.of (fun _ k => XS.iload X5.here hx rfl (hb hby d44_51) rfl  k) ?_
  refine Go.of (fun _ k => XS.aloadN X5.here hx rfl (hb hby d44_53) rfl rfl k) ?_
  obtain ⟨T6, X6, e6, st6⟩ := getF X5 hx hZ hown (host := "") (Or.inl (own_h hw 26 rfl)) Via.refl q5_0 F_o0_coder (g := (mkF m 54 #[.val (.ref o0), .val (.int p1), .val (.int (16 : Int32)), .val (.int p1), .val (.int (p1 - (16 : Int32))), .val (.int (34 : Int32))] [(.ref o0), (.int (34 : Int32))])) rfl rfl (hb hby d44_54)
  refine Go.of st6 ?_
  show Go p e below _ (T6.setTop (mkF m 57 #[.val (.ref o0), .val (.int p1), .val (.int (16 : Int32)), .val (.int p1), .val (.int (p1 - (16 : Int32))), .val (.int (34 : Int32))] [(.int (0 : Int32)), (.int (34 : Int32))]))
  refine Go.of (fun _ k => XS.ishr X6.here hx rfl (hb hby d44_57) rfl k) ?_
  show Go p e below _ (T6.setTop (mkF m 58 #[.val (.ref o0), .val (.int p1), .val (.int (16 : Int32)), .val (.int p1), .val (.int (p1 - (16 : Int32))), .val (.int (34 : Int32))] [(.int (34 : Int32))]))
  obtain ⟨fs, hr, hrun, hended, hW, hsame⟩ := X6.leave (v := some (.int (34 : Int32))) (fun h => by rw [Bd.returns] at h; cases h)
  refine Go.mk _ _ ?_ hrun hended ⟨_, _, rfl, ?_, ⟨_, rfl⟩, hW, hsame.mono (by decide) (by decide)⟩
  · exact retI X6 hx Bd.returns (hb hby d44_58) hr
  · show Q44 Z o0 p1 f_o0_value kv h0 n0 _ T6.heap _
    rw [e6]
    exact ⟨rfl, N5, rfl⟩
theorem d47_0 : decode jdk_65_method_121_code 0 = .ok (.iload_n 1, 1) := by decide +kernel
theorem d47_1 : decode jdk_65_method_121_code 1 = .ok (.aload_n 0, 1) := by decide +kernel
theorem d47_2 : decode jdk_65_method_121_code 2 = .ok (.arraylength, 1) := by decide +kernel
theorem d47_3 : decode jdk_65_method_121_code 3 = .ok (.if_icmp .ne 11, 3) := by decide +kernel
theorem d47_14 : decode jdk_65_method_121_code 14 = .ok (.iload_n 1, 1) := by decide +kernel
theorem d47_15 : decode jdk_65_method_121_code 15 = .ok (.newarray .byte, 2) := by decide +kernel
theorem d47_17 : decode jdk_65_method_121_code 17 = .ok (.astore_n 2, 1) := by decide +kernel
theorem d47_18 : decode jdk_65_method_121_code 18 = .ok (.aload_n 0, 1) := by decide +kernel
theorem d47_19 : decode jdk_65_method_121_code 19 = .ok (.iconst 0, 1) := by decide +kernel
theorem d47_20 : decode jdk_65_method_121_code 20 = .ok (.aload_n 2, 1) := by decide +kernel
theorem d47_21 : decode jdk_65_method_121_code 21 = .ok (.iconst 0, 1) := by decide +kernel
theorem d47_22 : decode jdk_65_method_121_code 22 = .ok (.aload_n 0, 1) := by decide +kernel
theorem d47_23 : decode jdk_65_method_121_code 23 = .ok (.arraylength, 1) := by decide +kernel
theorem d47_24 : decode jdk_65_method_121_code 24 = .ok (.iload_n 1, 1) := by decide +kernel
theorem d47_25 : decode jdk_65_method_121_code 25 = .ok (.invokestatic 304, 3) := by decide +kernel
abbrev own_y_Math_min_10 : MethodName := ⟨"java/lang/Math", "min", "(II)I"⟩
theorem d47_28 : decode jdk_65_method_121_code 28 = .ok (.invokestatic 150, 3) := by decide +kernel
theorem d47_31 : decode jdk_65_method_121_code 31 = .ok (.aload_n 2, 1) := by decide +kernel
theorem d47_32 : decode jdk_65_method_121_code 32 = .ok (.areturn, 1) := by decide +kernel
theorem pn_java_util_Arrays : plainName "java/util/Arrays" = true := by first | (simp [plainName, overriddenIn]; done) | decide +kernel
theorem ef_47l2_34 (m : MethodId) (x0 : Addr) : entryFrame m #[(.ref x0), (.int (34 : Int32))] 3 = mkF m 0 #[.val (.ref x0), .val (.int (34 : Int32)), .unset] [] := by first | (simp [entryFrame, mkF, argsToLocals, Value.category]; done) | rfl
def Q47 (Z : State) (o0 : Addr) (kv : ClassId) (h0 : Heap) (n0 : Nat) (v : Option Value) (h : Heap) (L : List Loc) : Prop := ∃ r : Addr, ∃ rk1 : ClassId, v = some (.ref r) ∧ Fr n0 L ∧ Keep h0 h [] ∧ (h0.size ≤ r ∧ n0 ≤ r) ∧ Arv Z h r rk1 .byte (34 : Int32) [(.int (72 : Int32)), (.int (84 : Int32)), (.int (84 : Int32)), (.int (80 : Int32)), (.int (32 : Int32)), (.int (115 : Int32)), (.int (116 : Int32)), (.int (97 : Int32)), (.int (116 : Int32)), (.int (117 : Int32)), (.int (115 : Int32)), (.int (32 : Int32)), (.int (0 : Int32)), (.int (0 : Int32)), (.int (0 : Int32)), (.int (0 : Int32)), (.int (0 : Int32)), (.int (0 : Int32)), (.int (0 : Int32)), (.int (0 : Int32)), (.int (0 : Int32)), (.int (0 : Int32)), (.int (0 : Int32)), (.int (0 : Int32)), (.int (0 : Int32)), (.int (0 : Int32)), (.int (0 : Int32)), (.int (0 : Int32)), (.int (0 : Int32)), (.int (0 : Int32)), (.int (0 : Int32)), (.int (0 : Int32)), (.int (0 : Int32)), (.int (0 : Int32))] (.int (0 : Int32)) ∧ Exa Z h r "[B"
set_option maxRecDepth 65536 in
set_option maxHeartbeats 40000000 in
theorem rm47 (l : Launch) (Z : State) (a0 : Array Value) (hw : ∀ d ∈ tables_1, d.before a0 Z = true) (ws : List Jvm.Cond) (o0 : Addr) (kv : ClassId) (h0 : Heap) (n0 : Nat) (Z0 : n0 ≤ h0.size) (V_o0 : Arv Z h0 o0 kv .byte (16 : Int32) [(.int (72 : Int32)), (.int (84 : Int32)), (.int (84 : Int32)), (.int (80 : Int32)), (.int (32 : Int32)), (.int (115 : Int32)), (.int (116 : Int32)), (.int (97 : Int32)), (.int (116 : Int32)), (.int (117 : Int32)), (.int (115 : Int32)), (.int (32 : Int32)), (.int (0 : Int32)), (.int (0 : Int32)), (.int (0 : Int32)), (.int (0 : Int32))] (.int (0 : Int32))) :
    MetFree l (⟨"java/util/Arrays", "copyOf", "([BI)[B"⟩ : MethodName) (head1 (Jvm.Cond.code (⟨"java/util/Arrays", "copyOf", "([BI)[B"⟩ : MethodName) jdk_65_method_121_code 3 (some (.array .byte)) :: ws) ({ frames := 1, cells := 1, slots := 34, locals := 32 } : Room)) (fun a U => a = #[(.ref o0), (.int (34 : Int32))] ∧ Z.Warmed39 U.vm ∧ U.heap = h0) (fun _ _ _ _ _ => True) (fun _ U o U' => ∃ v L, o = .returned v ∧ Q47 Z o0 kv h0 n0 v U'.heap L ∧ FrameEnd U o U' L ({ frames := 1, cells := 1, slots := 34, locals := 32 } : Room).cells ({ frames := 1, cells := 1, slots := 34, locals := 32 } : Room).slots) := by
  refine MetFree.of_bodySF (plainFor_of_name pn_java_util_Arrays) hisR ?_
  intro p e s m args below meth c s₁ Bd hml0 hP hK
  obtain ⟨rfl, hZ, hh⟩ := hP
  have hx := Bd.exec
  have hby := Bd.bytes
  have hml : c.maxLocals = 3 := hml0
  have hown : s.vm.findClass "java/util/Arrays" = some m.cls := findClass_of_methodNamed Bd.named
  have hnm := (name_of_methodNamed Bd.named Bd.method).1
  have X0 : Stand p l e ({ frames := 1, cells := 1, slots := 34, locals := 32 } : Room) s m #[(.ref o0), (.int (34 : Int32))] below meth c s₁ [] 0 0 := Stand.of_body Bd
  have e0 : s₁.heap = h0 := by rw [← hh, Bd.state]; rfl
  have N0 := Fr.nil n0
  show Go p e below (fun o U' => ∃ v L, o = .returned v ∧ Q47 Z o0 kv h0 n0 v U'.heap L ∧ FrameEnd s o U' L ({ frames := 1, cells := 1, slots := 34, locals := 32 } : Room).cells ({ frames := 1, cells := 1, slots := 34, locals := 32 } : Room).slots) (s₁.setTop (entryFrame m #[(.ref o0), (.int (34 : Int32))] 3))
  refine Go.of (fun _ k => castTop (ef_47l2_34 m o0) k) ?_
  show Go p e below _ (s₁.setTop (mkF m 0 #[.val (.ref o0), .val (.int (34 : Int32)), .unset] []))
  refine Go.of (fun _ k => XS.iloadN X0.here hx rfl (hb hby d47_0) rfl  k) ?_
  refine Go.of (fun _ k => XS.aloadN X0.here hx rfl (hb hby d47_1) rfl rfl k) ?_
  obtain ⟨clt1, Art1, qt1, st1, nt1, Ht1, Gt1⟩ := id V_o0
  refine Go.of (fun _ k => X0.arraylength hx (by rw [e0]; exact Art1.1) (State.isArrayOf_alike hZ.alike Art1.2.1) (g := (mkF m 2 #[.val (.ref o0), .val (.int (34 : Int32)), .unset] [(.ref o0), (.int (34 : Int32))])) rfl rfl (hb hby d47_2) _ k) ?_
  rw [len_of st1 nt1]
  show Go p e below _ (s₁.setTop (mkF m 3 #[.val (.ref o0), .val (.int (34 : Int32)), .unset] [(.int (16 : Int32)), (.int (34 : Int32))]))
  refine Go.of (fun _ k => XS.icmpYes X0.here hx rfl (pc0 := 3) (pc' := 14) rfl (hb hby d47_3) rfl (feq (by decide : ¬ ((34 : Int32) = (16 : Int32)))).2 (by decide) (by decide) k) ?_
  show Go p e below _ (s₁.setTop (mkF m 14 #[.val (.ref o0), .val (.int (34 : Int32)), .unset] []))
  refine Go.of (fun _ k => XS.iloadN X0.here hx rfl (hb hby d47_14) rfl  k) ?_
  obtain ⟨T2, h2, k2, X2, e2, E2, A2, B2, st2⟩ := newPE X0 hx hZ (own_h hw 23 rfl) e0 (g := (mkF m 15 #[.val (.ref o0), .val (.int (34 : Int32)), .unset] [(.int (34 : Int32))])) rfl (hb hby d47_15) rfl (by decide) (cap := 34) (by decide) (by decide) (by decide) (by decide) (ad := "[B") (by decide)
  obtain ⟨ob2, g2⟩ : ∃ z, z = h0.size := ⟨_, rfl⟩
  rw [← g2] at A2 B2 st2
  refine Go.of st2 ?_
  have g_ob2 : n0 ≤ ob2 := Nat.le_trans Z0 (Nat.le_of_eq g2.symm)
  have sz_ob2 : h0.size ≤ ob2 := Nat.le_trans ((Keep.refl h0 [])).1 (Nat.le_of_eq g2.symm)
  have K2 : Keep h0 h2 [] := ((Keep.refl h0 [])).ext E2
  have Z2 : n0 ≤ h2.size := Nat.le_trans Z0 E2.1
  have V2 : Arv Z h2 ob2 k2 .byte (34 : Int32) [(.int (0 : Int32)), (.int (0 : Int32)), (.int (0 : Int32)), (.int (0 : Int32)), (.int (0 : Int32)), (.int (0 : Int32)), (.int (0 : Int32)), (.int (0 : Int32)), (.int (0 : Int32)), (.int (0 : Int32)), (.int (0 : Int32)), (.int (0 : Int32)), (.int (0 : Int32)), (.int (0 : Int32)), (.int (0 : Int32)), (.int (0 : Int32)), (.int (0 : Int32)), (.int (0 : Int32)), (.int (0 : Int32)), (.int (0 : Int32)), (.int (0 : Int32)), (.int (0 : Int32)), (.int (0 : Int32)), (.int (0 : Int32)), (.int (0 : Int32)), (.int (0 : Int32)), (.int (0 : Int32)), (.int (0 : Int32)), (.int (0 : Int32)), (.int (0 : Int32)), (.int (0 : Int32)), (.int (0 : Int32)), (.int (0 : Int32)), (.int (0 : Int32))] (.int (0 : Int32)) := (Arv.new A2 (by decide)).pad (pad_rep [] (.int (0 : Int32)) 34)
  show Go p e below _ (T2.setTop (mkF m 17 #[.val (.ref o0), .val (.int (34 : Int32)), .unset] [(.ref ob2)]))
  refine Go.of (fun _ k => XS.astoreN X2.here hx rfl (hb hby d47_17) rfl rfl (l' := #[.val (.ref o0), .val (.int (34 : Int32)), .val (.ref ob2)]) rfl k) ?_
  show Go p e below _ (T2.setTop (mkF m 18 #[.val (.ref o0), .val (.int (34 : Int32)), .val (.ref ob2)] []))
  refine Go.of (fun _ k => XS.aloadN X2.here hx rfl (hb hby d47_18) rfl rfl k) ?_
  refine Go.of (fun _ k => XS.iconst X2.here hx rfl (hb hby d47_19) k) ?_
  refine Go.of (fun _ k => XS.aloadN X2.here hx rfl (hb hby d47_20) rfl rfl k) ?_
  refine Go.of (fun _ k => XS.iconst X2.here hx rfl (hb hby d47_21) k) ?_
  refine Go.of (fun _ k => XS.aloadN X2.here hx rfl (hb hby d47_22) rfl rfl k) ?_
  have c3 : Arv Z h2 o0 kv .byte (16 : Int32) [(.int (72 : Int32)), (.int (84 : Int32)), (.int (84 : Int32)), (.int (80 : Int32)), (.int (32 : Int32)), (.int (115 : Int32)), (.int (116 : Int32)), (.int (97 : Int32)), (.int (116 : Int32)), (.int (117 : Int32)), (.int (115 : Int32)), (.int (32 : Int32)), (.int (0 : Int32)), (.int (0 : Int32)), (.int (0 : Int32)), (.int (0 : Int32))] (.int (0 : Int32)) := (V_o0.ext E2)
  obtain ⟨clt4, Art4, qt4, st4, nt4, Ht4, Gt4⟩ := id c3
  refine Go.of (fun _ k => X2.arraylength hx (by rw [e2]; exact Art4.1) (State.isArrayOf_alike hZ.alike Art4.2.1) (g := (mkF m 23 #[.val (.ref o0), .val (.int (34 : Int32)), .val (.ref ob2)] [(.ref o0), (.int (0 : Int32)), (.ref ob2), (.int (0 : Int32)), (.ref o0)])) rfl rfl (hb hby d47_23) _ k) ?_
  rw [len_of st4 nt4]
  show Go p e below _ (T2.setTop (mkF m 24 #[.val (.ref o0), .val (.int (34 : Int32)), .val (.ref ob2)] [(.int (16 : Int32)), (.int (0 : Int32)), (.ref ob2), (.int (0 : Int32)), (.ref o0)]))
  refine Go.of (fun _ k => XS.iloadN X2.here hx rfl (hb hby d47_24) rfl  k) ?_
  obtain ⟨_, _, ⟨T5, L5, k5, n5⟩, -, X5, ⟨Lc5, hQ5, l5, y5, z5⟩, st5⟩ := Jvm.LawKit.callS X2 hx (y := own_y_Math_min_10) hown (mvT hZ (own_h hw 144 rfl)) (mvT hZ (own_h hw 145 rfl)) (mvT hZ (own_h hw 146 rfl)) (mvT hZ (own_h hw 147 rfl)) (by decide) (backOf (W := 4) (rm27_0 l Z a0 hw [] (16 : Int32) (34 : Int32) h2 n0 Z2 (by decide : ¬ ((34 : Int32) < (16 : Int32)))) hZ (own_h hw 147 rfl) (own_h hw 146 rfl) (by decide) (by decide)) (g := (mkF m 25 #[.val (.ref o0), .val (.int (34 : Int32)), .val (.ref ob2)] [(.int (34 : Int32)), (.int (16 : Int32)), (.int (0 : Int32)), (.ref ob2), (.int (0 : Int32)), (.ref o0)])) rfl (by rw [hml]; rfl) (argsL := [(.int (16 : Int32)), (.int (34 : Int32))]) (rest := [(.int (0 : Int32)), (.ref ob2), (.int (0 : Int32)), (.ref o0)]) (lenOf pd_7 rfl) rfl (Nat.le_of_eq rfl) (hb hby d47_25) (fun _ _ => ⟨rfl, e2, (by decide : 1 + 0 ≤ _), (by decide : 34 + 0 ≤ _)⟩)
  dsimp only [Pt.U, Pt.locs, Pt.cells, Pt.slots] at X5 l5 y5 z5 st5 hQ5
  subst l5 y5 z5
  obtain ⟨rfl, Nq5, q5_0⟩ := hQ5
  have N5 := Fr.app N0 Nq5
  refine Go.of st5 ?_
  show Go p e below _ (T5.setTop (mkF m 28 #[.val (.ref o0), .val (.int (34 : Int32)), .val (.ref ob2)] [(.int (16 : Int32)), (.int (0 : Int32)), (.ref ob2), (.int (0 : Int32)), (.ref o0)]))
  obtain ⟨T6, h6, L6, X6, e6, N6, q6_0, V6, st6⟩ := cpA X5 hx hZ hown (own_h hw 148 rfl) (own_h hw 83 rfl) (own_h hw 81 rfl) (own_h hw 82 rfl) q5_0 c3 V2 (us := [(.int (72 : Int32)), (.int (84 : Int32)), (.int (84 : Int32)), (.int (80 : Int32)), (.int (32 : Int32)), (.int (115 : Int32)), (.int (116 : Int32)), (.int (97 : Int32)), (.int (116 : Int32)), (.int (117 : Int32)), (.int (115 : Int32)), (.int (32 : Int32)), (.int (0 : Int32)), (.int (0 : Int32)), (.int (0 : Int32)), (.int (0 : Int32))]) (Or.inl ⟨rfl, rfl⟩) (by decide) (by decide) (by decide) (by decide) (by decide) rfl (Nat.le_of_ble_eq_true rfl) N5 g_ob2 (g := (mkF m 28 #[.val (.ref o0), .val (.int (34 : Int32)), .val (.ref ob2)] [(.int (16 : Int32)), (.int (0 : Int32)), (.ref ob2), (.int (0 : Int32)), (.ref o0)])) rfl (by rw [hml]; rfl) (rest := []) rfl (hb hby d47_28) (by decide) (W := 0) (Nat.le_of_eq rfl) (by decide)
  refine Go.of st6 ?_
  have K6 : Keep h0 h6 [] := (K2).trans q6_0 (allS (Or.inr sz_ob2) all0)
  have Z6 : n0 ≤ h6.size := Nat.le_trans Z2 q6_0.1
  have Vc6 : Arv Z h6 ob2 k2 .byte (34 : Int32) [(.int (72 : Int32)), (.int (84 : Int32)), (.int (84 : Int32)), (.int (80 : Int32)), (.int (32 : Int32)), (.int (115 : Int32)), (.int (116 : Int32)), (.int (97 : Int32)), (.int (116 : Int32)), (.int (117 : Int32)), (.int (115 : Int32)), (.int (32 : Int32)), (.int (0 : Int32)), (.int (0 : Int32)), (.int (0 : Int32)), (.int (0 : Int32)), (.int (0 : Int32)), (.int (0 : Int32)), (.int (0 : Int32)), (.int (0 : Int32)), (.int (0 : Int32)), (.int (0 : Int32)), (.int (0 : Int32)), (.int (0 : Int32)), (.int (0 : Int32)), (.int (0 : Int32)), (.int (0 : Int32)), (.int (0 : Int32)), (.int (0 : Int32)), (.int (0 : Int32)), (.int (0 : Int32)), (.int (0 : Int32)), (.int (0 : Int32)), (.int (0 : Int32))] (.int (0 : Int32)) := V6
  show Go p e below _ (T6.setTop (mkF m 31 #[.val (.ref o0), .val (.int (34 : Int32)), .val (.ref ob2)] []))
  refine Go.of (fun _ k => XS.aloadN X6.here hx rfl (hb hby d47_31) rfl rfl k) ?_
  have c8 : Exa Z h6 ob2 "[B" := (B2.keep q6_0)
  obtain ⟨fs, hr, hrun, hended, hW, hsame⟩ := X6.leave (v := some (.ref ob2)) (fun h => by rw [Bd.returns] at h; cases h)
  refine Go.mk _ _ ?_ hrun hended ⟨_, _, rfl, ?_, ⟨_, rfl⟩, hW, hsame.mono (by decide) (by decide)⟩
  · exact retOut X6 hx Bd.returns rfl (Or.inr (Or.inr (Or.inr (Or.inr ⟨rfl, rfl, rfl⟩)))) (hb hby d47_32) hr
  · show Q47 Z o0 kv h0 n0 _ T6.heap _
    rw [e6]
    exact ⟨ob2, k2, rfl, N6, K6, ⟨sz_ob2, g_ob2⟩, Vc6, c8⟩
theorem d9_17 : decode jdk_68_method_9_code 17 = .ok (.aload_n 0, 1) := by decide +kernel
theorem d9_18 : decode jdk_68_method_9_code 18 = .ok (.aload_n 0, 1) := by decide +kernel
theorem d9_19 : decode jdk_68_method_9_code 19 = .ok (.getfield 15, 3) := by decide +kernel
theorem d9_22 : decode jdk_68_method_9_code 22 = .ok (.aload_n 0, 1) := by decide +kernel
theorem d9_23 : decode jdk_68_method_9_code 23 = .ok (.iload_n 1, 1) := by decide +kernel
theorem d9_24 : decode jdk_68_method_9_code 24 = .ok (.invokevirtual 104, 3) := by decide +kernel
theorem pd_9 : parseMethodDescriptor "(I)I" = some ⟨[.int], some .int⟩ := by decide +kernel
abbrev own_y_AbstractStringBuilder_newCapacity_11 : MethodName := ⟨"java/lang/AbstractStringBuilder", "newCapacity", "(I)I"⟩
theorem d9_27 : decode jdk_68_method_9_code 27 = .ok (.aload_n 0, 1) := by decide +kernel
theorem d9_28 : decode jdk_68_method_9_code 28 = .ok (.getfield 22, 3) := by decide +kernel
theorem d9_31 : decode jdk_68_method_9_code 31 = .ok (.ishl, 1) := by decide +kernel
theorem d9_32 : decode jdk_68_method_9_code 32 = .ok (.invokestatic 108, 3) := by decide +kernel
theorem pd_10 : parseMethodDescriptor "([BI)[B" = some ⟨[(.array .byte), .int], some (.array .byte)⟩ := by decide +kernel
abbrev own_y_Arrays_copyOf_12 : MethodName := ⟨"java/util/Arrays", "copyOf", "([BI)[B"⟩
theorem d9_35 : decode jdk_68_method_9_code 35 = .ok (.putfield 15, 3) := by decide +kernel
def Q9_g (Z : State) (o0 : Addr) (p1 : Int32) (u_o0_count : Value) (f_o0_value : Addr) (kv : ClassId) (h0 : Heap) (n0 : Nat) (v : Option Value) (h : Heap) (L : List Loc) : Prop := ∃ r0 : Addr, ∃ rk1 : ClassId, v = none ∧ Fr n0 L ∧ Keep h0 h [o0] ∧ Exa Z h o0 "java/lang/StringBuilder" ∧ Fld Z h o0 "java/lang/AbstractStringBuilder" "coder" "B" (.int (0 : Int32)) ∧ Fld Z h o0 "java/lang/AbstractStringBuilder" "count" "I" u_o0_count ∧ Fld Z h o0 "java/lang/AbstractStringBuilder" "value" "[B" (.ref r0) ∧ (h0.size ≤ r0 ∧ n0 ≤ r0) ∧ Arv Z h r0 rk1 .byte (34 : Int32) [(.int (72 : Int32)), (.int (84 : Int32)), (.int (84 : Int32)), (.int (80 : Int32)), (.int (32 : Int32)), (.int (115 : Int32)), (.int (116 : Int32)), (.int (97 : Int32)), (.int (116 : Int32)), (.int (117 : Int32)), (.int (115 : Int32)), (.int (32 : Int32)), (.int (0 : Int32)), (.int (0 : Int32)), (.int (0 : Int32)), (.int (0 : Int32)), (.int (0 : Int32)), (.int (0 : Int32)), (.int (0 : Int32)), (.int (0 : Int32)), (.int (0 : Int32)), (.int (0 : Int32)), (.int (0 : Int32)), (.int (0 : Int32)), (.int (0 : Int32)), (.int (0 : Int32)), (.int (0 : Int32)), (.int (0 : Int32)), (.int (0 : Int32)), (.int (0 : Int32)), (.int (0 : Int32)), (.int (0 : Int32)), (.int (0 : Int32)), (.int (0 : Int32))] (.int (0 : Int32)) ∧ Exa Z h r0 "[B"
set_option maxRecDepth 65536 in
set_option maxHeartbeats 40000000 in
theorem rm9_g (l : Launch) (Z : State) (a0 : Array Value) (hw : ∀ d ∈ tables_1, d.before a0 Z = true) (ws : List Jvm.Cond) (o0 : Addr) (p1 : Int32) (u_o0_count : Value) (f_o0_value : Addr) (kv : ClassId) (h0 : Heap) (n0 : Nat) (Z0 : n0 ≤ h0.size) (F_o0_count : Fld Z h0 o0 "java/lang/AbstractStringBuilder" "count" "I" u_o0_count) (F_o0_value : Fld Z h0 o0 "java/lang/AbstractStringBuilder" "value" "[B" (.ref f_o0_value)) (V_f_o0_value : Arv Z h0 f_o0_value kv .byte (16 : Int32) [(.int (72 : Int32)), (.int (84 : Int32)), (.int (84 : Int32)), (.int (80 : Int32)), (.int (32 : Int32)), (.int (115 : Int32)), (.int (116 : Int32)), (.int (97 : Int32)), (.int (116 : Int32)), (.int (117 : Int32)), (.int (115 : Int32)), (.int (32 : Int32)), (.int (0 : Int32)), (.int (0 : Int32)), (.int (0 : Int32)), (.int (0 : Int32))] (.int (0 : Int32))) (F_o0_coder : Fld Z h0 o0 "java/lang/AbstractStringBuilder" "coder" "B" (.int (0 : Int32))) (hc14 : (0 : Int32) < (p1 - (16 : Int32))) (hc2_1_5_5 : (p1 - (16 : Int32)) < (18 : Int32)) (E_o0 : Exa Z h0 o0 "java/lang/StringBuilder") (g_o0 : n0 ≤ o0) :
    MetFree l (⟨"java/lang/AbstractStringBuilder", "ensureCapacityInternal", "(I)V"⟩ : MethodName) (head1 (Jvm.Cond.code (⟨"java/lang/AbstractStringBuilder", "ensureCapacityInternal", "(I)V"⟩ : MethodName) jdk_68_method_9_code 3 none :: ws) ({ frames := 3, cells := 1, slots := 34, locals := 48 } : Room)) (fun a U => a = #[(.ref o0), (.int p1)] ∧ Z.Warmed39 U.vm ∧ U.heap = h0) (fun _ _ _ _ _ => True) (fun _ U o U' => ∃ v L, o = .returned v ∧ Q9_g Z o0 p1 u_o0_count f_o0_value kv h0 n0 v U'.heap L ∧ FrameEnd U o U' L ({ frames := 3, cells := 1, slots := 34, locals := 48 } : Room).cells ({ frames := 3, cells := 1, slots := 34, locals := 48 } : Room).slots) := by
  refine MetFree.of_bodySF (plainFor_of_name pn_java_lang_AbstractStringBuilder) hisR ?_
  intro p e s m args below meth c s₁ Bd hml0 hP hK
  obtain ⟨rfl, hZ, hh⟩ := hP
  have hx := Bd.exec
  have hby := Bd.bytes
  have hml : c.maxLocals = 3 := hml0
  have hown : s.vm.findClass "java/lang/AbstractStringBuilder" = some m.cls := findClass_of_methodNamed Bd.named
  have hnm := (name_of_methodNamed Bd.named Bd.method).1
  have X0 : Stand p l e ({ frames := 3, cells := 1, slots := 34, locals := 48 } : Room) s m #[(.ref o0), (.int p1)] below meth c s₁ [] 0 0 := Stand.of_body Bd
  have e0 : s₁.heap = h0 := by rw [← hh, Bd.state]; rfl
  have N0 := Fr.nil n0
  show Go p e below (fun o U' => ∃ v L, o = .returned v ∧ Q9_g Z o0 p1 u_o0_count f_o0_value kv h0 n0 v U'.heap L ∧ FrameEnd s o U' L ({ frames := 3, cells := 1, slots := 34, locals := 48 } : Room).cells ({ frames := 3, cells := 1, slots := 34, locals := 48 } : Room).slots) (s₁.setTop (entryFrame m #[(.ref o0), (.int p1)] 3))
  refine Go.of (fun _ k => castTop (ef_9 m o0 p1) k) ?_
  show Go p e below _ (s₁.setTop (mkF m 0 #[.val (.ref o0), .val (.int p1), .unset] []))
  refine Go.of (fun _ k => XS.aloadN X0.here hx rfl (hb hby d9_0) rfl rfl k) ?_
  obtain ⟨T1, X1, e1, st1⟩ := getF X0 hx hZ hown (host := "") (Or.inl (own_h hw 24 rfl)) Via.refl e0 F_o0_value (g := (mkF m 1 #[.val (.ref o0), .val (.int p1), .unset] [(.ref o0)])) rfl rfl (hb hby d9_1)
  refine Go.of st1 ?_
  show Go p e below _ (T1.setTop (mkF m 4 #[.val (.ref o0), .val (.int p1), .unset] [(.ref f_o0_value)]))
  obtain ⟨clt2, Art2, qt2, st2, nt2, Ht2, Gt2⟩ := id V_f_o0_value
  refine Go.of (fun _ k => X1.arraylength hx (by rw [e1]; exact Art2.1) (State.isArrayOf_alike hZ.alike Art2.2.1) (g := (mkF m 4 #[.val (.ref o0), .val (.int p1), .unset] [(.ref f_o0_value)])) rfl rfl (hb hby d9_4) _ k) ?_
  rw [len_of st2 nt2]
  show Go p e below _ (T1.setTop (mkF m 5 #[.val (.ref o0), .val (.int p1), .unset] [(.int (16 : Int32))]))
  refine Go.of (fun _ k => XS.aloadN X1.here hx rfl (hb hby d9_5) rfl rfl k) ?_
  obtain ⟨T3, X3, e3, st3⟩ := getF X1 hx hZ hown (host := "") (Or.inl (own_h hw 26 rfl)) Via.refl e1 F_o0_coder (g := (mkF m 6 #[.val (.ref o0), .val (.int p1), .unset] [(.ref o0), (.int (16 : Int32))])) rfl rfl (hb hby d9_6)
  refine Go.of st3 ?_
  show Go p e below _ (T3.setTop (mkF m 9 #[.val (.ref o0), .val (.int p1), .unset] [(.int (0 : Int32)), (.int (16 : Int32))]))
  refine Go.of (fun _ k => XS.ishr X3.here hx rfl (hb hby d9_9) rfl k) ?_
  show Go p e below _ (T3.setTop (mkF m 10 #[.val (.ref o0), .val (.int p1), .unset] [(.int (16 : Int32))]))
  refine Go.of (fun _ k => XS.istoreN X3.here hx rfl (hb hby d9_10) rfl (l' := #[.val (.ref o0), .val (.int p1), .val (.int (16 : Int32))]) rfl k) ?_
  show Go p e below _ (T3.setTop (mkF m 11 #[.val (.ref o0), .val (.int p1), .val (.int (16 : Int32))] []))
  refine Go.of (fun _ k => XS.iloadN X3.here hx rfl (hb hby d9_11) rfl  k) ?_
  refine Go.of (fun _ k => XS.iloadN X3.here hx rfl (hb hby d9_12) rfl  k) ?_
  refine Go.of (fun _ k => XS.isub X3.here hx rfl (hb hby d9_13) rfl k) ?_
  show Go p e below _ (T3.setTop (mkF m 14 #[.val (.ref o0), .val (.int p1), .val (.int (16 : Int32))] [(.int (p1 - (16 : Int32)))]))
  refine Go.of (fun _ k => XS.ifNo X3.here hx rfl (hb hby d9_14) rfl ((if0 _ _).trans (tlt hc14).2.2.2) k) ?_
  show Go p e below _ (T3.setTop (mkF m 17 #[.val (.ref o0), .val (.int p1), .val (.int (16 : Int32))] []))
  refine Go.of (fun _ k => XS.aloadN X3.here hx rfl (hb hby d9_17) rfl rfl k) ?_
  refine Go.of (fun _ k => XS.aloadN X3.here hx rfl (hb hby d9_18) rfl rfl k) ?_
  obtain ⟨T4, X4, e4, st4⟩ := getF X3 hx hZ hown (host := "") (Or.inl (own_h hw 24 rfl)) Via.refl e3 F_o0_value (g := (mkF m 19 #[.val (.ref o0), .val (.int p1), .val (.int (16 : Int32))] [(.ref o0), (.ref o0)])) rfl rfl (hb hby d9_19)
  refine Go.of st4 ?_
  show Go p e below _ (T4.setTop (mkF m 22 #[.val (.ref o0), .val (.int p1), .val (.int (16 : Int32))] [(.ref f_o0_value), (.ref o0)]))
  refine Go.of (fun _ k => XS.aloadN X4.here hx rfl (hb hby d9_22) rfl rfl k) ?_
  refine Go.of (fun _ k => XS.iloadN X4.here hx rfl (hb hby d9_23) rfl  k) ?_
  obtain ⟨cq5, q5, q5'⟩ := E_o0.cell
  obtain ⟨_, _, ⟨T5, L5, k5, n5⟩, -, X5, ⟨Lc5, hQ5, l5, y5, z5⟩, st5⟩ := X4.privateBack hx (y := own_y_AbstractStringBuilder_newCapacity_11) hown (mvT hZ (own_h hw 258 rfl)) (mvT hZ (own_h hw 259 rfl)) (own_selpriv (mvT hZ (own_h hw 261 rfl)) (Cond.privateMethod_at (mvP hZ (own_h hw 260 rfl) (args := #[]))) (mvT hZ (own_h hw 259 rfl)) (by decide)) (Cond.privateMethod_at (mvP hZ (own_h hw 260 rfl) (args := #[]))) (mvT hZ (own_h hw 262 rfl)) (by decide) (backOf (W := 2) (rm44 l Z a0 hw [] o0 p1 f_o0_value kv h0 n0 Z0 F_o0_value V_f_o0_value F_o0_coder hc2_1_5_5) hZ (own_h hw 262 rfl) (own_h hw 16 rfl) (by decide) (by decide)) (g := (mkF m 24 #[.val (.ref o0), .val (.int p1), .val (.int (16 : Int32))] [(.int p1), (.ref o0), (.ref f_o0_value), (.ref o0)])) rfl (by rw [hml]; rfl) (Steps.refl _) (a := o0) (by rw [e4]; exact q5) q5' (argsL := [(.int p1)]) (rest := [(.ref f_o0_value), (.ref o0)]) (lenOf pd_9 rfl) rfl (Nat.le_of_eq rfl) (hb hby d9_24) (fun _ _ => ⟨rfl, e4, (by decide : 0 + 0 ≤ _), (by decide : 0 + 0 ≤ _)⟩)
  dsimp only [Pt.U, Pt.locs, Pt.cells, Pt.slots] at X5 l5 y5 z5 st5 hQ5
  subst l5 y5 z5
  obtain ⟨rfl, Nq5, q5_0⟩ := hQ5
  have N5 := Fr.app N0 Nq5
  refine Go.tr st5 ?_
  show Go p e below _ (T5.setTop (mkF m 27 #[.val (.ref o0), .val (.int p1), .val (.int (16 : Int32))] [(.int (34 : Int32)), (.ref f_o0_value), (.ref o0)]))
  refine Go.of (fun _ k => XS.aloadN X5.here hx rfl (hb hby d9_27) rfl rfl k) ?_
  obtain ⟨T6, X6, e6, st6⟩ := getF X5 hx hZ hown (host := "") (Or.inl (own_h hw 26 rfl)) Via.refl q5_0 F_o0_coder (g := (mkF m 28 #[.val (.ref o0), .val (.int p1), .val (.int (16 : Int32))] [(.ref o0), (.int (34 : Int32)), (.ref f_o0_value), (.ref o0)])) rfl rfl (hb hby d9_28)
  refine Go.of st6 ?_
  show Go p e below _ (T6.setTop (mkF m 31 #[.val (.ref o0), .val (.int p1), .val (.int (16 : Int32))] [(.int (0 : Int32)), (.int (34 : Int32)), (.ref f_o0_value), (.ref o0)]))
  refine Go.of (fun _ k => XS.ishl X6.here hx rfl (hb hby d9_31) rfl k) ?_
  show Go p e below _ (T6.setTop (mkF m 32 #[.val (.ref o0), .val (.int p1), .val (.int (16 : Int32))] [(.int (34 : Int32)), (.ref f_o0_value), (.ref o0)]))
  obtain ⟨_, _, ⟨T7, L7, k7, n7⟩, -, X7, ⟨Lc7, hQ7, l7, y7, z7⟩, st7⟩ := Jvm.LawKit.callS X6 hx (y := own_y_Arrays_copyOf_12) hown (mvT hZ (own_h hw 272 rfl)) (mvT hZ (own_h hw 273 rfl)) (mvT hZ (own_h hw 136 rfl)) (mvT hZ (own_h hw 274 rfl)) (by decide) (backOf (W := 1) (rm47 l Z a0 hw [] f_o0_value kv h0 n0 Z0 V_f_o0_value) hZ (own_h hw 274 rfl) (own_h hw 136 rfl) (by decide) (by decide)) (g := (mkF m 32 #[.val (.ref o0), .val (.int p1), .val (.int (16 : Int32))] [(.int (34 : Int32)), (.ref f_o0_value), (.ref o0)])) rfl (by rw [hml]; rfl) (argsL := [(.ref f_o0_value), (.int (34 : Int32))]) (rest := [(.ref o0)]) (lenOf pd_10 rfl) rfl (Nat.le_of_eq rfl) (hb hby d9_32) (fun _ _ => ⟨rfl, e6, (by decide : 0 + 1 ≤ _), (by decide : 0 + 34 ≤ _)⟩)
  dsimp only [Pt.U, Pt.locs, Pt.cells, Pt.slots] at X7 l7 y7 z7 st7 hQ7
  subst l7 y7 z7
  obtain ⟨r_7, rk1_7, rfl, Nq7, q7_0, q7_1, q7_2, q7_3⟩ := hQ7
  have N7 := Fr.app N5 Nq7
  refine Go.of st7 ?_
  have K7 : Keep h0 T7.heap [o0] := ((Keep.refl h0 [o0])).trans q7_0 all0
  have Z7 : n0 ≤ T7.heap.size := Nat.le_trans Z0 q7_0.1
  have g_r_7 : n0 ≤ r_7 := q7_1.2
  have sz_r_7 : h0.size ≤ r_7 := Nat.le_trans ((Keep.refl h0 [o0])).1 q7_1.1
  show Go p e below _ (T7.setTop (mkF m 35 #[.val (.ref o0), .val (.int p1), .val (.int (16 : Int32))] [(.ref r_7), (.ref o0)]))
  have c8 : Fld Z T7.heap o0 "java/lang/AbstractStringBuilder" "value" "[B" (.ref f_o0_value) := (F_o0_value.keep q7_0 nin0)
  have c9 : Exa Z T7.heap o0 "java/lang/StringBuilder" := (E_o0.keep q7_0)
  obtain ⟨T10, h10, X10, e10, W10, st10⟩ := putF X7 hx hZ hown (host := "") (Or.inl (own_h hw 24 rfl)) Via.refl rfl c8 c9 (Or.inl (own_h hw 25 rfl)) (own_h hw 7 rfl) (ty := (.array .byte)) (by decide) rfl rfl (g := (mkF m 35 #[.val (.ref o0), .val (.int p1), .val (.int (16 : Int32))] [(.ref r_7), (.ref o0)])) rfl rfl (hb hby d9_35)
  refine Go.of st10 ?_
  have N10 := Fr.snoc X10 N7 g_o0
  have K10 : Keep h0 h10 [o0] := (K7).wr W10 (Or.inl (List.mem_of_getElem? (i := 0) rfl))
  have Z10 : n0 ≤ h10.size := Nat.le_trans Z7 (Keep.of_wr W10).1
  have f11 : Fld Z h10 o0 "java/lang/AbstractStringBuilder" "value" "[B" (.ref r_7) := Fld.same W10 c8
  show Go p e below _ (T10.setTop (mkF m 38 #[.val (.ref o0), .val (.int p1), .val (.int (16 : Int32))] []))
  have c13 : Exa Z h10 o0 "java/lang/StringBuilder" := (Exa.wr W10 c9)
  have c14 : Fld Z T7.heap o0 "java/lang/AbstractStringBuilder" "coder" "B" (.int (0 : Int32)) := (F_o0_coder.keep q7_0 nin0)
  have c15 : Fld Z h10 o0 "java/lang/AbstractStringBuilder" "coder" "B" (.int (0 : Int32)) := (Fld.other W10 c14 (Or.inr (slot_ne (Or.inl (own_h hw 27 rfl)) (Or.inl (own_h hw 25 rfl)) (by decide) (t := .byte) (t' := (.array .byte)) (by decide) (by decide))))
  have c16 : Fld Z T7.heap o0 "java/lang/AbstractStringBuilder" "count" "I" u_o0_count := (F_o0_count.keep q7_0 nin0)
  have c17 : Fld Z h10 o0 "java/lang/AbstractStringBuilder" "count" "I" u_o0_count := (Fld.other W10 c16 (Or.inr (slot_ne (Or.inl (own_h hw 58 rfl)) (Or.inl (own_h hw 25 rfl)) (by decide) (t := .int) (t' := (.array .byte)) (by decide) (by decide))))
  have c18 : Arv Z h10 r_7 rk1_7 .byte (34 : Int32) [(.int (72 : Int32)), (.int (84 : Int32)), (.int (84 : Int32)), (.int (80 : Int32)), (.int (32 : Int32)), (.int (115 : Int32)), (.int (116 : Int32)), (.int (97 : Int32)), (.int (116 : Int32)), (.int (117 : Int32)), (.int (115 : Int32)), (.int (32 : Int32)), (.int (0 : Int32)), (.int (0 : Int32)), (.int (0 : Int32)), (.int (0 : Int32)), (.int (0 : Int32)), (.int (0 : Int32)), (.int (0 : Int32)), (.int (0 : Int32)), (.int (0 : Int32)), (.int (0 : Int32)), (.int (0 : Int32)), (.int (0 : Int32)), (.int (0 : Int32)), (.int (0 : Int32)), (.int (0 : Int32)), (.int (0 : Int32)), (.int (0 : Int32)), (.int (0 : Int32)), (.int (0 : Int32)), (.int (0 : Int32)), (.int (0 : Int32)), (.int (0 : Int32))] (.int (0 : Int32)) := (q7_2.other W10 (Ne.symm (Nat.ne_of_lt (Nat.lt_of_lt_of_le E_o0.lt q7_1.1))))
  have c19 : Exa Z h10 r_7 "[B" := (Exa.wr W10 q7_3)
  obtain ⟨fs, hr, hrun, hended, hW, hsame⟩ := X10.leave (v := none) (fun _ => rfl)
  refine Go.mk _ _ ?_ hrun hended ⟨_, _, rfl, ?_, ⟨_, rfl⟩, hW, hsame.mono (by decide) (by decide)⟩
  · exact X10.returnOut hx Bd.returns (hb hby d9_38) hr
  · show Q9_g Z o0 p1 u_o0_count f_o0_value kv h0 n0 _ T10.heap _
    rw [e10]
    exact ⟨r_7, rk1_7, rfl, N10, K10, c13, c15, c17, f11, ⟨sz_r_7, g_r_7⟩, c18, c19⟩
theorem d14_0 : decode jdk_68_method_32_code 0 = .ok (.aload_n 0, 1) := by decide +kernel
theorem d14_1 : decode jdk_68_method_32_code 1 = .ok (.getfield 79, 3) := by decide +kernel
theorem d14_4 : decode jdk_68_method_32_code 4 = .ok (.istore_n 2, 1) := by decide +kernel
theorem d14_5 : decode jdk_68_method_32_code 5 = .ok (.iload_n 2, 1) := by decide +kernel
theorem d14_6 : decode jdk_68_method_32_code 6 = .ok (.iload_n 1, 1) := by decide +kernel
theorem d14_7 : decode jdk_68_method_32_code 7 = .ok (.invokestatic 245, 3) := by decide +kernel
theorem d14_10 : decode jdk_68_method_32_code 10 = .ok (.iadd, 1) := by decide +kernel
theorem d14_11 : decode jdk_68_method_32_code 11 = .ok (.istore_n 3, 1) := by decide +kernel
theorem d14_12 : decode jdk_68_method_32_code 12 = .ok (.aload_n 0, 1) := by decide +kernel
theorem d14_13 : decode jdk_68_method_32_code 13 = .ok (.iload_n 3, 1) := by decide +kernel
theorem d14_14 : decode jdk_68_method_32_code 14 = .ok (.invokevirtual 100, 3) := by decide +kernel
theorem d14_17 : decode jdk_68_method_32_code 17 = .ok (.aload_n 0, 1) := by decide +kernel
theorem d14_18 : decode jdk_68_method_32_code 18 = .ok (.invokevirtual 83, 3) := by decide +kernel
theorem pd_11 : parseMethodDescriptor "()Z" = some ⟨[], some .boolean⟩ := by decide +kernel
abbrev own_y_AbstractStringBuilder_isLatin1_13 : MethodName := ⟨"java/lang/AbstractStringBuilder", "isLatin1", "()Z"⟩
theorem d14_21 : decode jdk_68_method_32_code 21 = .ok (.ifCond .eq 16, 3) := by decide +kernel
theorem d14_24 : decode jdk_68_method_32_code 24 = .ok (.iload_n 1, 1) := by decide +kernel
theorem d14_25 : decode jdk_68_method_32_code 25 = .ok (.iload_n 3, 1) := by decide +kernel
theorem d14_26 : decode jdk_68_method_32_code 26 = .ok (.aload_n 0, 1) := by decide +kernel
theorem d14_27 : decode jdk_68_method_32_code 27 = .ok (.getfield 15, 3) := by decide +kernel
theorem d14_30 : decode jdk_68_method_32_code 30 = .ok (.invokestatic 248, 3) := by decide +kernel
theorem d14_33 : decode jdk_68_method_32_code 33 = .ok (.pop, 1) := by decide +kernel
theorem d14_34 : decode jdk_68_method_32_code 34 = .ok (.goto 14, 3) := by decide +kernel
theorem d14_48 : decode jdk_68_method_32_code 48 = .ok (.aload_n 0, 1) := by decide +kernel
theorem d14_49 : decode jdk_68_method_32_code 49 = .ok (.iload_n 3, 1) := by decide +kernel
theorem d14_50 : decode jdk_68_method_32_code 50 = .ok (.putfield 79, 3) := by decide +kernel
theorem d14_53 : decode jdk_68_method_32_code 53 = .ok (.aload_n 0, 1) := by decide +kernel
theorem d14_54 : decode jdk_68_method_32_code 54 = .ok (.areturn, 1) := by decide +kernel
theorem ef_14 (m : MethodId) (x0 : Addr) (x1 : Int32) : entryFrame m #[(.ref x0), (.int x1)] 4 = mkF m 0 #[.val (.ref x0), .val (.int x1), .unset, .unset] [] := by first | (simp [entryFrame, mkF, argsToLocals, Value.category]; done) | rfl
def Q14_5 (Z : State) (o0 : Addr) (p1 : Int32) (f_o0_value : Addr) (kv : ClassId) (w_COMPACT_STRINGS : Int32) (tst : Addr) (td1 : Addr) (td2 : Addr) (tD1 : Cell) (tD2 : Cell) (h0 : Heap) (n0 : Nat) (v : Option Value) (h : Heap) (L : List Loc) : Prop := ∃ rx0 : List Value, v = some (.ref o0) ∧ Fr n0 L ∧ Keep h0 h [f_o0_value, o0] ∧ Arv Z h f_o0_value kv .byte (16 : Int32) rx0 (.int (0 : Int32)) ∧ Exa Z h o0 "java/lang/StringBuilder" ∧ Fld Z h o0 "java/lang/AbstractStringBuilder" "coder" "B" (.int (0 : Int32)) ∧ Fld Z h o0 "java/lang/AbstractStringBuilder" "count" "I" (.int (own_sz 5 p1)) ∧ Fld Z h o0 "java/lang/AbstractStringBuilder" "value" "[B" (.ref f_o0_value) ∧ own_out 5 p1 [(.int (104 : Int32)), (.int (116 : Int32)), (.int (116 : Int32)), (.int (112 : Int32)), (.int (45 : Int32)), (.int (0 : Int32)), (.int (0 : Int32)), (.int (0 : Int32)), (.int (0 : Int32)), (.int (0 : Int32)), (.int (0 : Int32)), (.int (0 : Int32)), (.int (0 : Int32)), (.int (0 : Int32)), (.int (0 : Int32)), (.int (0 : Int32))] rx0
set_option maxRecDepth 65536 in
set_option maxHeartbeats 40000000 in
theorem rm14_5 (l : Launch) (Z : State) (a0 : Array Value) (hw : ∀ d ∈ tables_1, d.before a0 Z = true) (ws : List Jvm.Cond) (o0 : Addr) (p1 : Int32) (f_o0_value : Addr) (kv : ClassId) (w_COMPACT_STRINGS : Int32) (tst : Addr) (td1 : Addr) (td2 : Addr) (tD1 : Cell) (tD2 : Cell) (h0 : Heap) (n0 : Nat) (Z0 : n0 ≤ h0.size) (F_o0_count : Fld Z h0 o0 "java/lang/AbstractStringBuilder" "count" "I" (.int (5 : Int32))) (F_o0_value : Fld Z h0 o0 "java/lang/AbstractStringBuilder" "value" "[B" (.ref f_o0_value)) (V_f_o0_value : Arv Z h0 f_o0_value kv .byte (16 : Int32) [(.int (104 : Int32)), (.int (116 : Int32)), (.int (116 : Int32)), (.int (112 : Int32)), (.int (45 : Int32)), (.int (0 : Int32)), (.int (0 : Int32)), (.int (0 : Int32)), (.int (0 : Int32)), (.int (0 : Int32)), (.int (0 : Int32)), (.int (0 : Int32)), (.int (0 : Int32)), (.int (0 : Int32)), (.int (0 : Int32)), (.int (0 : Int32))] (.int (0 : Int32))) (F_o0_coder : Fld Z h0 o0 "java/lang/AbstractStringBuilder" "coder" "B" (.int (0 : Int32))) (E_o0 : Exa Z h0 o0 "java/lang/StringBuilder") (S_COMPACT_STRINGS : Sta Z h0 "java/lang/String" "COMPACT_STRINGS" "Z" (.int w_COMPACT_STRINGS)) (hc3_4 : ¬ (w_COMPACT_STRINGS = (0 : Int32))) (Tb : own_tb Z h0 n0 tst td1 td2 tD1 tD2) (g_f_o0_value : n0 ≤ f_o0_value) (ne_f_o0_value_o0 : f_o0_value ≠ o0) (g_o0 : n0 ≤ o0) :
    MetFree l (⟨"java/lang/AbstractStringBuilder", "append", "(I)Ljava/lang/AbstractStringBuilder;"⟩ : MethodName) (head1 (Jvm.Cond.code (⟨"java/lang/AbstractStringBuilder", "append", "(I)Ljava/lang/AbstractStringBuilder;"⟩ : MethodName) jdk_68_method_32_code 4 (some (.object "java/lang/AbstractStringBuilder")) :: ws) ({ frames := 2, cells := 0, slots := 0, locals := 78 } : Room)) (fun a U => a = #[(.ref o0), (.int p1)] ∧ Z.Warmed39 U.vm ∧ U.heap = h0) (fun _ _ _ _ _ => True) (fun _ U o U' => ∃ v L, o = .returned v ∧ Q14_5 Z o0 p1 f_o0_value kv w_COMPACT_STRINGS tst td1 td2 tD1 tD2 h0 n0 v U'.heap L ∧ FrameEnd U o U' L ({ frames := 2, cells := 0, slots := 0, locals := 78 } : Room).cells ({ frames := 2, cells := 0, slots := 0, locals := 78 } : Room).slots) := by
  refine MetFree.of_bodySF (plainFor_of_name pn_java_lang_AbstractStringBuilder) hisR ?_
  intro p e s m args below meth c s₁ Bd hml0 hP hK
  obtain ⟨rfl, hZ, hh⟩ := hP
  have hx := Bd.exec
  have hby := Bd.bytes
  have hml : c.maxLocals = 4 := hml0
  have hown : s.vm.findClass "java/lang/AbstractStringBuilder" = some m.cls := findClass_of_methodNamed Bd.named
  have hnm := (name_of_methodNamed Bd.named Bd.method).1
  have X0 : Stand p l e ({ frames := 2, cells := 0, slots := 0, locals := 78 } : Room) s m #[(.ref o0), (.int p1)] below meth c s₁ [] 0 0 := Stand.of_body Bd
  have e0 : s₁.heap = h0 := by rw [← hh, Bd.state]; rfl
  have N0 := Fr.nil n0
  show Go p e below (fun o U' => ∃ v L, o = .returned v ∧ Q14_5 Z o0 p1 f_o0_value kv w_COMPACT_STRINGS tst td1 td2 tD1 tD2 h0 n0 v U'.heap L ∧ FrameEnd s o U' L ({ frames := 2, cells := 0, slots := 0, locals := 78 } : Room).cells ({ frames := 2, cells := 0, slots := 0, locals := 78 } : Room).slots) (s₁.setTop (entryFrame m #[(.ref o0), (.int p1)] 4))
  refine Go.of (fun _ k => castTop (ef_14 m o0 p1) k) ?_
  show Go p e below _ (s₁.setTop (mkF m 0 #[.val (.ref o0), .val (.int p1), .unset, .unset] []))
  refine Go.of (fun _ k => XS.aloadN X0.here hx rfl (hb hby d14_0) rfl rfl k) ?_
  obtain ⟨T1, X1, e1, st1⟩ := getF X0 hx hZ hown (host := "") (Or.inl (own_h hw 57 rfl)) Via.refl e0 F_o0_count (g := (mkF m 1 #[.val (.ref o0), .val (.int p1), .unset, .unset] [(.ref o0)])) rfl rfl (hb hby d14_1)
  refine Go.of st1 ?_
  show Go p e below _ (T1.setTop (mkF m 4 #[.val (.ref o0), .val (.int p1), .unset, .unset] [(.int (5 : Int32))]))
  refine Go.of (fun _ k => XS.istoreN X1.here hx rfl (hb hby d14_4) rfl (l' := #[.val (.ref o0), .val (.int p1), .val (.int (5 : Int32)), .unset]) rfl k) ?_
  show Go p e below _ (T1.setTop (mkF m 5 #[.val (.ref o0), .val (.int p1), .val (.int (5 : Int32)), .unset] []))
  refine Go.of (fun _ k => XS.iloadN X1.here hx rfl (hb hby d14_5) rfl  k) ?_
  refine Go.of (fun _ k => XS.iloadN X1.here hx rfl (hb hby d14_6) rfl  k) ?_
  obtain ⟨T2, X2, e2, st2⟩ := own_ss X1 hx hZ hown hw e1 (g := (mkF m 7 #[.val (.ref o0), .val (.int p1), .val (.int (5 : Int32)), .unset] [(.int p1), (.int (5 : Int32))])) rfl (by rw [hml]; rfl) rfl (hb hby d14_7) (by decide) (W := 1) (Nat.le_of_eq rfl) (by decide) (by decide) (by decide)
  refine Go.of st2 ?_
  show Go p e below _ (T2.setTop (mkF m 10 #[.val (.ref o0), .val (.int p1), .val (.int (5 : Int32)), .unset] [(.int (strSizeOf p1)), (.int (5 : Int32))]))
  refine Go.of (fun _ k => XS.iadd X2.here hx rfl (hb hby d14_10) rfl k) ?_
  show Go p e below _ (T2.setTop (mkF m 11 #[.val (.ref o0), .val (.int p1), .val (.int (5 : Int32)), .unset] [(.int ((5 : Int32) + (strSizeOf p1)))]))
  rw [own_sz5]
  show Go p e below _ (T2.setTop (mkF m 11 #[.val (.ref o0), .val (.int p1), .val (.int (5 : Int32)), .unset] [(.int (own_sz 5 p1))]))
  refine Go.of (fun _ k => XS.istoreN X2.here hx rfl (hb hby d14_11) rfl (l' := #[.val (.ref o0), .val (.int p1), .val (.int (5 : Int32)), .val (.int (own_sz 5 p1))]) rfl k) ?_
  show Go p e below _ (T2.setTop (mkF m 12 #[.val (.ref o0), .val (.int p1), .val (.int (5 : Int32)), .val (.int (own_sz 5 p1))] []))
  refine Go.of (fun _ k => XS.aloadN X2.here hx rfl (hb hby d14_12) rfl rfl k) ?_
  refine Go.of (fun _ k => XS.iloadN X2.here hx rfl (hb hby d14_13) rfl  k) ?_
  obtain ⟨cq3, q3, q3'⟩ := E_o0.cell
  obtain ⟨_, _, ⟨T3, L3, k3, n3⟩, -, X3, ⟨Lc3, hQ3, l3, y3, z3⟩, st3⟩ := X2.privateBack hx (y := own_y_AbstractStringBuilder_ensureCapacityInternal_5) hown (mvT hZ (own_h hw 59 rfl)) (mvT hZ (own_h hw 60 rfl)) (own_selpriv (mvT hZ (own_h hw 62 rfl)) (Cond.privateMethod_at (mvP hZ (own_h hw 61 rfl) (args := #[]))) (mvT hZ (own_h hw 60 rfl)) (by decide)) (Cond.privateMethod_at (mvP hZ (own_h hw 61 rfl) (args := #[]))) (mvT hZ (own_h hw 63 rfl)) (by decide) (backOf (W := 0) (rm9_n l Z a0 hw [] o0 (own_sz 5 p1) [(.int (104 : Int32)), (.int (116 : Int32)), (.int (116 : Int32)), (.int (112 : Int32)), (.int (45 : Int32)), (.int (0 : Int32)), (.int (0 : Int32)), (.int (0 : Int32)), (.int (0 : Int32)), (.int (0 : Int32)), (.int (0 : Int32)), (.int (0 : Int32)), (.int (0 : Int32)), (.int (0 : Int32)), (.int (0 : Int32)), (.int (0 : Int32))] f_o0_value kv h0 n0 Z0 F_o0_value V_f_o0_value F_o0_coder (own_ng5 p1)) hZ (own_h hw 63 rfl) (own_h hw 16 rfl) (by decide) (by decide)) (g := (mkF m 14 #[.val (.ref o0), .val (.int p1), .val (.int (5 : Int32)), .val (.int (own_sz 5 p1))] [(.int (own_sz 5 p1)), (.ref o0)])) rfl (by rw [hml]; rfl) (Steps.refl _) (a := o0) (by rw [e2]; exact q3) q3' (argsL := [(.int (own_sz 5 p1))]) (rest := []) (lenOf pd_0 rfl) rfl (Nat.le_of_eq rfl) (hb hby d14_14) (fun _ _ => ⟨rfl, e2, (by decide : 0 + 0 ≤ _), (by decide : 0 + 0 ≤ _)⟩)
  dsimp only [Pt.U, Pt.locs, Pt.cells, Pt.slots] at X3 l3 y3 z3 st3 hQ3
  subst l3 y3 z3
  obtain ⟨rfl, Nq3, q3_0⟩ := hQ3
  have N3 := Fr.app N0 Nq3
  refine Go.tr st3 ?_
  show Go p e below _ (T3.setTop (mkF m 17 #[.val (.ref o0), .val (.int p1), .val (.int (5 : Int32)), .val (.int (own_sz 5 p1))] []))
  refine Go.of (fun _ k => XS.aloadN X3.here hx rfl (hb hby d14_17) rfl rfl k) ?_
  obtain ⟨cq4, kq4, q4a, q4b, q4c⟩ := isOf hZ q3_0 E_o0
  obtain ⟨_, _, ⟨T4, L4, k4, n4⟩, -, X4, ⟨Lc4, hQ4, l4, y4, z4⟩, st4⟩ := X3.virtualBack hx (y := own_y_AbstractStringBuilder_isLatin1_13) (z := own_y_AbstractStringBuilder_isLatin1_13) hown (mvT hZ (own_h hw 97 rfl)) (mvT hZ (own_h hw 98 rfl)) (notFace_of_selects (args := #[]) (mvT hZ (own_h hw 100 rfl))) (mvT hZ (own_h hw 100 rfl)) (mvT hZ (own_h hw 99 rfl)) (by decide) (backOf (W := 0) (rm16 l Z a0 hw [] o0 w_COMPACT_STRINGS h0 n0 Z0 S_COMPACT_STRINGS hc3_4 F_o0_coder) hZ (own_h hw 101 rfl) (own_h hw 16 rfl) (by decide) (by decide)) q4a q4c (g := (mkF m 18 #[.val (.ref o0), .val (.int p1), .val (.int (5 : Int32)), .val (.int (own_sz 5 p1))] [(.ref o0)])) rfl (by rw [hml]; rfl) (Steps.refl _) (argsL := []) (rest := []) (lenOf pd_11 rfl) rfl (Nat.le_of_eq rfl) (hb hby d14_18) (fun _ _ => ⟨rfl, q3_0, (by decide : 0 + 0 ≤ _), (by decide : 0 + 0 ≤ _)⟩)
  dsimp only [Pt.U, Pt.locs, Pt.cells, Pt.slots] at X4 l4 y4 z4 st4 hQ4
  subst l4 y4 z4
  obtain ⟨rfl, Nq4, q4_0⟩ := hQ4
  have N4 := Fr.app N3 Nq4
  refine Go.tr st4 ?_
  show Go p e below _ (T4.setTop (mkF m 21 #[.val (.ref o0), .val (.int p1), .val (.int (5 : Int32)), .val (.int (own_sz 5 p1))] [(.int (1 : Int32))]))
  refine Go.of (fun _ k => XS.ifNo X4.here hx rfl (hb hby d14_21) rfl ((if0 _ _).trans (feq (by decide : ¬ ((1 : Int32) = (0 : Int32)))).1) k) ?_
  show Go p e below _ (T4.setTop (mkF m 24 #[.val (.ref o0), .val (.int p1), .val (.int (5 : Int32)), .val (.int (own_sz 5 p1))] []))
  refine Go.of (fun _ k => XS.iloadN X4.here hx rfl (hb hby d14_24) rfl  k) ?_
  refine Go.of (fun _ k => XS.iloadN X4.here hx rfl (hb hby d14_25) rfl  k) ?_
  refine Go.of (fun _ k => XS.aloadN X4.here hx rfl (hb hby d14_26) rfl rfl k) ?_
  obtain ⟨T5, X5, e5, st5⟩ := getF X4 hx hZ hown (host := "") (Or.inl (own_h hw 24 rfl)) Via.refl q4_0 F_o0_value (g := (mkF m 27 #[.val (.ref o0), .val (.int p1), .val (.int (5 : Int32)), .val (.int (own_sz 5 p1))] [(.ref o0), (.int (own_sz 5 p1)), (.int p1)])) rfl rfl (hb hby d14_27)
  refine Go.of st5 ?_
  show Go p e below _ (T5.setTop (mkF m 30 #[.val (.ref o0), .val (.int p1), .val (.int (5 : Int32)), .val (.int (own_sz 5 p1))] [(.ref f_o0_value), (.int (own_sz 5 p1)), (.int p1)]))
  obtain ⟨T6, h6, L6, os6, vv6, X6, e6, N6, q6_0, V6, O6, st6⟩ := own_gc X5 hx hZ hown hw e5 V_f_o0_value Tb N4 g_f_o0_value (b := 5) (x := p1) (own_in5 p1) (g := (mkF m 30 #[.val (.ref o0), .val (.int p1), .val (.int (5 : Int32)), .val (.int (own_sz 5 p1))] [(.ref f_o0_value), (.int (own_sz 5 p1)), (.int p1)])) rfl (by rw [hml]; rfl) rfl (hb hby d14_30) (by decide) (W := 0) (Nat.le_of_eq rfl) (by decide) (by decide) (by decide)
  refine Go.of st6 ?_
  have K6 : Keep h0 h6 [f_o0_value, o0] := ((Keep.refl h0 [f_o0_value, o0])).trans q6_0 (allS (Or.inl (List.mem_of_getElem? (i := 0) rfl)) all0)
  have Z6 : n0 ≤ h6.size := Nat.le_trans Z0 q6_0.1
  show Go p e below _ (T6.setTop (mkF m 33 #[.val (.ref o0), .val (.int p1), .val (.int (5 : Int32)), .val (.int (own_sz 5 p1))] [(.int vv6)]))
  refine Go.of (fun _ k => XS.pop X6.here hx rfl (hb hby d14_33) rfl rfl k) ?_
  show Go p e below _ (T6.setTop (mkF m 34 #[.val (.ref o0), .val (.int p1), .val (.int (5 : Int32)), .val (.int (own_sz 5 p1))] []))
  refine Go.of (fun _ k => XS.goto X6.here hx rfl (pc0 := 34) (pc' := 48) rfl (hb hby d14_34) (by decide) (by decide) k) ?_
  show Go p e below _ (T6.setTop (mkF m 48 #[.val (.ref o0), .val (.int p1), .val (.int (5 : Int32)), .val (.int (own_sz 5 p1))] []))
  refine Go.of (fun _ k => XS.aloadN X6.here hx rfl (hb hby d14_48) rfl rfl k) ?_
  refine Go.of (fun _ k => XS.iloadN X6.here hx rfl (hb hby d14_49) rfl  k) ?_
  have c7 : Fld Z h6 o0 "java/lang/AbstractStringBuilder" "count" "I" (.int (5 : Int32)) := (F_o0_count.keep q6_0 (ninS (Ne.symm ne_f_o0_value_o0) nin0))
  have c8 : Exa Z h6 o0 "java/lang/StringBuilder" := (E_o0.keep q6_0)
  obtain ⟨T9, h9, X9, e9, W9, st9⟩ := putF X6 hx hZ hown (host := "") (Or.inl (own_h hw 57 rfl)) Via.refl e6 c7 c8 (Or.inl (own_h hw 58 rfl)) (own_h hw 7 rfl) (ty := .int) (by decide) rfl rfl (g := (mkF m 50 #[.val (.ref o0), .val (.int p1), .val (.int (5 : Int32)), .val (.int (own_sz 5 p1))] [(.int (own_sz 5 p1)), (.ref o0)])) rfl rfl (hb hby d14_50)
  refine Go.of st9 ?_
  have N9 := Fr.snoc X9 N6 g_o0
  have K9 : Keep h0 h9 [f_o0_value, o0] := (K6).wr W9 (Or.inl (List.mem_of_getElem? (i := 1) rfl))
  have Z9 : n0 ≤ h9.size := Nat.le_trans Z6 (Keep.of_wr W9).1
  have f10 : Fld Z h9 o0 "java/lang/AbstractStringBuilder" "count" "I" (.int (own_sz 5 p1)) := Fld.same W9 c7
  show Go p e below _ (T9.setTop (mkF m 53 #[.val (.ref o0), .val (.int p1), .val (.int (5 : Int32)), .val (.int (own_sz 5 p1))] []))
  refine Go.of (fun _ k => XS.aloadN X9.here hx rfl (hb hby d14_53) rfl rfl k) ?_
  have c12 : Arv Z h9 f_o0_value kv .byte (16 : Int32) os6 (.int (0 : Int32)) := (V6.other W9 ne_f_o0_value_o0)
  have c13 : Exa Z h9 o0 "java/lang/StringBuilder" := (Exa.wr W9 c8)
  have c14 : Fld Z h6 o0 "java/lang/AbstractStringBuilder" "coder" "B" (.int (0 : Int32)) := (F_o0_coder.keep q6_0 (ninS (Ne.symm ne_f_o0_value_o0) nin0))
  have c15 : Fld Z h9 o0 "java/lang/AbstractStringBuilder" "coder" "B" (.int (0 : Int32)) := (Fld.other W9 c14 (Or.inr (slot_ne (Or.inl (own_h hw 27 rfl)) (Or.inl (own_h hw 58 rfl)) (by decide) (t := .byte) (t' := .int) (by decide) (by decide))))
  have c16 : Fld Z h6 o0 "java/lang/AbstractStringBuilder" "value" "[B" (.ref f_o0_value) := (F_o0_value.keep q6_0 (ninS (Ne.symm ne_f_o0_value_o0) nin0))
  have c17 : Fld Z h9 o0 "java/lang/AbstractStringBuilder" "value" "[B" (.ref f_o0_value) := (Fld.other W9 c16 (Or.inr (slot_ne (Or.inl (own_h hw 25 rfl)) (Or.inl (own_h hw 58 rfl)) (by decide) (t := (.array .byte)) (t' := .int) (by decide) (by decide))))
  obtain ⟨fs, hr, hrun, hended, hW, hsame⟩ := X9.leave (v := some (.ref o0)) (fun h => by rw [Bd.returns] at h; cases h)
  refine Go.mk _ _ ?_ hrun hended ⟨_, _, rfl, ?_, ⟨_, rfl⟩, hW, hsame.mono (by decide) (by decide)⟩
  · exact retOut X9 hx Bd.returns rfl (Or.inr (Or.inr (Or.inr (Or.inr ⟨rfl, rfl, rfl⟩)))) (hb hby d14_54) hr
  · show Q14_5 Z o0 p1 f_o0_value kv w_COMPACT_STRINGS tst td1 td2 tD1 tD2 h0 n0 _ T9.heap _
    rw [e9]
    exact ⟨os6, rfl, N9, K9, c12, c13, c15, f10, c17, O6⟩
def Q14_12 (Z : State) (o0 : Addr) (p1 : Int32) (f_o0_value : Addr) (kv : ClassId) (w_COMPACT_STRINGS : Int32) (tst : Addr) (td1 : Addr) (td2 : Addr) (tD1 : Cell) (tD2 : Cell) (h0 : Heap) (n0 : Nat) (v : Option Value) (h : Heap) (L : List Loc) : Prop := ∃ rv : Addr, ∃ rk : ClassId, ∃ rz : Int32, ∃ rs : List Value, v = some (.ref o0) ∧ Fr n0 L ∧ Keep h0 h [o0, f_o0_value] ∧ Exa Z h o0 "java/lang/StringBuilder" ∧ Fld Z h o0 "java/lang/AbstractStringBuilder" "coder" "B" (.int (0 : Int32)) ∧ Fld Z h o0 "java/lang/AbstractStringBuilder" "count" "I" (.int (own_sz 12 p1)) ∧ Fld Z h o0 "java/lang/AbstractStringBuilder" "value" "[B" (.ref rv) ∧ Arv Z h rv rk .byte rz rs (.int (0 : Int32)) ∧ Exa Z h rv "[B" ∧ ¬ (rz < (own_sz 12 p1)) ∧ rz.toNatClampNeg ≤ 34
set_option maxRecDepth 65536 in
set_option maxHeartbeats 40000000 in
theorem rm14_12 (l : Launch) (Z : State) (a0 : Array Value) (hw : ∀ d ∈ tables_1, d.before a0 Z = true) (ws : List Jvm.Cond) (o0 : Addr) (p1 : Int32) (f_o0_value : Addr) (kv : ClassId) (w_COMPACT_STRINGS : Int32) (tst : Addr) (td1 : Addr) (td2 : Addr) (tD1 : Cell) (tD2 : Cell) (h0 : Heap) (n0 : Nat) (Z0 : n0 ≤ h0.size) (F_o0_count : Fld Z h0 o0 "java/lang/AbstractStringBuilder" "count" "I" (.int (12 : Int32))) (F_o0_value : Fld Z h0 o0 "java/lang/AbstractStringBuilder" "value" "[B" (.ref f_o0_value)) (V_f_o0_value : Arv Z h0 f_o0_value kv .byte (16 : Int32) [(.int (72 : Int32)), (.int (84 : Int32)), (.int (84 : Int32)), (.int (80 : Int32)), (.int (32 : Int32)), (.int (115 : Int32)), (.int (116 : Int32)), (.int (97 : Int32)), (.int (116 : Int32)), (.int (117 : Int32)), (.int (115 : Int32)), (.int (32 : Int32)), (.int (0 : Int32)), (.int (0 : Int32)), (.int (0 : Int32)), (.int (0 : Int32))] (.int (0 : Int32))) (F_o0_coder : Fld Z h0 o0 "java/lang/AbstractStringBuilder" "coder" "B" (.int (0 : Int32))) (E_o0 : Exa Z h0 o0 "java/lang/StringBuilder") (g_o0 : n0 ≤ o0) (S_COMPACT_STRINGS : Sta Z h0 "java/lang/String" "COMPACT_STRINGS" "Z" (.int w_COMPACT_STRINGS)) (hc3_5 : ¬ (w_COMPACT_STRINGS = (0 : Int32))) (Tb : own_tb Z h0 n0 tst td1 td2 tD1 tD2) (g_f_o0_value : n0 ≤ f_o0_value) (ne_f_o0_value_o0 : f_o0_value ≠ o0) (E_f_o0_value : Exa Z h0 f_o0_value "[B") :
    MetFree l (⟨"java/lang/AbstractStringBuilder", "append", "(I)Ljava/lang/AbstractStringBuilder;"⟩ : MethodName) (head1 (Jvm.Cond.code (⟨"java/lang/AbstractStringBuilder", "append", "(I)Ljava/lang/AbstractStringBuilder;"⟩ : MethodName) jdk_68_method_32_code 4 (some (.object "java/lang/AbstractStringBuilder")) :: ws) ({ frames := 4, cells := 1, slots := 34, locals := 78 } : Room)) (fun a U => a = #[(.ref o0), (.int p1)] ∧ Z.Warmed39 U.vm ∧ U.heap = h0) (fun _ _ _ _ _ => True) (fun _ U o U' => ∃ v L, o = .returned v ∧ Q14_12 Z o0 p1 f_o0_value kv w_COMPACT_STRINGS tst td1 td2 tD1 tD2 h0 n0 v U'.heap L ∧ FrameEnd U o U' L ({ frames := 4, cells := 1, slots := 34, locals := 78 } : Room).cells ({ frames := 4, cells := 1, slots := 34, locals := 78 } : Room).slots) := by
  refine MetFree.of_bodySF (plainFor_of_name pn_java_lang_AbstractStringBuilder) hisR ?_
  intro p e s m args below meth c s₁ Bd hml0 hP hK
  obtain ⟨rfl, hZ, hh⟩ := hP
  have hx := Bd.exec
  have hby := Bd.bytes
  have hml : c.maxLocals = 4 := hml0
  have hown : s.vm.findClass "java/lang/AbstractStringBuilder" = some m.cls := findClass_of_methodNamed Bd.named
  have hnm := (name_of_methodNamed Bd.named Bd.method).1
  have X0 : Stand p l e ({ frames := 4, cells := 1, slots := 34, locals := 78 } : Room) s m #[(.ref o0), (.int p1)] below meth c s₁ [] 0 0 := Stand.of_body Bd
  have e0 : s₁.heap = h0 := by rw [← hh, Bd.state]; rfl
  have N0 := Fr.nil n0
  show Go p e below (fun o U' => ∃ v L, o = .returned v ∧ Q14_12 Z o0 p1 f_o0_value kv w_COMPACT_STRINGS tst td1 td2 tD1 tD2 h0 n0 v U'.heap L ∧ FrameEnd s o U' L ({ frames := 4, cells := 1, slots := 34, locals := 78 } : Room).cells ({ frames := 4, cells := 1, slots := 34, locals := 78 } : Room).slots) (s₁.setTop (entryFrame m #[(.ref o0), (.int p1)] 4))
  refine Go.of (fun _ k => castTop (ef_14 m o0 p1) k) ?_
  show Go p e below _ (s₁.setTop (mkF m 0 #[.val (.ref o0), .val (.int p1), .unset, .unset] []))
  refine Go.of (fun _ k => XS.aloadN X0.here hx rfl (hb hby d14_0) rfl rfl k) ?_
  obtain ⟨T1, X1, e1, st1⟩ := getF X0 hx hZ hown (host := "") (Or.inl (own_h hw 57 rfl)) Via.refl e0 F_o0_count (g := (mkF m 1 #[.val (.ref o0), .val (.int p1), .unset, .unset] [(.ref o0)])) rfl rfl (hb hby d14_1)
  refine Go.of st1 ?_
  show Go p e below _ (T1.setTop (mkF m 4 #[.val (.ref o0), .val (.int p1), .unset, .unset] [(.int (12 : Int32))]))
  refine Go.of (fun _ k => XS.istoreN X1.here hx rfl (hb hby d14_4) rfl (l' := #[.val (.ref o0), .val (.int p1), .val (.int (12 : Int32)), .unset]) rfl k) ?_
  show Go p e below _ (T1.setTop (mkF m 5 #[.val (.ref o0), .val (.int p1), .val (.int (12 : Int32)), .unset] []))
  refine Go.of (fun _ k => XS.iloadN X1.here hx rfl (hb hby d14_5) rfl  k) ?_
  refine Go.of (fun _ k => XS.iloadN X1.here hx rfl (hb hby d14_6) rfl  k) ?_
  obtain ⟨T2, X2, e2, st2⟩ := own_ss X1 hx hZ hown hw e1 (g := (mkF m 7 #[.val (.ref o0), .val (.int p1), .val (.int (12 : Int32)), .unset] [(.int p1), (.int (12 : Int32))])) rfl (by rw [hml]; rfl) rfl (hb hby d14_7) (by decide) (W := 1) (Nat.le_of_eq rfl) (by decide) (by decide) (by decide)
  refine Go.of st2 ?_
  show Go p e below _ (T2.setTop (mkF m 10 #[.val (.ref o0), .val (.int p1), .val (.int (12 : Int32)), .unset] [(.int (strSizeOf p1)), (.int (12 : Int32))]))
  refine Go.of (fun _ k => XS.iadd X2.here hx rfl (hb hby d14_10) rfl k) ?_
  show Go p e below _ (T2.setTop (mkF m 11 #[.val (.ref o0), .val (.int p1), .val (.int (12 : Int32)), .unset] [(.int ((12 : Int32) + (strSizeOf p1)))]))
  rw [own_sz12]
  show Go p e below _ (T2.setTop (mkF m 11 #[.val (.ref o0), .val (.int p1), .val (.int (12 : Int32)), .unset] [(.int (own_sz 12 p1))]))
  refine Go.of (fun _ k => XS.istoreN X2.here hx rfl (hb hby d14_11) rfl (l' := #[.val (.ref o0), .val (.int p1), .val (.int (12 : Int32)), .val (.int (own_sz 12 p1))]) rfl k) ?_
  show Go p e below _ (T2.setTop (mkF m 12 #[.val (.ref o0), .val (.int p1), .val (.int (12 : Int32)), .val (.int (own_sz 12 p1))] []))
  refine Go.of (fun _ k => XS.aloadN X2.here hx rfl (hb hby d14_12) rfl rfl k) ?_
  refine Go.of (fun _ k => XS.iloadN X2.here hx rfl (hb hby d14_13) rfl  k) ?_
  by_cases hs3 : (0 : Int32) < ((own_sz 12 p1) - (16 : Int32))
  ·
    show Go p e below _ (T2.setTop (mkF m 14 #[.val (.ref o0), .val (.int p1), .val (.int (12 : Int32)), .val (.int (own_sz 12 p1))] [(.int (own_sz 12 p1)), (.ref o0)]))
    obtain ⟨cq4, q4, q4'⟩ := E_o0.cell
    obtain ⟨_, _, ⟨T4, L4, k4, n4⟩, -, X4, ⟨Lc4, hQ4, l4, y4, z4⟩, st4⟩ := X2.privateBack hx (y := own_y_AbstractStringBuilder_ensureCapacityInternal_5) hown (mvT hZ (own_h hw 59 rfl)) (mvT hZ (own_h hw 60 rfl)) (own_selpriv (mvT hZ (own_h hw 62 rfl)) (Cond.privateMethod_at (mvP hZ (own_h hw 61 rfl) (args := #[]))) (mvT hZ (own_h hw 60 rfl)) (by decide)) (Cond.privateMethod_at (mvP hZ (own_h hw 61 rfl) (args := #[]))) (mvT hZ (own_h hw 63 rfl)) (by decide) (backOf (W := 0) (rm9_g l Z a0 hw [] o0 (own_sz 12 p1) (.int (12 : Int32)) f_o0_value kv h0 n0 Z0 F_o0_count F_o0_value V_f_o0_value F_o0_coder hs3 (own_gr12 p1) E_o0 g_o0) hZ (own_h hw 63 rfl) (own_h hw 16 rfl) (by decide) (by decide)) (g := (mkF m 14 #[.val (.ref o0), .val (.int p1), .val (.int (12 : Int32)), .val (.int (own_sz 12 p1))] [(.int (own_sz 12 p1)), (.ref o0)])) rfl (by rw [hml]; rfl) (Steps.refl _) (a := o0) (by rw [e2]; exact q4) q4' (argsL := [(.int (own_sz 12 p1))]) (rest := []) (lenOf pd_0 rfl) rfl (Nat.le_of_eq rfl) (hb hby d14_14) (fun _ _ => ⟨rfl, e2, (by decide : 0 + 1 ≤ _), (by decide : 0 + 34 ≤ _)⟩)
    dsimp only [Pt.U, Pt.locs, Pt.cells, Pt.slots] at X4 l4 y4 z4 st4 hQ4
    subst l4 y4 z4
    obtain ⟨r0_4, rk1_4, rfl, Nq4, q4_0, q4_1, q4_2, q4_3, q4_4, q4_5, q4_6, q4_7⟩ := hQ4
    have N4 := Fr.app N0 Nq4
    refine Go.tr st4 ?_
    have K4 : Keep h0 T4.heap [o0, f_o0_value] := ((Keep.refl h0 [o0, f_o0_value])).trans q4_0 (allS (Or.inl (List.mem_of_getElem? (i := 0) rfl)) all0)
    have Z4 : n0 ≤ T4.heap.size := Nat.le_trans Z0 q4_0.1
    have g_r0_4 : n0 ≤ r0_4 := q4_5.2
    have sz_r0_4 : h0.size ≤ r0_4 := Nat.le_trans ((Keep.refl h0 [o0, f_o0_value])).1 q4_5.1
    show Go p e below _ (T4.setTop (mkF m 17 #[.val (.ref o0), .val (.int p1), .val (.int (12 : Int32)), .val (.int (own_sz 12 p1))] []))
    refine Go.of (fun _ k => XS.aloadN X4.here hx rfl (hb hby d14_17) rfl rfl k) ?_
    have c6 : Sta Z T4.heap "java/lang/String" "COMPACT_STRINGS" "Z" (.int w_COMPACT_STRINGS) := (own_Sta_keep S_COMPACT_STRINGS q4_0 (own_pS (own_plainE E_o0) own_p0))
    obtain ⟨cq5, kq5, q5a, q5b, q5c⟩ := isOf hZ rfl q4_1
    obtain ⟨_, _, ⟨T5, L5, k5, n5⟩, -, X5, ⟨Lc5, hQ5, l5, y5, z5⟩, st5⟩ := X4.virtualBack hx (y := own_y_AbstractStringBuilder_isLatin1_13) (z := own_y_AbstractStringBuilder_isLatin1_13) hown (mvT hZ (own_h hw 97 rfl)) (mvT hZ (own_h hw 98 rfl)) (notFace_of_selects (args := #[]) (mvT hZ (own_h hw 100 rfl))) (mvT hZ (own_h hw 100 rfl)) (mvT hZ (own_h hw 99 rfl)) (by decide) (backOf (W := 0) (rm16 l Z a0 hw [] o0 w_COMPACT_STRINGS T4.heap n0 Z4 c6 hc3_5 q4_2) hZ (own_h hw 101 rfl) (own_h hw 16 rfl) (by decide) (by decide)) q5a q5c (g := (mkF m 18 #[.val (.ref o0), .val (.int p1), .val (.int (12 : Int32)), .val (.int (own_sz 12 p1))] [(.ref o0)])) rfl (by rw [hml]; rfl) (Steps.refl _) (argsL := []) (rest := []) (lenOf pd_11 rfl) rfl (Nat.le_of_eq rfl) (hb hby d14_18) (fun _ _ => ⟨rfl, rfl, (by decide : 1 + 0 ≤ _), (by decide : 34 + 0 ≤ _)⟩)
    dsimp only [Pt.U, Pt.locs, Pt.cells, Pt.slots] at X5 l5 y5 z5 st5 hQ5
    subst l5 y5 z5
    obtain ⟨rfl, Nq5, q5_0⟩ := hQ5
    have N5 := Fr.app N4 Nq5
    refine Go.tr st5 ?_
    show Go p e below _ (T5.setTop (mkF m 21 #[.val (.ref o0), .val (.int p1), .val (.int (12 : Int32)), .val (.int (own_sz 12 p1))] [(.int (1 : Int32))]))
    refine Go.of (fun _ k => XS.ifNo X5.here hx rfl (hb hby d14_21) rfl ((if0 _ _).trans (feq (by decide : ¬ ((1 : Int32) = (0 : Int32)))).1) k) ?_
    show Go p e below _ (T5.setTop (mkF m 24 #[.val (.ref o0), .val (.int p1), .val (.int (12 : Int32)), .val (.int (own_sz 12 p1))] []))
    refine Go.of (fun _ k => XS.iloadN X5.here hx rfl (hb hby d14_24) rfl  k) ?_
    refine Go.of (fun _ k => XS.iloadN X5.here hx rfl (hb hby d14_25) rfl  k) ?_
    refine Go.of (fun _ k => XS.aloadN X5.here hx rfl (hb hby d14_26) rfl rfl k) ?_
    obtain ⟨T7, X7, e7, st7⟩ := getF X5 hx hZ hown (host := "") (Or.inl (own_h hw 24 rfl)) Via.refl q5_0 q4_4 (g := (mkF m 27 #[.val (.ref o0), .val (.int p1), .val (.int (12 : Int32)), .val (.int (own_sz 12 p1))] [(.ref o0), (.int (own_sz 12 p1)), (.int p1)])) rfl rfl (hb hby d14_27)
    refine Go.of st7 ?_
    show Go p e below _ (T7.setTop (mkF m 30 #[.val (.ref o0), .val (.int p1), .val (.int (12 : Int32)), .val (.int (own_sz 12 p1))] [(.ref r0_4), (.int (own_sz 12 p1)), (.int p1)]))
    have c8 : own_tb Z T4.heap n0 tst td1 td2 tD1 tD2 := (own_tb_keep Tb q4_0 (own_nS g_o0 own_n0))
    obtain ⟨T9, h9, L9, os9, vv9, X9, e9, N9, q9_0, V9, O9, st9⟩ := own_gc X7 hx hZ hown hw e7 q4_6 c8 N5 g_r0_4 (b := 12) (x := p1) (own_in12b p1) (g := (mkF m 30 #[.val (.ref o0), .val (.int p1), .val (.int (12 : Int32)), .val (.int (own_sz 12 p1))] [(.ref r0_4), (.int (own_sz 12 p1)), (.int p1)])) rfl (by rw [hml]; rfl) rfl (hb hby d14_30) (by decide) (W := 0) (Nat.le_of_eq rfl) (by decide) (by decide) (by decide)
    refine Go.of st9 ?_
    have K9 : Keep h0 h9 [o0, f_o0_value] := (K4).trans q9_0 (allS (Or.inr sz_r0_4) all0)
    have Z9 : n0 ≤ h9.size := Nat.le_trans Z4 q9_0.1
    show Go p e below _ (T9.setTop (mkF m 33 #[.val (.ref o0), .val (.int p1), .val (.int (12 : Int32)), .val (.int (own_sz 12 p1))] [(.int vv9)]))
    refine Go.of (fun _ k => XS.pop X9.here hx rfl (hb hby d14_33) rfl rfl k) ?_
    show Go p e below _ (T9.setTop (mkF m 34 #[.val (.ref o0), .val (.int p1), .val (.int (12 : Int32)), .val (.int (own_sz 12 p1))] []))
    refine Go.of (fun _ k => XS.goto X9.here hx rfl (pc0 := 34) (pc' := 48) rfl (hb hby d14_34) (by decide) (by decide) k) ?_
    show Go p e below _ (T9.setTop (mkF m 48 #[.val (.ref o0), .val (.int p1), .val (.int (12 : Int32)), .val (.int (own_sz 12 p1))] []))
    refine Go.of (fun _ k => XS.aloadN X9.here hx rfl (hb hby d14_48) rfl rfl k) ?_
    refine Go.of (fun _ k => XS.iloadN X9.here hx rfl (hb hby d14_49) rfl  k) ?_
    have c10 : Fld Z h9 o0 "java/lang/AbstractStringBuilder" "count" "I" (.int (12 : Int32)) := (q4_3.keep q9_0 (ninS (Nat.ne_of_lt (Nat.lt_of_lt_of_le E_o0.lt q4_5.1)) nin0))
    have c11 : Exa Z h9 o0 "java/lang/StringBuilder" := (q4_1.keep q9_0)
    obtain ⟨T12, h12, X12, e12, W12, st12⟩ := putF X9 hx hZ hown (host := "") (Or.inl (own_h hw 57 rfl)) Via.refl e9 c10 c11 (Or.inl (own_h hw 58 rfl)) (own_h hw 7 rfl) (ty := .int) (by decide) rfl rfl (g := (mkF m 50 #[.val (.ref o0), .val (.int p1), .val (.int (12 : Int32)), .val (.int (own_sz 12 p1))] [(.int (own_sz 12 p1)), (.ref o0)])) rfl rfl (hb hby d14_50)
    refine Go.of st12 ?_
    have N12 := Fr.snoc X12 N9 g_o0
    have K12 : Keep h0 h12 [o0, f_o0_value] := (K9).wr W12 (Or.inl (List.mem_of_getElem? (i := 0) rfl))
    have Z12 : n0 ≤ h12.size := Nat.le_trans Z9 (Keep.of_wr W12).1
    have f13 : Fld Z h12 o0 "java/lang/AbstractStringBuilder" "count" "I" (.int (own_sz 12 p1)) := Fld.same W12 c10
    show Go p e below _ (T12.setTop (mkF m 53 #[.val (.ref o0), .val (.int p1), .val (.int (12 : Int32)), .val (.int (own_sz 12 p1))] []))
    refine Go.of (fun _ k => XS.aloadN X12.here hx rfl (hb hby d14_53) rfl rfl k) ?_
    have c15 : Exa Z h12 o0 "java/lang/StringBuilder" := (Exa.wr W12 c11)
    have c16 : Fld Z h9 o0 "java/lang/AbstractStringBuilder" "coder" "B" (.int (0 : Int32)) := (q4_2.keep q9_0 (ninS (Nat.ne_of_lt (Nat.lt_of_lt_of_le E_o0.lt q4_5.1)) nin0))
    have c17 : Fld Z h12 o0 "java/lang/AbstractStringBuilder" "coder" "B" (.int (0 : Int32)) := (Fld.other W12 c16 (Or.inr (slot_ne (Or.inl (own_h hw 27 rfl)) (Or.inl (own_h hw 58 rfl)) (by decide) (t := .byte) (t' := .int) (by decide) (by decide))))
    have c18 : Fld Z h9 o0 "java/lang/AbstractStringBuilder" "value" "[B" (.ref r0_4) := (q4_4.keep q9_0 (ninS (Nat.ne_of_lt (Nat.lt_of_lt_of_le E_o0.lt q4_5.1)) nin0))
    have c19 : Fld Z h12 o0 "java/lang/AbstractStringBuilder" "value" "[B" (.ref r0_4) := (Fld.other W12 c18 (Or.inr (slot_ne (Or.inl (own_h hw 25 rfl)) (Or.inl (own_h hw 58 rfl)) (by decide) (t := (.array .byte)) (t' := .int) (by decide) (by decide))))
    have c20 : Arv Z h12 r0_4 rk1_4 .byte (34 : Int32) os9 (.int (0 : Int32)) := (V9.other W12 (Ne.symm (Nat.ne_of_lt (Nat.lt_of_lt_of_le E_o0.lt q4_5.1))))
    have c21 : Exa Z h9 r0_4 "[B" := (q4_7.keep q9_0)
    have c22 : Exa Z h12 r0_4 "[B" := (Exa.wr W12 c21)
    obtain ⟨fs, hr, hrun, hended, hW, hsame⟩ := X12.leave (v := some (.ref o0)) (fun h => by rw [Bd.returns] at h; cases h)
    refine Go.mk _ _ ?_ hrun hended ⟨_, _, rfl, ?_, ⟨_, rfl⟩, hW, hsame.mono (by decide) (by decide)⟩
    · exact retOut X12 hx Bd.returns rfl (Or.inr (Or.inr (Or.inr (Or.inr ⟨rfl, rfl, rfl⟩)))) (hb hby d14_54) hr
    · show Q14_12 Z o0 p1 f_o0_value kv w_COMPACT_STRINGS tst td1 td2 tD1 tD2 h0 n0 _ T12.heap _
      rw [e12]
      exact ⟨r0_4, rk1_4, (34 : Int32), os9, rfl, N12, K12, c15, c17, f13, c19, c20, c22, (own_zz (by decide) p1 _ (own_in12b p1)), (by decide)⟩
  ·
    show Go p e below _ (T2.setTop (mkF m 14 #[.val (.ref o0), .val (.int p1), .val (.int (12 : Int32)), .val (.int (own_sz 12 p1))] [(.int (own_sz 12 p1)), (.ref o0)]))
    obtain ⟨cq23, q23, q23'⟩ := E_o0.cell
    obtain ⟨_, _, ⟨T23, L23, k23, n23⟩, -, X23, ⟨Lc23, hQ23, l23, y23, z23⟩, st23⟩ := X2.privateBack hx (y := own_y_AbstractStringBuilder_ensureCapacityInternal_5) hown (mvT hZ (own_h hw 59 rfl)) (mvT hZ (own_h hw 60 rfl)) (own_selpriv (mvT hZ (own_h hw 62 rfl)) (Cond.privateMethod_at (mvP hZ (own_h hw 61 rfl) (args := #[]))) (mvT hZ (own_h hw 60 rfl)) (by decide)) (Cond.privateMethod_at (mvP hZ (own_h hw 61 rfl) (args := #[]))) (mvT hZ (own_h hw 63 rfl)) (by decide) (backOf (W := 0) (rm9_n l Z a0 hw [] o0 (own_sz 12 p1) [(.int (72 : Int32)), (.int (84 : Int32)), (.int (84 : Int32)), (.int (80 : Int32)), (.int (32 : Int32)), (.int (115 : Int32)), (.int (116 : Int32)), (.int (97 : Int32)), (.int (116 : Int32)), (.int (117 : Int32)), (.int (115 : Int32)), (.int (32 : Int32)), (.int (0 : Int32)), (.int (0 : Int32)), (.int (0 : Int32)), (.int (0 : Int32))] f_o0_value kv h0 n0 Z0 F_o0_value V_f_o0_value F_o0_coder hs3) hZ (own_h hw 63 rfl) (own_h hw 16 rfl) (by decide) (by decide)) (g := (mkF m 14 #[.val (.ref o0), .val (.int p1), .val (.int (12 : Int32)), .val (.int (own_sz 12 p1))] [(.int (own_sz 12 p1)), (.ref o0)])) rfl (by rw [hml]; rfl) (Steps.refl _) (a := o0) (by rw [e2]; exact q23) q23' (argsL := [(.int (own_sz 12 p1))]) (rest := []) (lenOf pd_0 rfl) rfl (Nat.le_of_eq rfl) (hb hby d14_14) (fun _ _ => ⟨rfl, e2, (by decide : 0 + 0 ≤ _), (by decide : 0 + 0 ≤ _)⟩)
    dsimp only [Pt.U, Pt.locs, Pt.cells, Pt.slots] at X23 l23 y23 z23 st23 hQ23
    subst l23 y23 z23
    obtain ⟨rfl, Nq23, q23_0⟩ := hQ23
    have N23 := Fr.app N0 Nq23
    refine Go.tr st23 ?_
    show Go p e below _ (T23.setTop (mkF m 17 #[.val (.ref o0), .val (.int p1), .val (.int (12 : Int32)), .val (.int (own_sz 12 p1))] []))
    refine Go.of (fun _ k => XS.aloadN X23.here hx rfl (hb hby d14_17) rfl rfl k) ?_
    obtain ⟨cq24, kq24, q24a, q24b, q24c⟩ := isOf hZ q23_0 E_o0
    obtain ⟨_, _, ⟨T24, L24, k24, n24⟩, -, X24, ⟨Lc24, hQ24, l24, y24, z24⟩, st24⟩ := X23.virtualBack hx (y := own_y_AbstractStringBuilder_isLatin1_13) (z := own_y_AbstractStringBuilder_isLatin1_13) hown (mvT hZ (own_h hw 97 rfl)) (mvT hZ (own_h hw 98 rfl)) (notFace_of_selects (args := #[]) (mvT hZ (own_h hw 100 rfl))) (mvT hZ (own_h hw 100 rfl)) (mvT hZ (own_h hw 99 rfl)) (by decide) (backOf (W := 0) (rm16 l Z a0 hw [] o0 w_COMPACT_STRINGS h0 n0 Z0 S_COMPACT_STRINGS hc3_5 F_o0_coder) hZ (own_h hw 101 rfl) (own_h hw 16 rfl) (by decide) (by decide)) q24a q24c (g := (mkF m 18 #[.val (.ref o0), .val (.int p1), .val (.int (12 : Int32)), .val (.int (own_sz 12 p1))] [(.ref o0)])) rfl (by rw [hml]; rfl) (Steps.refl _) (argsL := []) (rest := []) (lenOf pd_11 rfl) rfl (Nat.le_of_eq rfl) (hb hby d14_18) (fun _ _ => ⟨rfl, q23_0, (by decide : 0 + 0 ≤ _), (by decide : 0 + 0 ≤ _)⟩)
    dsimp only [Pt.U, Pt.locs, Pt.cells, Pt.slots] at X24 l24 y24 z24 st24 hQ24
    subst l24 y24 z24
    obtain ⟨rfl, Nq24, q24_0⟩ := hQ24
    have N24 := Fr.app N23 Nq24
    refine Go.tr st24 ?_
    show Go p e below _ (T24.setTop (mkF m 21 #[.val (.ref o0), .val (.int p1), .val (.int (12 : Int32)), .val (.int (own_sz 12 p1))] [(.int (1 : Int32))]))
    refine Go.of (fun _ k => XS.ifNo X24.here hx rfl (hb hby d14_21) rfl ((if0 _ _).trans (feq (by decide : ¬ ((1 : Int32) = (0 : Int32)))).1) k) ?_
    show Go p e below _ (T24.setTop (mkF m 24 #[.val (.ref o0), .val (.int p1), .val (.int (12 : Int32)), .val (.int (own_sz 12 p1))] []))
    refine Go.of (fun _ k => XS.iloadN X24.here hx rfl (hb hby d14_24) rfl  k) ?_
    refine Go.of (fun _ k => XS.iloadN X24.here hx rfl (hb hby d14_25) rfl  k) ?_
    refine Go.of (fun _ k => XS.aloadN X24.here hx rfl (hb hby d14_26) rfl rfl k) ?_
    obtain ⟨T25, X25, e25, st25⟩ := getF X24 hx hZ hown (host := "") (Or.inl (own_h hw 24 rfl)) Via.refl q24_0 F_o0_value (g := (mkF m 27 #[.val (.ref o0), .val (.int p1), .val (.int (12 : Int32)), .val (.int (own_sz 12 p1))] [(.ref o0), (.int (own_sz 12 p1)), (.int p1)])) rfl rfl (hb hby d14_27)
    refine Go.of st25 ?_
    show Go p e below _ (T25.setTop (mkF m 30 #[.val (.ref o0), .val (.int p1), .val (.int (12 : Int32)), .val (.int (own_sz 12 p1))] [(.ref f_o0_value), (.int (own_sz 12 p1)), (.int p1)]))
    obtain ⟨T26, h26, L26, os26, vv26, X26, e26, N26, q26_0, V26, O26, st26⟩ := own_gc X25 hx hZ hown hw e25 V_f_o0_value Tb N24 g_f_o0_value (b := 12) (x := p1) (own_in12a p1 hs3) (g := (mkF m 30 #[.val (.ref o0), .val (.int p1), .val (.int (12 : Int32)), .val (.int (own_sz 12 p1))] [(.ref f_o0_value), (.int (own_sz 12 p1)), (.int p1)])) rfl (by rw [hml]; rfl) rfl (hb hby d14_30) (by decide) (W := 0) (Nat.le_of_eq rfl) (by decide) (by decide) (by decide)
    refine Go.of st26 ?_
    have K26 : Keep h0 h26 [o0, f_o0_value] := ((Keep.refl h0 [o0, f_o0_value])).trans q26_0 (allS (Or.inl (List.mem_of_getElem? (i := 1) rfl)) all0)
    have Z26 : n0 ≤ h26.size := Nat.le_trans Z0 q26_0.1
    show Go p e below _ (T26.setTop (mkF m 33 #[.val (.ref o0), .val (.int p1), .val (.int (12 : Int32)), .val (.int (own_sz 12 p1))] [(.int vv26)]))
    refine Go.of (fun _ k => XS.pop X26.here hx rfl (hb hby d14_33) rfl rfl k) ?_
    show Go p e below _ (T26.setTop (mkF m 34 #[.val (.ref o0), .val (.int p1), .val (.int (12 : Int32)), .val (.int (own_sz 12 p1))] []))
    refine Go.of (fun _ k => XS.goto X26.here hx rfl (pc0 := 34) (pc' := 48) rfl (hb hby d14_34) (by decide) (by decide) k) ?_
    show Go p e below _ (T26.setTop (mkF m 48 #[.val (.ref o0), .val (.int p1), .val (.int (12 : Int32)), .val (.int (own_sz 12 p1))] []))
    refine Go.of (fun _ k => XS.aloadN X26.here hx rfl (hb hby d14_48) rfl rfl k) ?_
    refine Go.of (fun _ k => XS.iloadN X26.here hx rfl (hb hby d14_49) rfl  k) ?_
    have c27 : Fld Z h26 o0 "java/lang/AbstractStringBuilder" "count" "I" (.int (12 : Int32)) := (F_o0_count.keep q26_0 (ninS (Ne.symm ne_f_o0_value_o0) nin0))
    have c28 : Exa Z h26 o0 "java/lang/StringBuilder" := (E_o0.keep q26_0)
    obtain ⟨T29, h29, X29, e29, W29, st29⟩ := putF X26 hx hZ hown (host := "") (Or.inl (own_h hw 57 rfl)) Via.refl e26 c27 c28 (Or.inl (own_h hw 58 rfl)) (own_h hw 7 rfl) (ty := .int) (by decide) rfl rfl (g := (mkF m 50 #[.val (.ref o0), .val (.int p1), .val (.int (12 : Int32)), .val (.int (own_sz 12 p1))] [(.int (own_sz 12 p1)), (.ref o0)])) rfl rfl (hb hby d14_50)
    refine Go.of st29 ?_
    have N29 := Fr.snoc X29 N26 g_o0
    have K29 : Keep h0 h29 [o0, f_o0_value] := (K26).wr W29 (Or.inl (List.mem_of_getElem? (i := 0) rfl))
    have Z29 : n0 ≤ h29.size := Nat.le_trans Z26 (Keep.of_wr W29).1
    have f30 : Fld Z h29 o0 "java/lang/AbstractStringBuilder" "count" "I" (.int (own_sz 12 p1)) := Fld.same W29 c27
    show Go p e below _ (T29.setTop (mkF m 53 #[.val (.ref o0), .val (.int p1), .val (.int (12 : Int32)), .val (.int (own_sz 12 p1))] []))
    refine Go.of (fun _ k => XS.aloadN X29.here hx rfl (hb hby d14_53) rfl rfl k) ?_
    have c32 : Exa Z h29 o0 "java/lang/StringBuilder" := (Exa.wr W29 c28)
    have c33 : Fld Z h26 o0 "java/lang/AbstractStringBuilder" "coder" "B" (.int (0 : Int32)) := (F_o0_coder.keep q26_0 (ninS (Ne.symm ne_f_o0_value_o0) nin0))
    have c34 : Fld Z h29 o0 "java/lang/AbstractStringBuilder" "coder" "B" (.int (0 : Int32)) := (Fld.other W29 c33 (Or.inr (slot_ne (Or.inl (own_h hw 27 rfl)) (Or.inl (own_h hw 58 rfl)) (by decide) (t := .byte) (t' := .int) (by decide) (by decide))))
    have c35 : Fld Z h26 o0 "java/lang/AbstractStringBuilder" "value" "[B" (.ref f_o0_value) := (F_o0_value.keep q26_0 (ninS (Ne.symm ne_f_o0_value_o0) nin0))
    have c36 : Fld Z h29 o0 "java/lang/AbstractStringBuilder" "value" "[B" (.ref f_o0_value) := (Fld.other W29 c35 (Or.inr (slot_ne (Or.inl (own_h hw 25 rfl)) (Or.inl (own_h hw 58 rfl)) (by decide) (t := (.array .byte)) (t' := .int) (by decide) (by decide))))
    have c37 : Arv Z h29 f_o0_value kv .byte (16 : Int32) os26 (.int (0 : Int32)) := (V26.other W29 ne_f_o0_value_o0)
    have c38 : Exa Z h26 f_o0_value "[B" := (E_f_o0_value.keep q26_0)
    have c39 : Exa Z h29 f_o0_value "[B" := (Exa.wr W29 c38)
    obtain ⟨fs, hr, hrun, hended, hW, hsame⟩ := X29.leave (v := some (.ref o0)) (fun h => by rw [Bd.returns] at h; cases h)
    refine Go.mk _ _ ?_ hrun hended ⟨_, _, rfl, ?_, ⟨_, rfl⟩, hW, hsame.mono (by decide) (by decide)⟩
    · exact retOut X29 hx Bd.returns rfl (Or.inr (Or.inr (Or.inr (Or.inr ⟨rfl, rfl, rfl⟩)))) (hb hby d14_54) hr
    · show Q14_12 Z o0 p1 f_o0_value kv w_COMPACT_STRINGS tst td1 td2 tD1 tD2 h0 n0 _ T29.heap _
      rw [e29]
      exact ⟨f_o0_value, kv, (16 : Int32), os26, rfl, N29, K29, c32, c34, f30, c36, c37, c39, (own_zz (by decide) p1 _ (own_in12a p1 hs3)), (by decide)⟩
theorem d13_0 : decode jdk_67_method_15_code 0 = .ok (.aload_n 0, 1) := by decide +kernel
theorem d13_1 : decode jdk_67_method_15_code 1 = .ok (.iload_n 1, 1) := by decide +kernel
theorem d13_2 : decode jdk_67_method_15_code 2 = .ok (.invokespecial 53, 3) := by decide +kernel
theorem pd_12 : parseMethodDescriptor "(I)Ljava/lang/AbstractStringBuilder;" = some ⟨[.int], some (.object "java/lang/AbstractStringBuilder")⟩ := by decide +kernel
abbrev own_y_AbstractStringBuilder_append_14 : MethodName := ⟨"java/lang/AbstractStringBuilder", "append", "(I)Ljava/lang/AbstractStringBuilder;"⟩
theorem d13_5 : decode jdk_67_method_15_code 5 = .ok (.pop, 1) := by decide +kernel
theorem d13_6 : decode jdk_67_method_15_code 6 = .ok (.aload_n 0, 1) := by decide +kernel
theorem d13_7 : decode jdk_67_method_15_code 7 = .ok (.areturn, 1) := by decide +kernel
theorem ef_13 (m : MethodId) (x0 : Addr) (x1 : Int32) : entryFrame m #[(.ref x0), (.int x1)] 2 = mkF m 0 #[.val (.ref x0), .val (.int x1)] [] := by first | (simp [entryFrame, mkF, argsToLocals, Value.category]; done) | rfl
def Q13_5 (Z : State) (o0 : Addr) (p1 : Int32) (f_o0_value : Addr) (kv : ClassId) (w_COMPACT_STRINGS : Int32) (tst : Addr) (td1 : Addr) (td2 : Addr) (tD1 : Cell) (tD2 : Cell) (h0 : Heap) (n0 : Nat) (v : Option Value) (h : Heap) (L : List Loc) : Prop := ∃ rx0 : List Value, v = some (.ref o0) ∧ Fr n0 L ∧ Keep h0 h [f_o0_value, o0] ∧ Arv Z h f_o0_value kv .byte (16 : Int32) rx0 (.int (0 : Int32)) ∧ Exa Z h o0 "java/lang/StringBuilder" ∧ Fld Z h o0 "java/lang/AbstractStringBuilder" "coder" "B" (.int (0 : Int32)) ∧ Fld Z h o0 "java/lang/AbstractStringBuilder" "count" "I" (.int (own_sz 5 p1)) ∧ Fld Z h o0 "java/lang/AbstractStringBuilder" "value" "[B" (.ref f_o0_value) ∧ own_out 5 p1 [(.int (104 : Int32)), (.int (116 : Int32)), (.int (116 : Int32)), (.int (112 : Int32)), (.int (45 : Int32)), (.int (0 : Int32)), (.int (0 : Int32)), (.int (0 : Int32)), (.int (0 : Int32)), (.int (0 : Int32)), (.int (0 : Int32)), (.int (0 : Int32)), (.int (0 : Int32)), (.int (0 : Int32)), (.int (0 : Int32)), (.int (0 : Int32))] rx0
set_option maxRecDepth 65536 in
set_option maxHeartbeats 40000000 in
theorem rm13_5 (l : Launch) (Z : State) (a0 : Array Value) (hw : ∀ d ∈ tables_1, d.before a0 Z = true) (ws : List Jvm.Cond) (o0 : Addr) (p1 : Int32) (f_o0_value : Addr) (kv : ClassId) (w_COMPACT_STRINGS : Int32) (tst : Addr) (td1 : Addr) (td2 : Addr) (tD1 : Cell) (tD2 : Cell) (h0 : Heap) (n0 : Nat) (Z0 : n0 ≤ h0.size) (F_o0_count : Fld Z h0 o0 "java/lang/AbstractStringBuilder" "count" "I" (.int (5 : Int32))) (F_o0_value : Fld Z h0 o0 "java/lang/AbstractStringBuilder" "value" "[B" (.ref f_o0_value)) (V_f_o0_value : Arv Z h0 f_o0_value kv .byte (16 : Int32) [(.int (104 : Int32)), (.int (116 : Int32)), (.int (116 : Int32)), (.int (112 : Int32)), (.int (45 : Int32)), (.int (0 : Int32)), (.int (0 : Int32)), (.int (0 : Int32)), (.int (0 : Int32)), (.int (0 : Int32)), (.int (0 : Int32)), (.int (0 : Int32)), (.int (0 : Int32)), (.int (0 : Int32)), (.int (0 : Int32)), (.int (0 : Int32))] (.int (0 : Int32))) (F_o0_coder : Fld Z h0 o0 "java/lang/AbstractStringBuilder" "coder" "B" (.int (0 : Int32))) (E_o0 : Exa Z h0 o0 "java/lang/StringBuilder") (S_COMPACT_STRINGS : Sta Z h0 "java/lang/String" "COMPACT_STRINGS" "Z" (.int w_COMPACT_STRINGS)) (hc3_4_1 : ¬ (w_COMPACT_STRINGS = (0 : Int32))) (Tb : own_tb Z h0 n0 tst td1 td2 tD1 tD2) (g_f_o0_value : n0 ≤ f_o0_value) (ne_f_o0_value_o0 : f_o0_value ≠ o0) (g_o0 : n0 ≤ o0) :
    MetFree l (⟨"java/lang/StringBuilder", "append", "(I)Ljava/lang/StringBuilder;"⟩ : MethodName) (head1 (Jvm.Cond.code (⟨"java/lang/StringBuilder", "append", "(I)Ljava/lang/StringBuilder;"⟩ : MethodName) jdk_67_method_15_code 2 (some (.object "java/lang/StringBuilder")) :: ws) ({ frames := 3, cells := 0, slots := 0, locals := 93 } : Room)) (fun a U => a = #[(.ref o0), (.int p1)] ∧ Z.Warmed39 U.vm ∧ U.heap = h0) (fun _ _ _ _ _ => True) (fun _ U o U' => ∃ v L, o = .returned v ∧ Q13_5 Z o0 p1 f_o0_value kv w_COMPACT_STRINGS tst td1 td2 tD1 tD2 h0 n0 v U'.heap L ∧ FrameEnd U o U' L ({ frames := 3, cells := 0, slots := 0, locals := 93 } : Room).cells ({ frames := 3, cells := 0, slots := 0, locals := 93 } : Room).slots) := by
  refine MetFree.of_bodySF (plainFor_of_name pn_java_lang_StringBuilder) hisR ?_
  intro p e s m args below meth c s₁ Bd hml0 hP hK
  obtain ⟨rfl, hZ, hh⟩ := hP
  have hx := Bd.exec
  have hby := Bd.bytes
  have hml : c.maxLocals = 2 := hml0
  have hown : s.vm.findClass "java/lang/StringBuilder" = some m.cls := findClass_of_methodNamed Bd.named
  have hnm := (name_of_methodNamed Bd.named Bd.method).1
  have X0 : Stand p l e ({ frames := 3, cells := 0, slots := 0, locals := 93 } : Room) s m #[(.ref o0), (.int p1)] below meth c s₁ [] 0 0 := Stand.of_body Bd
  have e0 : s₁.heap = h0 := by rw [← hh, Bd.state]; rfl
  have N0 := Fr.nil n0
  show Go p e below (fun o U' => ∃ v L, o = .returned v ∧ Q13_5 Z o0 p1 f_o0_value kv w_COMPACT_STRINGS tst td1 td2 tD1 tD2 h0 n0 v U'.heap L ∧ FrameEnd s o U' L ({ frames := 3, cells := 0, slots := 0, locals := 93 } : Room).cells ({ frames := 3, cells := 0, slots := 0, locals := 93 } : Room).slots) (s₁.setTop (entryFrame m #[(.ref o0), (.int p1)] 2))
  refine Go.of (fun _ k => castTop (ef_13 m o0 p1) k) ?_
  show Go p e below _ (s₁.setTop (mkF m 0 #[.val (.ref o0), .val (.int p1)] []))
  refine Go.of (fun _ k => XS.aloadN X0.here hx rfl (hb hby d13_0) rfl rfl k) ?_
  refine Go.of (fun _ k => XS.iloadN X0.here hx rfl (hb hby d13_1) rfl  k) ?_
  obtain ⟨_, _, ⟨T1, L1, k1, n1⟩, -, X1, ⟨Lc1, hQ1, l1, y1, z1⟩, st1⟩ := superBack X0 hx hZ (y := own_y_AbstractStringBuilder_append_14) hown (own_h hw 89 rfl) (own_same (y := own_y_AbstractStringBuilder_append_14) (own_h hw 62 rfl) rfl (own_h hw 90 rfl) (by decide)) (own_h hw 90 rfl) (own_h hw 41 rfl) (by decide) (backOf (W := 0) (rm14_5 l Z a0 hw [] o0 p1 f_o0_value kv w_COMPACT_STRINGS tst td1 td2 tD1 tD2 h0 n0 Z0 F_o0_count F_o0_value V_f_o0_value F_o0_coder E_o0 S_COMPACT_STRINGS hc3_4_1 Tb g_f_o0_value ne_f_o0_value_o0 g_o0) hZ (own_h hw 92 rfl) (own_h hw 16 rfl) (by decide) (by decide)) e0 (Ins.self E_o0) (g := (mkF m 2 #[.val (.ref o0), .val (.int p1)] [(.int p1), (.ref o0)])) rfl (by rw [hml]; rfl) (own_h hw 92 rfl) (argsL := [(.int p1)]) (rest := []) (lenOf pd_12 rfl) rfl (Nat.le_of_eq rfl) (hb hby d13_2) (fun _ _ => ⟨rfl, e0, (by decide : 0 + 0 ≤ _), (by decide : 0 + 0 ≤ _)⟩)
  dsimp only [Pt.U, Pt.locs, Pt.cells, Pt.slots] at X1 l1 y1 z1 st1 hQ1
  subst l1 y1 z1
  obtain ⟨rx0_1, rfl, Nq1, q1_0, q1_1, q1_2, q1_3, q1_4, q1_5, q1_6⟩ := hQ1
  have N1 := Fr.app N0 Nq1
  refine Go.tr st1 ?_
  have K1 : Keep h0 T1.heap [f_o0_value, o0] := ((Keep.refl h0 [f_o0_value, o0])).trans q1_0 (allS (Or.inl (List.mem_of_getElem? (i := 0) rfl)) (allS (Or.inl (List.mem_of_getElem? (i := 1) rfl)) all0))
  have Z1 : n0 ≤ T1.heap.size := Nat.le_trans Z0 q1_0.1
  show Go p e below _ (T1.setTop (mkF m 5 #[.val (.ref o0), .val (.int p1)] [(.ref o0)]))
  refine Go.of (fun _ k => XS.pop X1.here hx rfl (hb hby d13_5) rfl rfl k) ?_
  show Go p e below _ (T1.setTop (mkF m 6 #[.val (.ref o0), .val (.int p1)] []))
  refine Go.of (fun _ k => XS.aloadN X1.here hx rfl (hb hby d13_6) rfl rfl k) ?_
  obtain ⟨fs, hr, hrun, hended, hW, hsame⟩ := X1.leave (v := some (.ref o0)) (fun h => by rw [Bd.returns] at h; cases h)
  refine Go.mk _ _ ?_ hrun hended ⟨_, _, rfl, ?_, ⟨_, rfl⟩, hW, hsame.mono (by decide) (by decide)⟩
  · exact retOut X1 hx Bd.returns rfl (Or.inr (Or.inr (Or.inr (Or.inr ⟨rfl, rfl, rfl⟩)))) (hb hby d13_7) hr
  · show Q13_5 Z o0 p1 f_o0_value kv w_COMPACT_STRINGS tst td1 td2 tD1 tD2 h0 n0 _ T1.heap _
    exact ⟨rx0_1, rfl, N1, K1, q1_1, q1_2, q1_3, q1_4, q1_5, q1_6⟩
def Q13_12 (Z : State) (o0 : Addr) (p1 : Int32) (f_o0_value : Addr) (kv : ClassId) (w_COMPACT_STRINGS : Int32) (tst : Addr) (td1 : Addr) (td2 : Addr) (tD1 : Cell) (tD2 : Cell) (h0 : Heap) (n0 : Nat) (v : Option Value) (h : Heap) (L : List Loc) : Prop := ∃ r0 : Addr, ∃ rk1 : ClassId, ∃ rx2 : Int32, ∃ rx3 : List Value, v = some (.ref o0) ∧ Fr n0 L ∧ Keep h0 h [o0, f_o0_value] ∧ Exa Z h o0 "java/lang/StringBuilder" ∧ Fld Z h o0 "java/lang/AbstractStringBuilder" "coder" "B" (.int (0 : Int32)) ∧ Fld Z h o0 "java/lang/AbstractStringBuilder" "count" "I" (.int (own_sz 12 p1)) ∧ Fld Z h o0 "java/lang/AbstractStringBuilder" "value" "[B" (.ref r0) ∧ Exa Z h f_o0_value "[B" ∧ Arv Z h r0 rk1 .byte rx2 rx3 (.int (0 : Int32)) ∧ Exa Z h r0 "[B" ∧ ¬ (rx2 < (own_sz 12 p1)) ∧ rx2.toNatClampNeg ≤ 34
set_option maxRecDepth 65536 in
set_option maxHeartbeats 40000000 in
theorem rm13_12 (l : Launch) (Z : State) (a0 : Array Value) (hw : ∀ d ∈ tables_1, d.before a0 Z = true) (ws : List Jvm.Cond) (o0 : Addr) (p1 : Int32) (f_o0_value : Addr) (kv : ClassId) (w_COMPACT_STRINGS : Int32) (tst : Addr) (td1 : Addr) (td2 : Addr) (tD1 : Cell) (tD2 : Cell) (h0 : Heap) (n0 : Nat) (Z0 : n0 ≤ h0.size) (F_o0_count : Fld Z h0 o0 "java/lang/AbstractStringBuilder" "count" "I" (.int (12 : Int32))) (F_o0_value : Fld Z h0 o0 "java/lang/AbstractStringBuilder" "value" "[B" (.ref f_o0_value)) (V_f_o0_value : Arv Z h0 f_o0_value kv .byte (16 : Int32) [(.int (72 : Int32)), (.int (84 : Int32)), (.int (84 : Int32)), (.int (80 : Int32)), (.int (32 : Int32)), (.int (115 : Int32)), (.int (116 : Int32)), (.int (97 : Int32)), (.int (116 : Int32)), (.int (117 : Int32)), (.int (115 : Int32)), (.int (32 : Int32)), (.int (0 : Int32)), (.int (0 : Int32)), (.int (0 : Int32)), (.int (0 : Int32))] (.int (0 : Int32))) (F_o0_coder : Fld Z h0 o0 "java/lang/AbstractStringBuilder" "coder" "B" (.int (0 : Int32))) (E_o0 : Exa Z h0 o0 "java/lang/StringBuilder") (g_o0 : n0 ≤ o0) (S_COMPACT_STRINGS : Sta Z h0 "java/lang/String" "COMPACT_STRINGS" "Z" (.int w_COMPACT_STRINGS)) (hc3_5_1 : ¬ (w_COMPACT_STRINGS = (0 : Int32))) (Tb : own_tb Z h0 n0 tst td1 td2 tD1 tD2) (g_f_o0_value : n0 ≤ f_o0_value) (ne_f_o0_value_o0 : f_o0_value ≠ o0) (E_f_o0_value : Exa Z h0 f_o0_value "[B") :
    MetFree l (⟨"java/lang/StringBuilder", "append", "(I)Ljava/lang/StringBuilder;"⟩ : MethodName) (head1 (Jvm.Cond.code (⟨"java/lang/StringBuilder", "append", "(I)Ljava/lang/StringBuilder;"⟩ : MethodName) jdk_67_method_15_code 2 (some (.object "java/lang/StringBuilder")) :: ws) ({ frames := 5, cells := 1, slots := 34, locals := 93 } : Room)) (fun a U => a = #[(.ref o0), (.int p1)] ∧ Z.Warmed39 U.vm ∧ U.heap = h0) (fun _ _ _ _ _ => True) (fun _ U o U' => ∃ v L, o = .returned v ∧ Q13_12 Z o0 p1 f_o0_value kv w_COMPACT_STRINGS tst td1 td2 tD1 tD2 h0 n0 v U'.heap L ∧ FrameEnd U o U' L ({ frames := 5, cells := 1, slots := 34, locals := 93 } : Room).cells ({ frames := 5, cells := 1, slots := 34, locals := 93 } : Room).slots) := by
  refine MetFree.of_bodySF (plainFor_of_name pn_java_lang_StringBuilder) hisR ?_
  intro p e s m args below meth c s₁ Bd hml0 hP hK
  obtain ⟨rfl, hZ, hh⟩ := hP
  have hx := Bd.exec
  have hby := Bd.bytes
  have hml : c.maxLocals = 2 := hml0
  have hown : s.vm.findClass "java/lang/StringBuilder" = some m.cls := findClass_of_methodNamed Bd.named
  have hnm := (name_of_methodNamed Bd.named Bd.method).1
  have X0 : Stand p l e ({ frames := 5, cells := 1, slots := 34, locals := 93 } : Room) s m #[(.ref o0), (.int p1)] below meth c s₁ [] 0 0 := Stand.of_body Bd
  have e0 : s₁.heap = h0 := by rw [← hh, Bd.state]; rfl
  have N0 := Fr.nil n0
  show Go p e below (fun o U' => ∃ v L, o = .returned v ∧ Q13_12 Z o0 p1 f_o0_value kv w_COMPACT_STRINGS tst td1 td2 tD1 tD2 h0 n0 v U'.heap L ∧ FrameEnd s o U' L ({ frames := 5, cells := 1, slots := 34, locals := 93 } : Room).cells ({ frames := 5, cells := 1, slots := 34, locals := 93 } : Room).slots) (s₁.setTop (entryFrame m #[(.ref o0), (.int p1)] 2))
  refine Go.of (fun _ k => castTop (ef_13 m o0 p1) k) ?_
  show Go p e below _ (s₁.setTop (mkF m 0 #[.val (.ref o0), .val (.int p1)] []))
  refine Go.of (fun _ k => XS.aloadN X0.here hx rfl (hb hby d13_0) rfl rfl k) ?_
  refine Go.of (fun _ k => XS.iloadN X0.here hx rfl (hb hby d13_1) rfl  k) ?_
  obtain ⟨_, _, ⟨T1, L1, k1, n1⟩, -, X1, ⟨Lc1, hQ1, l1, y1, z1⟩, st1⟩ := superBack X0 hx hZ (y := own_y_AbstractStringBuilder_append_14) hown (own_h hw 89 rfl) (own_same (y := own_y_AbstractStringBuilder_append_14) (own_h hw 62 rfl) rfl (own_h hw 90 rfl) (by decide)) (own_h hw 90 rfl) (own_h hw 41 rfl) (by decide) (backOf (W := 0) (rm14_12 l Z a0 hw [] o0 p1 f_o0_value kv w_COMPACT_STRINGS tst td1 td2 tD1 tD2 h0 n0 Z0 F_o0_count F_o0_value V_f_o0_value F_o0_coder E_o0 g_o0 S_COMPACT_STRINGS hc3_5_1 Tb g_f_o0_value ne_f_o0_value_o0 E_f_o0_value) hZ (own_h hw 92 rfl) (own_h hw 16 rfl) (by decide) (by decide)) e0 (Ins.self E_o0) (g := (mkF m 2 #[.val (.ref o0), .val (.int p1)] [(.int p1), (.ref o0)])) rfl (by rw [hml]; rfl) (own_h hw 92 rfl) (argsL := [(.int p1)]) (rest := []) (lenOf pd_12 rfl) rfl (Nat.le_of_eq rfl) (hb hby d13_2) (fun _ _ => ⟨rfl, e0, (by decide : 0 + 1 ≤ _), (by decide : 0 + 34 ≤ _)⟩)
  dsimp only [Pt.U, Pt.locs, Pt.cells, Pt.slots] at X1 l1 y1 z1 st1 hQ1
  subst l1 y1 z1
  obtain ⟨rv_1, rk_1, rz_1, rs_1, rfl, Nq1, q1_0, q1_1, q1_2, q1_3, q1_4, q1_5, q1_6, q1_7, q1_8⟩ := hQ1
  have N1 := Fr.app N0 Nq1
  refine Go.tr st1 ?_
  have K1 : Keep h0 T1.heap [o0, f_o0_value] := ((Keep.refl h0 [o0, f_o0_value])).trans q1_0 (allS (Or.inl (List.mem_of_getElem? (i := 0) rfl)) (allS (Or.inl (List.mem_of_getElem? (i := 1) rfl)) all0))
  have Z1 : n0 ≤ T1.heap.size := Nat.le_trans Z0 q1_0.1
  show Go p e below _ (T1.setTop (mkF m 5 #[.val (.ref o0), .val (.int p1)] [(.ref o0)]))
  refine Go.of (fun _ k => XS.pop X1.here hx rfl (hb hby d13_5) rfl rfl k) ?_
  show Go p e below _ (T1.setTop (mkF m 6 #[.val (.ref o0), .val (.int p1)] []))
  refine Go.of (fun _ k => XS.aloadN X1.here hx rfl (hb hby d13_6) rfl rfl k) ?_
  have c3 : Exa Z T1.heap f_o0_value "[B" := (E_f_o0_value.keep q1_0)
  obtain ⟨fs, hr, hrun, hended, hW, hsame⟩ := X1.leave (v := some (.ref o0)) (fun h => by rw [Bd.returns] at h; cases h)
  refine Go.mk _ _ ?_ hrun hended ⟨_, _, rfl, ?_, ⟨_, rfl⟩, hW, hsame.mono (by decide) (by decide)⟩
  · exact retOut X1 hx Bd.returns rfl (Or.inr (Or.inr (Or.inr (Or.inr ⟨rfl, rfl, rfl⟩)))) (hb hby d13_7) hr
  · show Q13_12 Z o0 p1 f_o0_value kv w_COMPACT_STRINGS tst td1 td2 tD1 tD2 h0 n0 _ T1.heap _
    exact ⟨rv_1, rk_1, rz_1, rs_1, rfl, N1, K1, q1_1, q1_2, q1_3, q1_4, c3, q1_5, q1_6, q1_7, q1_8⟩
theorem d21_0 : decode jdk_68_method_64_code 0 = .ok (.aload_n 0, 1) := by decide +kernel
theorem d21_1 : decode jdk_68_method_64_code 1 = .ok (.getfield 15, 3) := by decide +kernel
theorem d21_4 : decode jdk_68_method_64_code 4 = .ok (.areturn, 1) := by decide +kernel
theorem ef_21 (m : MethodId) (x0 : Addr) : entryFrame m #[(.ref x0)] 1 = mkF m 0 #[.val (.ref x0)] [] := by first | (simp [entryFrame, mkF, argsToLocals, Value.category]; done) | rfl
def Q21 (Z : State) (o0 : Addr) (f_o0_value : Addr) (h0 : Heap) (n0 : Nat) (v : Option Value) (h : Heap) (L : List Loc) : Prop := v = some (.ref f_o0_value) ∧ Fr n0 L ∧ h = h0
set_option maxRecDepth 65536 in
set_option maxHeartbeats 40000000 in
theorem rm21 (l : Launch) (Z : State) (a0 : Array Value) (hw : ∀ d ∈ tables_1, d.before a0 Z = true) (ws : List Jvm.Cond) (o0 : Addr) (f_o0_value : Addr) (h0 : Heap) (n0 : Nat) (Z0 : n0 ≤ h0.size) (F_o0_value : Fld Z h0 o0 "java/lang/AbstractStringBuilder" "value" "[B" (.ref f_o0_value)) :
    MetFree l (⟨"java/lang/AbstractStringBuilder", "getValue", "()[B"⟩ : MethodName) (head1 (Jvm.Cond.code (⟨"java/lang/AbstractStringBuilder", "getValue", "()[B"⟩ : MethodName) jdk_68_method_64_code 1 (some (.array .byte)) :: ws) ({ frames := 0, cells := 0, slots := 0, locals := 0 } : Room)) (fun a U => a = #[(.ref o0)] ∧ Z.Warmed39 U.vm ∧ U.heap = h0) (fun _ _ _ _ _ => True) (fun _ U o U' => ∃ v L, o = .returned v ∧ Q21 Z o0 f_o0_value h0 n0 v U'.heap L ∧ FrameEnd U o U' L ({ frames := 0, cells := 0, slots := 0, locals := 0 } : Room).cells ({ frames := 0, cells := 0, slots := 0, locals := 0 } : Room).slots) := by
  refine MetFree.of_bodySF (plainFor_of_name pn_java_lang_AbstractStringBuilder) hisR ?_
  intro p e s m args below meth c s₁ Bd hml0 hP hK
  obtain ⟨rfl, hZ, hh⟩ := hP
  have hx := Bd.exec
  have hby := Bd.bytes
  have hml : c.maxLocals = 1 := hml0
  have hown : s.vm.findClass "java/lang/AbstractStringBuilder" = some m.cls := findClass_of_methodNamed Bd.named
  have hnm := (name_of_methodNamed Bd.named Bd.method).1
  have X0 : Stand p l e ({ frames := 0, cells := 0, slots := 0, locals := 0 } : Room) s m #[(.ref o0)] below meth c s₁ [] 0 0 := Stand.of_body Bd
  have e0 : s₁.heap = h0 := by rw [← hh, Bd.state]; rfl
  have N0 := Fr.nil n0
  show Go p e below (fun o U' => ∃ v L, o = .returned v ∧ Q21 Z o0 f_o0_value h0 n0 v U'.heap L ∧ FrameEnd s o U' L ({ frames := 0, cells := 0, slots := 0, locals := 0 } : Room).cells ({ frames := 0, cells := 0, slots := 0, locals := 0 } : Room).slots) (s₁.setTop (entryFrame m #[(.ref o0)] 1))
  refine Go.of (fun _ k => castTop (ef_21 m o0) k) ?_
  show Go p e below _ (s₁.setTop (mkF m 0 #[.val (.ref o0)] []))
  refine Go.of (fun _ k => XS.aloadN X0.here hx rfl (hb hby d21_0) rfl rfl k) ?_
  obtain ⟨T1, X1, e1, st1⟩ := getF X0 hx hZ hown (host := "") (Or.inl (own_h hw 24 rfl)) Via.refl e0 F_o0_value (g := (mkF m 1 #[.val (.ref o0)] [(.ref o0)])) rfl rfl (hb hby d21_1)
  refine Go.of st1 ?_
  show Go p e below _ (T1.setTop (mkF m 4 #[.val (.ref o0)] [(.ref f_o0_value)]))
  obtain ⟨fs, hr, hrun, hended, hW, hsame⟩ := X1.leave (v := some (.ref f_o0_value)) (fun h => by rw [Bd.returns] at h; cases h)
  refine Go.mk _ _ ?_ hrun hended ⟨_, _, rfl, ?_, ⟨_, rfl⟩, hW, hsame.mono (by decide) (by decide)⟩
  · exact retOut X1 hx Bd.returns rfl (Or.inr (Or.inr (Or.inr (Or.inr ⟨rfl, rfl, rfl⟩)))) (hb hby d21_4) hr
  · show Q21 Z o0 f_o0_value h0 n0 _ T1.heap _
    rw [e1]
    exact ⟨rfl, N0, rfl⟩
theorem d23_0 : decode jdk_68_method_6_code 0 = .ok (.aload_n 0, 1) := by decide +kernel
theorem d23_1 : decode jdk_68_method_6_code 1 = .ok (.getfield 79, 3) := by decide +kernel
theorem d23_4 : decode jdk_68_method_6_code 4 = .ok (.ireturn, 1) := by decide +kernel
theorem ef_23 (m : MethodId) (x0 : Addr) : entryFrame m #[(.ref x0)] 1 = mkF m 0 #[.val (.ref x0)] [] := by first | (simp [entryFrame, mkF, argsToLocals, Value.category]; done) | rfl
def Q23 (Z : State) (o0 : Addr) (f_o0_count : Int32) (h0 : Heap) (n0 : Nat) (v : Option Value) (h : Heap) (L : List Loc) : Prop := v = some (.int f_o0_count) ∧ Fr n0 L ∧ h = h0
set_option maxRecDepth 65536 in
set_option maxHeartbeats 40000000 in
theorem rm23 (l : Launch) (Z : State) (a0 : Array Value) (hw : ∀ d ∈ tables_1, d.before a0 Z = true) (ws : List Jvm.Cond) (o0 : Addr) (f_o0_count : Int32) (h0 : Heap) (n0 : Nat) (Z0 : n0 ≤ h0.size) (F_o0_count : Fld Z h0 o0 "java/lang/AbstractStringBuilder" "count" "I" (.int f_o0_count)) :
    MetFree l (⟨"java/lang/AbstractStringBuilder", "length", "()I"⟩ : MethodName) (head1 (Jvm.Cond.code (⟨"java/lang/AbstractStringBuilder", "length", "()I"⟩ : MethodName) jdk_68_method_6_code 1 (some .int) :: ws) ({ frames := 0, cells := 0, slots := 0, locals := 0 } : Room)) (fun a U => a = #[(.ref o0)] ∧ Z.Warmed39 U.vm ∧ U.heap = h0) (fun _ _ _ _ _ => True) (fun _ U o U' => ∃ v L, o = .returned v ∧ Q23 Z o0 f_o0_count h0 n0 v U'.heap L ∧ FrameEnd U o U' L ({ frames := 0, cells := 0, slots := 0, locals := 0 } : Room).cells ({ frames := 0, cells := 0, slots := 0, locals := 0 } : Room).slots) := by
  refine MetFree.of_bodySF (plainFor_of_name pn_java_lang_AbstractStringBuilder) hisR ?_
  intro p e s m args below meth c s₁ Bd hml0 hP hK
  obtain ⟨rfl, hZ, hh⟩ := hP
  have hx := Bd.exec
  have hby := Bd.bytes
  have hml : c.maxLocals = 1 := hml0
  have hown : s.vm.findClass "java/lang/AbstractStringBuilder" = some m.cls := findClass_of_methodNamed Bd.named
  have hnm := (name_of_methodNamed Bd.named Bd.method).1
  have X0 : Stand p l e ({ frames := 0, cells := 0, slots := 0, locals := 0 } : Room) s m #[(.ref o0)] below meth c s₁ [] 0 0 := Stand.of_body Bd
  have e0 : s₁.heap = h0 := by rw [← hh, Bd.state]; rfl
  have N0 := Fr.nil n0
  show Go p e below (fun o U' => ∃ v L, o = .returned v ∧ Q23 Z o0 f_o0_count h0 n0 v U'.heap L ∧ FrameEnd s o U' L ({ frames := 0, cells := 0, slots := 0, locals := 0 } : Room).cells ({ frames := 0, cells := 0, slots := 0, locals := 0 } : Room).slots) (s₁.setTop (entryFrame m #[(.ref o0)] 1))
  refine Go.of (fun _ k => castTop (ef_23 m o0) k) ?_
  show Go p e below _ (s₁.setTop (mkF m 0 #[.val (.ref o0)] []))
  refine Go.of (fun _ k => XS.aloadN X0.here hx rfl (hb hby d23_0) rfl rfl k) ?_
  obtain ⟨T1, X1, e1, st1⟩ := getF X0 hx hZ hown (host := "") (Or.inl (own_h hw 57 rfl)) Via.refl e0 F_o0_count (g := (mkF m 1 #[.val (.ref o0)] [(.ref o0)])) rfl rfl (hb hby d23_1)
  refine Go.of st1 ?_
  show Go p e below _ (T1.setTop (mkF m 4 #[.val (.ref o0)] [(.int f_o0_count)]))
  obtain ⟨fs, hr, hrun, hended, hW, hsame⟩ := X1.leave (v := some (.int f_o0_count)) (fun h => by rw [Bd.returns] at h; cases h)
  refine Go.mk _ _ ?_ hrun hended ⟨_, _, rfl, ?_, ⟨_, rfl⟩, hW, hsame.mono (by decide) (by decide)⟩
  · exact retI X1 hx Bd.returns (hb hby d23_4) hr
  · show Q23 Z o0 f_o0_count h0 n0 _ T1.heap _
    rw [e1]
    exact ⟨rfl, N0, rfl⟩
theorem d22_0 : decode jdk_67_method_93_code 0 = .ok (.aload_n 0, 1) := by decide +kernel
theorem d22_1 : decode jdk_67_method_93_code 1 = .ok (.invokespecial 343, 3) := by decide +kernel
abbrev own_y_AbstractStringBuilder_length_15 : MethodName := ⟨"java/lang/AbstractStringBuilder", "length", "()I"⟩
theorem d22_4 : decode jdk_67_method_93_code 4 = .ok (.ireturn, 1) := by decide +kernel
theorem ef_22 (m : MethodId) (x0 : Addr) : entryFrame m #[(.ref x0)] 1 = mkF m 0 #[.val (.ref x0)] [] := by first | (simp [entryFrame, mkF, argsToLocals, Value.category]; done) | rfl
def Q22 (Z : State) (o0 : Addr) (f_o0_count : Int32) (h0 : Heap) (n0 : Nat) (v : Option Value) (h : Heap) (L : List Loc) : Prop := v = some (.int f_o0_count) ∧ Fr n0 L ∧ h = h0
set_option maxRecDepth 65536 in
set_option maxHeartbeats 40000000 in
theorem rm22 (l : Launch) (Z : State) (a0 : Array Value) (hw : ∀ d ∈ tables_1, d.before a0 Z = true) (ws : List Jvm.Cond) (o0 : Addr) (f_o0_count : Int32) (h0 : Heap) (n0 : Nat) (Z0 : n0 ≤ h0.size) (F_o0_count : Fld Z h0 o0 "java/lang/AbstractStringBuilder" "count" "I" (.int f_o0_count)) (E_o0 : Exa Z h0 o0 "java/lang/StringBuilder") :
    MetFree l (⟨"java/lang/StringBuilder", "length", "()I"⟩ : MethodName) (head1 (Jvm.Cond.code (⟨"java/lang/StringBuilder", "length", "()I"⟩ : MethodName) jdk_67_method_93_code 1 (some .int) :: ws) ({ frames := 1, cells := 0, slots := 0, locals := 12 } : Room)) (fun a U => a = #[(.ref o0)] ∧ Z.Warmed39 U.vm ∧ U.heap = h0) (fun _ _ _ _ _ => True) (fun _ U o U' => ∃ v L, o = .returned v ∧ Q22 Z o0 f_o0_count h0 n0 v U'.heap L ∧ FrameEnd U o U' L ({ frames := 1, cells := 0, slots := 0, locals := 12 } : Room).cells ({ frames := 1, cells := 0, slots := 0, locals := 12 } : Room).slots) := by
  refine MetFree.of_bodySF (plainFor_of_name pn_java_lang_StringBuilder) hisR ?_
  intro p e s m args below meth c s₁ Bd hml0 hP hK
  obtain ⟨rfl, hZ, hh⟩ := hP
  have hx := Bd.exec
  have hby := Bd.bytes
  have hml : c.maxLocals = 1 := hml0
  have hown : s.vm.findClass "java/lang/StringBuilder" = some m.cls := findClass_of_methodNamed Bd.named
  have hnm := (name_of_methodNamed Bd.named Bd.method).1
  have X0 : Stand p l e ({ frames := 1, cells := 0, slots := 0, locals := 12 } : Room) s m #[(.ref o0)] below meth c s₁ [] 0 0 := Stand.of_body Bd
  have e0 : s₁.heap = h0 := by rw [← hh, Bd.state]; rfl
  have N0 := Fr.nil n0
  show Go p e below (fun o U' => ∃ v L, o = .returned v ∧ Q22 Z o0 f_o0_count h0 n0 v U'.heap L ∧ FrameEnd s o U' L ({ frames := 1, cells := 0, slots := 0, locals := 12 } : Room).cells ({ frames := 1, cells := 0, slots := 0, locals := 12 } : Room).slots) (s₁.setTop (entryFrame m #[(.ref o0)] 1))
  refine Go.of (fun _ k => castTop (ef_22 m o0) k) ?_
  show Go p e below _ (s₁.setTop (mkF m 0 #[.val (.ref o0)] []))
  refine Go.of (fun _ k => XS.aloadN X0.here hx rfl (hb hby d22_0) rfl rfl k) ?_
  obtain ⟨_, _, ⟨T1, L1, k1, n1⟩, -, X1, ⟨Lc1, hQ1, l1, y1, z1⟩, st1⟩ := superBack X0 hx hZ (y := own_y_AbstractStringBuilder_length_15) hown (own_h hw 131 rfl) (own_same (y := own_y_AbstractStringBuilder_length_15) (own_h hw 62 rfl) rfl (own_h hw 127 rfl) (by decide)) (own_h hw 127 rfl) (own_h hw 41 rfl) (by decide) (backOf (W := 0) (rm23 l Z a0 hw [] o0 f_o0_count h0 n0 Z0 F_o0_count) hZ (own_h hw 132 rfl) (own_h hw 16 rfl) (by decide) (by decide)) e0 (Ins.self E_o0) (g := (mkF m 1 #[.val (.ref o0)] [(.ref o0)])) rfl (by rw [hml]; rfl) (own_h hw 132 rfl) (argsL := []) (rest := []) (lenOf pd_4 rfl) rfl (Nat.le_of_eq rfl) (hb hby d22_1) (fun _ _ => ⟨rfl, e0, (by decide : 0 + 0 ≤ _), (by decide : 0 + 0 ≤ _)⟩)
  dsimp only [Pt.U, Pt.locs, Pt.cells, Pt.slots] at X1 l1 y1 z1 st1 hQ1
  subst l1 y1 z1
  obtain ⟨rfl, Nq1, q1_0⟩ := hQ1
  have N1 := Fr.app N0 Nq1
  refine Go.tr st1 ?_
  show Go p e below _ (T1.setTop (mkF m 4 #[.val (.ref o0)] [(.int f_o0_count)]))
  obtain ⟨fs, hr, hrun, hended, hW, hsame⟩ := X1.leave (v := some (.int f_o0_count)) (fun h => by rw [Bd.returns] at h; cases h)
  refine Go.mk _ _ ?_ hrun hended ⟨_, _, rfl, ?_, ⟨_, rfl⟩, hW, hsame.mono (by decide) (by decide)⟩
  · exact retI X1 hx Bd.returns (hb hby d22_4) hr
  · show Q22 Z o0 f_o0_count h0 n0 _ T1.heap _
    rw [q1_0]
    exact ⟨rfl, N1, rfl⟩
theorem d26_0 : decode jdk_65_method_131_code 0 = .ok (.iload_n 1, 1) := by decide +kernel
theorem d26_1 : decode jdk_65_method_131_code 1 = .ok (.iload_n 0, 1) := by decide +kernel
theorem d26_2 : decode jdk_65_method_131_code 2 = .ok (.if_icmp .ge 35, 3) := by decide +kernel
theorem d26_37 : decode jdk_65_method_131_code 37 = .ok (.return_, 1) := by decide +kernel
theorem ef_26l1_0 (m : MethodId) (x1 : Int32) : entryFrame m #[(.int (0 : Int32)), (.int x1)] 2 = mkF m 0 #[.val (.int (0 : Int32)), .val (.int x1)] [] := by first | (simp [entryFrame, mkF, argsToLocals, Value.category]; done) | rfl
def Q26 (Z : State) (p1 : Int32) (h0 : Heap) (n0 : Nat) (v : Option Value) (h : Heap) (L : List Loc) : Prop := v = none ∧ Fr n0 L ∧ h = h0
set_option maxRecDepth 65536 in
set_option maxHeartbeats 40000000 in
theorem rm26 (l : Launch) (Z : State) (a0 : Array Value) (hw : ∀ d ∈ tables_1, d.before a0 Z = true) (ws : List Jvm.Cond) (p1 : Int32) (h0 : Heap) (n0 : Nat) (Z0 : n0 ≤ h0.size) (hc2 : ¬ (p1 < (0 : Int32))) :
    MetFree l (⟨"java/util/Arrays", "checkLength", "(II)V"⟩ : MethodName) (head1 (Jvm.Cond.code (⟨"java/util/Arrays", "checkLength", "(II)V"⟩ : MethodName) jdk_65_method_131_code 2 none :: ws) ({ frames := 0, cells := 0, slots := 0, locals := 0 } : Room)) (fun a U => a = #[(.int (0 : Int32)), (.int p1)] ∧ Z.Warmed39 U.vm ∧ U.heap = h0) (fun _ _ _ _ _ => True) (fun _ U o U' => ∃ v L, o = .returned v ∧ Q26 Z p1 h0 n0 v U'.heap L ∧ FrameEnd U o U' L ({ frames := 0, cells := 0, slots := 0, locals := 0 } : Room).cells ({ frames := 0, cells := 0, slots := 0, locals := 0 } : Room).slots) := by
  refine MetFree.of_bodySF (plainFor_of_name pn_java_util_Arrays) hisR ?_
  intro p e s m args below meth c s₁ Bd hml0 hP hK
  obtain ⟨rfl, hZ, hh⟩ := hP
  have hx := Bd.exec
  have hby := Bd.bytes
  have hml : c.maxLocals = 2 := hml0
  have hown : s.vm.findClass "java/util/Arrays" = some m.cls := findClass_of_methodNamed Bd.named
  have hnm := (name_of_methodNamed Bd.named Bd.method).1
  have X0 : Stand p l e ({ frames := 0, cells := 0, slots := 0, locals := 0 } : Room) s m #[(.int (0 : Int32)), (.int p1)] below meth c s₁ [] 0 0 := Stand.of_body Bd
  have e0 : s₁.heap = h0 := by rw [← hh, Bd.state]; rfl
  have N0 := Fr.nil n0
  show Go p e below (fun o U' => ∃ v L, o = .returned v ∧ Q26 Z p1 h0 n0 v U'.heap L ∧ FrameEnd s o U' L ({ frames := 0, cells := 0, slots := 0, locals := 0 } : Room).cells ({ frames := 0, cells := 0, slots := 0, locals := 0 } : Room).slots) (s₁.setTop (entryFrame m #[(.int (0 : Int32)), (.int p1)] 2))
  refine Go.of (fun _ k => castTop (ef_26l1_0 m p1) k) ?_
  show Go p e below _ (s₁.setTop (mkF m 0 #[.val (.int (0 : Int32)), .val (.int p1)] []))
  refine Go.of (fun _ k => XS.iloadN X0.here hx rfl (hb hby d26_0) rfl  k) ?_
  refine Go.of (fun _ k => XS.iloadN X0.here hx rfl (hb hby d26_1) rfl  k) ?_
  refine Go.of (fun _ k => XS.icmpYes X0.here hx rfl (pc0 := 2) (pc' := 37) rfl (hb hby d26_2) rfl (flt hc2).2.1 (by decide) (by decide) k) ?_
  show Go p e below _ (s₁.setTop (mkF m 37 #[.val (.int (0 : Int32)), .val (.int p1)] []))
  obtain ⟨fs, hr, hrun, hended, hW, hsame⟩ := X0.leave (v := none) (fun _ => rfl)
  refine Go.mk _ _ ?_ hrun hended ⟨_, _, rfl, ?_, ⟨_, rfl⟩, hW, hsame.mono (by decide) (by decide)⟩
  · exact X0.returnOut hx Bd.returns (hb hby d26_37) hr
  · show Q26 Z p1 h0 n0 _ s₁.heap _
    rw [e0]
    exact ⟨rfl, N0, rfl⟩
theorem d25_0 : decode jdk_65_method_133_code 0 = .ok (.iload_n 1, 1) := by decide +kernel
theorem d25_1 : decode jdk_65_method_133_code 1 = .ok (.iload_n 2, 1) := by decide +kernel
theorem d25_2 : decode jdk_65_method_133_code 2 = .ok (.invokestatic 343, 3) := by decide +kernel
theorem pd_13 : parseMethodDescriptor "(II)V" = some ⟨[.int, .int], none⟩ := by decide +kernel
abbrev own_y_Arrays_checkLength_16 : MethodName := ⟨"java/util/Arrays", "checkLength", "(II)V"⟩
theorem d25_5 : decode jdk_65_method_133_code 5 = .ok (.iload_n 2, 1) := by decide +kernel
theorem d25_6 : decode jdk_65_method_133_code 6 = .ok (.iload_n 1, 1) := by decide +kernel
theorem d25_7 : decode jdk_65_method_133_code 7 = .ok (.isub, 1) := by decide +kernel
theorem d25_8 : decode jdk_65_method_133_code 8 = .ok (.istore_n 3, 1) := by decide +kernel
theorem d25_9 : decode jdk_65_method_133_code 9 = .ok (.iload_n 3, 1) := by decide +kernel
theorem d25_10 : decode jdk_65_method_133_code 10 = .ok (.newarray .byte, 2) := by decide +kernel
theorem d25_12 : decode jdk_65_method_133_code 12 = .ok (.astore 4, 2) := by decide +kernel
theorem d25_14 : decode jdk_65_method_133_code 14 = .ok (.aload_n 0, 1) := by decide +kernel
theorem d25_15 : decode jdk_65_method_133_code 15 = .ok (.iload_n 1, 1) := by decide +kernel
theorem d25_16 : decode jdk_65_method_133_code 16 = .ok (.aload 4, 2) := by decide +kernel
theorem d25_18 : decode jdk_65_method_133_code 18 = .ok (.iconst 0, 1) := by decide +kernel
theorem d25_19 : decode jdk_65_method_133_code 19 = .ok (.aload_n 0, 1) := by decide +kernel
theorem d25_20 : decode jdk_65_method_133_code 20 = .ok (.arraylength, 1) := by decide +kernel
theorem d25_21 : decode jdk_65_method_133_code 21 = .ok (.iload_n 1, 1) := by decide +kernel
theorem d25_22 : decode jdk_65_method_133_code 22 = .ok (.isub, 1) := by decide +kernel
theorem d25_23 : decode jdk_65_method_133_code 23 = .ok (.iload_n 3, 1) := by decide +kernel
theorem d25_24 : decode jdk_65_method_133_code 24 = .ok (.invokestatic 304, 3) := by decide +kernel
theorem d25_27 : decode jdk_65_method_133_code 27 = .ok (.invokestatic 150, 3) := by decide +kernel
theorem d25_30 : decode jdk_65_method_133_code 30 = .ok (.aload 4, 2) := by decide +kernel
theorem d25_32 : decode jdk_65_method_133_code 32 = .ok (.areturn, 1) := by decide +kernel
theorem ef_25l2_0 (m : MethodId) (x0 : Addr) (x2 : Int32) : entryFrame m #[(.ref x0), (.int (0 : Int32)), (.int x2)] 5 = mkF m 0 #[.val (.ref x0), .val (.int (0 : Int32)), .val (.int x2), .unset, .unset] [] := by first | (simp [entryFrame, mkF, argsToLocals, Value.category]; done) | rfl
def Q25 (Z : State) (o0 : Addr) (p2 : Int32) (z0 : Int32) (vs0 : List Value) (kv : ClassId) (h0 : Heap) (n0 : Nat) (v : Option Value) (h : Heap) (L : List Loc) : Prop := ∃ r : Addr, ∃ rk : ClassId, v = some (.ref r) ∧ Fr n0 L ∧ Keep h0 h [] ∧ (h0.size ≤ r ∧ n0 ≤ r) ∧ Arv Z h r rk .byte p2 vs0 (.int (0 : Int32))
set_option maxRecDepth 65536 in
set_option maxHeartbeats 40000000 in
theorem rm25 (l : Launch) (Z : State) (a0 : Array Value) (hw : ∀ d ∈ tables_1, d.before a0 Z = true) (ws : List Jvm.Cond) (o0 : Addr) (p2 : Int32) (z0 : Int32) (vs0 : List Value) (kv : ClassId) (h0 : Heap) (n0 : Nat) (Z0 : n0 ≤ h0.size) (hc2_1 : ¬ (p2 < (0 : Int32))) (h34 : z0.toNatClampNeg ≤ 34) (hlt : p2 < z0) (V_o0 : Arv Z h0 o0 kv .byte z0 vs0 (.int (0 : Int32))) :
    MetFree l (⟨"java/util/Arrays", "copyOfRangeByte", "([BII)[B"⟩ : MethodName) (head1 (Jvm.Cond.code (⟨"java/util/Arrays", "copyOfRangeByte", "([BII)[B"⟩ : MethodName) jdk_65_method_133_code 5 (some (.array .byte)) :: ws) ({ frames := 1, cells := 1, slots := 34, locals := 32 } : Room)) (fun a U => a = #[(.ref o0), (.int (0 : Int32)), (.int p2)] ∧ Z.Warmed39 U.vm ∧ U.heap = h0) (fun _ _ _ _ _ => True) (fun _ U o U' => ∃ v L, o = .returned v ∧ Q25 Z o0 p2 z0 vs0 kv h0 n0 v U'.heap L ∧ FrameEnd U o U' L ({ frames := 1, cells := 1, slots := 34, locals := 32 } : Room).cells ({ frames := 1, cells := 1, slots := 34, locals := 32 } : Room).slots) := by
  refine MetFree.of_bodySF (plainFor_of_name pn_java_util_Arrays) hisR ?_
  intro p e s m args below meth c s₁ Bd hml0 hP hK
  obtain ⟨rfl, hZ, hh⟩ := hP
  have hx := Bd.exec
  have hby := Bd.bytes
  have hml : c.maxLocals = 5 := hml0
  have hown : s.vm.findClass "java/util/Arrays" = some m.cls := findClass_of_methodNamed Bd.named
  have hnm := (name_of_methodNamed Bd.named Bd.method).1
  have X0 : Stand p l e ({ frames := 1, cells := 1, slots := 34, locals := 32 } : Room) s m #[(.ref o0), (.int (0 : Int32)), (.int p2)] below meth c s₁ [] 0 0 := Stand.of_body Bd
  have e0 : s₁.heap = h0 := by rw [← hh, Bd.state]; rfl
  have N0 := Fr.nil n0
  show Go p e below (fun o U' => ∃ v L, o = .returned v ∧ Q25 Z o0 p2 z0 vs0 kv h0 n0 v U'.heap L ∧ FrameEnd s o U' L ({ frames := 1, cells := 1, slots := 34, locals := 32 } : Room).cells ({ frames := 1, cells := 1, slots := 34, locals := 32 } : Room).slots) (s₁.setTop (entryFrame m #[(.ref o0), (.int (0 : Int32)), (.int p2)] 5))
  refine Go.of (fun _ k => castTop (ef_25l2_0 m o0 p2) k) ?_
  show Go p e below _ (s₁.setTop (mkF m 0 #[.val (.ref o0), .val (.int (0 : Int32)), .val (.int p2), .unset, .unset] []))
  refine Go.of (fun _ k => XS.iloadN X0.here hx rfl (hb hby d25_0) rfl  k) ?_
  refine Go.of (fun _ k => XS.iloadN X0.here hx rfl (hb hby d25_1) rfl  k) ?_
  obtain ⟨_, _, ⟨T1, L1, k1, n1⟩, -, X1, ⟨Lc1, hQ1, l1, y1, z1⟩, st1⟩ := Jvm.LawKit.callS X0 hx (y := own_y_Arrays_checkLength_16) hown (mvT hZ (own_h hw 141 rfl)) (mvT hZ (own_h hw 142 rfl)) (mvT hZ (own_h hw 136 rfl)) (mvT hZ (own_h hw 143 rfl)) (by decide) (backOf (W := 0) (rm26 l Z a0 hw [] p2 h0 n0 Z0 hc2_1) hZ (own_h hw 143 rfl) (own_h hw 136 rfl) (by decide) (by decide)) (g := (mkF m 2 #[.val (.ref o0), .val (.int (0 : Int32)), .val (.int p2), .unset, .unset] [(.int p2), (.int (0 : Int32))])) rfl (by rw [hml]; rfl) (argsL := [(.int (0 : Int32)), (.int p2)]) (rest := []) (lenOf pd_13 rfl) rfl (Nat.le_of_eq rfl) (hb hby d25_2) (fun _ _ => ⟨rfl, e0, (by decide : 0 + 0 ≤ _), (by decide : 0 + 0 ≤ _)⟩)
  dsimp only [Pt.U, Pt.locs, Pt.cells, Pt.slots] at X1 l1 y1 z1 st1 hQ1
  subst l1 y1 z1
  obtain ⟨rfl, Nq1, q1_0⟩ := hQ1
  have N1 := Fr.app N0 Nq1
  refine Go.of st1 ?_
  show Go p e below _ (T1.setTop (mkF m 5 #[.val (.ref o0), .val (.int (0 : Int32)), .val (.int p2), .unset, .unset] []))
  refine Go.of (fun _ k => XS.iloadN X1.here hx rfl (hb hby d25_5) rfl  k) ?_
  refine Go.of (fun _ k => XS.iloadN X1.here hx rfl (hb hby d25_6) rfl  k) ?_
  refine Go.of (fun _ k => XS.isub X1.here hx rfl (hb hby d25_7) rfl k) ?_
  show Go p e below _ (T1.setTop (mkF m 8 #[.val (.ref o0), .val (.int (0 : Int32)), .val (.int p2), .unset, .unset] [(.int (p2 - (0 : Int32)))]))
  rw [own_isub0]
  show Go p e below _ (T1.setTop (mkF m 8 #[.val (.ref o0), .val (.int (0 : Int32)), .val (.int p2), .unset, .unset] [(.int p2)]))
  refine Go.of (fun _ k => XS.istoreN X1.here hx rfl (hb hby d25_8) rfl (l' := #[.val (.ref o0), .val (.int (0 : Int32)), .val (.int p2), .val (.int p2), .unset]) rfl k) ?_
  show Go p e below _ (T1.setTop (mkF m 9 #[.val (.ref o0), .val (.int (0 : Int32)), .val (.int p2), .val (.int p2), .unset] []))
  refine Go.of (fun _ k => XS.iloadN X1.here hx rfl (hb hby d25_9) rfl  k) ?_
  show Go p e below _ (T1.setTop (mkF m 10 #[.val (.ref o0), .val (.int (0 : Int32)), .val (.int p2), .val (.int p2), .unset] [(.int p2)]))
  obtain ⟨T2, h2, k2, X2, e2, E2, A2, B2, st2⟩ := newPE X1 hx hZ (own_h hw 23 rfl) q1_0 (g := (mkF m 10 #[.val (.ref o0), .val (.int (0 : Int32)), .val (.int p2), .val (.int p2), .unset] [(.int p2)])) rfl (hb hby d25_10) rfl hc2_1 (cap := 34) (Nat.le_trans (own_nat (fun q => absurd q (own_asym hlt))) h34) (by decide) (by decide) (by decide) (ad := "[B") (by decide)
  obtain ⟨ob2, g2⟩ : ∃ z, z = h0.size := ⟨_, rfl⟩
  rw [← g2] at A2 B2 st2
  refine Go.of st2 ?_
  have g_ob2 : n0 ≤ ob2 := Nat.le_trans Z0 (Nat.le_of_eq g2.symm)
  have sz_ob2 : h0.size ≤ ob2 := Nat.le_trans ((Keep.refl h0 [])).1 (Nat.le_of_eq g2.symm)
  have K2 : Keep h0 h2 [] := ((Keep.refl h0 [])).ext E2
  have Z2 : n0 ≤ h2.size := Nat.le_trans Z0 E2.1
  have V2 : Arv Z h2 ob2 k2 .byte p2 (([] : List Value) ++ List.replicate p2.toNatClampNeg (.int (0 : Int32))) (.int (0 : Int32)) := (Arv.new A2 hc2_1).pad (pad_rep [] (.int (0 : Int32)) _)
  show Go p e below _ (T2.setTop (mkF m 12 #[.val (.ref o0), .val (.int (0 : Int32)), .val (.int p2), .val (.int p2), .unset] [(.ref ob2)]))
  refine Go.of (fun _ k => XS.astore X2.here hx rfl (hb hby d25_12) rfl rfl (l' := #[.val (.ref o0), .val (.int (0 : Int32)), .val (.int p2), .val (.int p2), .val (.ref ob2)]) rfl k) ?_
  show Go p e below _ (T2.setTop (mkF m 14 #[.val (.ref o0), .val (.int (0 : Int32)), .val (.int p2), .val (.int p2), .val (.ref ob2)] []))
  refine Go.of (fun _ k => XS.aloadN X2.here hx rfl (hb hby d25_14) rfl rfl k) ?_
  refine Go.of (fun _ k => XS.iloadN X2.here hx rfl (hb hby d25_15) rfl  k) ?_
  refine Go.of (fun _ k => XS.aload X2.here hx rfl (hb hby d25_16) rfl rfl k) ?_
  refine Go.of (fun _ k => XS.iconst X2.here hx rfl (hb hby d25_18) k) ?_
  refine Go.of (fun _ k => XS.aloadN X2.here hx rfl (hb hby d25_19) rfl rfl k) ?_
  have c3 : Arv Z h2 o0 kv .byte z0 vs0 (.int (0 : Int32)) := (V_o0.ext E2)
  obtain ⟨clt4, Art4, qt4, st4, nt4, Ht4, Gt4⟩ := id c3
  refine Go.of (fun _ k => X2.arraylength hx (by rw [e2]; exact Art4.1) (State.isArrayOf_alike hZ.alike Art4.2.1) (g := (mkF m 20 #[.val (.ref o0), .val (.int (0 : Int32)), .val (.int p2), .val (.int p2), .val (.ref ob2)] [(.ref o0), (.int (0 : Int32)), (.ref ob2), (.int (0 : Int32)), (.ref o0)])) rfl rfl (hb hby d25_20) _ k) ?_
  rw [len_of st4 nt4]
  show Go p e below _ (T2.setTop (mkF m 21 #[.val (.ref o0), .val (.int (0 : Int32)), .val (.int p2), .val (.int p2), .val (.ref ob2)] [(.int z0), (.int (0 : Int32)), (.ref ob2), (.int (0 : Int32)), (.ref o0)]))
  refine Go.of (fun _ k => XS.iloadN X2.here hx rfl (hb hby d25_21) rfl  k) ?_
  refine Go.of (fun _ k => XS.isub X2.here hx rfl (hb hby d25_22) rfl k) ?_
  show Go p e below _ (T2.setTop (mkF m 23 #[.val (.ref o0), .val (.int (0 : Int32)), .val (.int p2), .val (.int p2), .val (.ref ob2)] [(.int (z0 - (0 : Int32))), (.int (0 : Int32)), (.ref ob2), (.int (0 : Int32)), (.ref o0)]))
  rw [own_isub0]
  show Go p e below _ (T2.setTop (mkF m 23 #[.val (.ref o0), .val (.int (0 : Int32)), .val (.int p2), .val (.int p2), .val (.ref ob2)] [(.int z0), (.int (0 : Int32)), (.ref ob2), (.int (0 : Int32)), (.ref o0)]))
  refine Go.of (fun _ k => XS.iloadN X2.here hx rfl (hb hby d25_23) rfl  k) ?_
  obtain ⟨_, _, ⟨T5, L5, k5, n5⟩, -, X5, ⟨Lc5, hQ5, l5, y5, z5⟩, st5⟩ := Jvm.LawKit.callS X2 hx (y := own_y_Math_min_10) hown (mvT hZ (own_h hw 144 rfl)) (mvT hZ (own_h hw 145 rfl)) (mvT hZ (own_h hw 146 rfl)) (mvT hZ (own_h hw 147 rfl)) (by decide) (backOf (W := 4) (rm27_1 l Z a0 hw [] z0 p2 h2 n0 Z2 hlt) hZ (own_h hw 147 rfl) (own_h hw 146 rfl) (by decide) (by decide)) (g := (mkF m 24 #[.val (.ref o0), .val (.int (0 : Int32)), .val (.int p2), .val (.int p2), .val (.ref ob2)] [(.int p2), (.int z0), (.int (0 : Int32)), (.ref ob2), (.int (0 : Int32)), (.ref o0)])) rfl (by rw [hml]; rfl) (argsL := [(.int z0), (.int p2)]) (rest := [(.int (0 : Int32)), (.ref ob2), (.int (0 : Int32)), (.ref o0)]) (lenOf pd_7 rfl) rfl (Nat.le_of_eq rfl) (hb hby d25_24) (fun _ _ => ⟨rfl, e2, (by decide : 1 + 0 ≤ _), (by decide : 34 + 0 ≤ _)⟩)
  dsimp only [Pt.U, Pt.locs, Pt.cells, Pt.slots] at X5 l5 y5 z5 st5 hQ5
  subst l5 y5 z5
  obtain ⟨rfl, Nq5, q5_0⟩ := hQ5
  have N5 := Fr.app N1 Nq5
  refine Go.of st5 ?_
  show Go p e below _ (T5.setTop (mkF m 27 #[.val (.ref o0), .val (.int (0 : Int32)), .val (.int p2), .val (.int p2), .val (.ref ob2)] [(.int p2), (.int (0 : Int32)), (.ref ob2), (.int (0 : Int32)), (.ref o0)]))
  obtain ⟨T6, h6, L6, X6, e6, N6, q6_0, V6, st6⟩ := cpA X5 hx hZ hown (own_h hw 148 rfl) (own_h hw 83 rfl) (own_h hw 81 rfl) (own_h hw 82 rfl) q5_0 c3 V2 (Or.inl ⟨rfl, rfl⟩) (by decide) (by decide) hc2_1 (by show 0 + _ ≤ _; rw [Nat.zero_add]; exact own_nat (fun q => absurd q (own_asym hlt))) (by show 0 + _ ≤ _; rw [Nat.zero_add]; exact Nat.le_refl _) rfl (by show 0 + _ ≤ _; simp) N5 g_ob2 (g := (mkF m 27 #[.val (.ref o0), .val (.int (0 : Int32)), .val (.int p2), .val (.int p2), .val (.ref ob2)] [(.int p2), (.int (0 : Int32)), (.ref ob2), (.int (0 : Int32)), (.ref o0)])) rfl (by rw [hml]; rfl) (rest := []) rfl (hb hby d25_27) (by decide) (W := 0) (Nat.le_of_eq rfl) (by decide)
  refine Go.of st6 ?_
  have K6 : Keep h0 h6 [] := (K2).trans q6_0 (allS (Or.inr sz_ob2) all0)
  have Z6 : n0 ≤ h6.size := Nat.le_trans Z2 q6_0.1
  have Vc6 : Arv Z h6 ob2 k2 .byte p2 vs0 (.int (0 : Int32)) := own_cut V6 (own_lst _ _ _)
  show Go p e below _ (T6.setTop (mkF m 30 #[.val (.ref o0), .val (.int (0 : Int32)), .val (.int p2), .val (.int p2), .val (.ref ob2)] []))
  refine Go.of (fun _ k => XS.aload X6.here hx rfl (hb hby d25_30) rfl rfl k) ?_
  obtain ⟨fs, hr, hrun, hended, hW, hsame⟩ := X6.leave (v := some (.ref ob2)) (fun h => by rw [Bd.returns] at h; cases h)
  refine Go.mk _ _ ?_ hrun hended ⟨_, _, rfl, ?_, ⟨_, rfl⟩, hW, hsame.mono (by decide) (by decide)⟩
  · exact retOut X6 hx Bd.returns rfl (Or.inr (Or.inr (Or.inr (Or.inr ⟨rfl, rfl, rfl⟩)))) (hb hby d25_32) hr
  · show Q25 Z o0 p2 z0 vs0 kv h0 n0 _ T6.heap _
    rw [e6]
    exact ⟨ob2, k2, rfl, N6, K6, ⟨sz_ob2, g_ob2⟩, Vc6⟩
theorem d24_0 : decode jdk_65_method_132_code 0 = .ok (.iload_n 1, 1) := by decide +kernel
theorem d24_1 : decode jdk_65_method_132_code 1 = .ok (.ifCond .ne 9, 3) := by decide +kernel
theorem d24_4 : decode jdk_65_method_132_code 4 = .ok (.iload_n 2, 1) := by decide +kernel
theorem d24_5 : decode jdk_65_method_132_code 5 = .ok (.aload_n 0, 1) := by decide +kernel
theorem d24_6 : decode jdk_65_method_132_code 6 = .ok (.arraylength, 1) := by decide +kernel
theorem d24_7 : decode jdk_65_method_132_code 7 = .ok (.if_icmp .eq 10, 3) := by decide +kernel
theorem d24_17 : decode jdk_65_method_132_code 17 = .ok (.aload_n 0, 1) := by decide +kernel
theorem d24_18 : decode jdk_65_method_132_code 18 = .ok (.invokevirtual 310, 3) := by decide +kernel
theorem d24_21 : decode jdk_65_method_132_code 21 = .ok (.checkcast 311, 3) := by decide +kernel
theorem d24_24 : decode jdk_65_method_132_code 24 = .ok (.areturn, 1) := by decide +kernel
theorem d24_10 : decode jdk_65_method_132_code 10 = .ok (.aload_n 0, 1) := by decide +kernel
theorem d24_11 : decode jdk_65_method_132_code 11 = .ok (.iload_n 1, 1) := by decide +kernel
theorem d24_12 : decode jdk_65_method_132_code 12 = .ok (.iload_n 2, 1) := by decide +kernel
theorem d24_13 : decode jdk_65_method_132_code 13 = .ok (.invokestatic 339, 3) := by decide +kernel
theorem pd_14 : parseMethodDescriptor "([BII)[B" = some ⟨[(.array .byte), .int, .int], some (.array .byte)⟩ := by decide +kernel
abbrev own_y_Arrays_copyOfRangeByte_17 : MethodName := ⟨"java/util/Arrays", "copyOfRangeByte", "([BII)[B"⟩
theorem d24_16 : decode jdk_65_method_132_code 16 = .ok (.areturn, 1) := by decide +kernel
theorem ef_24l2_0 (m : MethodId) (x0 : Addr) (x2 : Int32) : entryFrame m #[(.ref x0), (.int (0 : Int32)), (.int x2)] 3 = mkF m 0 #[.val (.ref x0), .val (.int (0 : Int32)), .val (.int x2)] [] := by first | (simp [entryFrame, mkF, argsToLocals, Value.category]; done) | rfl
def Q24 (Z : State) (o0 : Addr) (p2 : Int32) (z0 : Int32) (vs0 : List Value) (kv : ClassId) (h0 : Heap) (n0 : Nat) (v : Option Value) (h : Heap) (L : List Loc) : Prop := ∃ r : Addr, ∃ rk : ClassId, v = some (.ref r) ∧ Fr n0 L ∧ Keep h0 h [] ∧ (h0.size ≤ r ∧ n0 ≤ r) ∧ Arv Z h r rk .byte p2 vs0 (.int (0 : Int32))
set_option maxRecDepth 65536 in
set_option maxHeartbeats 40000000 in
theorem rm24 (l : Launch) (Z : State) (a0 : Array Value) (hw : ∀ d ∈ tables_1, d.before a0 Z = true) (ws : List Jvm.Cond) (o0 : Addr) (p2 : Int32) (z0 : Int32) (vs0 : List Value) (kv : ClassId) (h0 : Heap) (n0 : Nat) (Z0 : n0 ≤ h0.size) (V_o0 : Arv Z h0 o0 kv .byte z0 vs0 (.int (0 : Int32))) (E_o0 : Exa Z h0 o0 "[B") (h34 : z0.toNatClampNeg ≤ 34) (hc2_1_6 : ¬ (p2 < (0 : Int32))) (hle : ¬ (z0 < p2)) :
    MetFree l (⟨"java/util/Arrays", "copyOfRange", "([BII)[B"⟩ : MethodName) (head1 (Jvm.Cond.code (⟨"java/util/Arrays", "copyOfRange", "([BII)[B"⟩ : MethodName) jdk_65_method_132_code 3 (some (.array .byte)) :: ws) ({ frames := 2, cells := 1, slots := 34, locals := 48 } : Room)) (fun a U => a = #[(.ref o0), (.int (0 : Int32)), (.int p2)] ∧ Z.Warmed39 U.vm ∧ U.heap = h0) (fun _ _ _ _ _ => True) (fun _ U o U' => ∃ v L, o = .returned v ∧ Q24 Z o0 p2 z0 vs0 kv h0 n0 v U'.heap L ∧ FrameEnd U o U' L ({ frames := 2, cells := 1, slots := 34, locals := 48 } : Room).cells ({ frames := 2, cells := 1, slots := 34, locals := 48 } : Room).slots) := by
  refine MetFree.of_bodySF (plainFor_of_name pn_java_util_Arrays) hisR ?_
  intro p e s m args below meth c s₁ Bd hml0 hP hK
  obtain ⟨rfl, hZ, hh⟩ := hP
  have hx := Bd.exec
  have hby := Bd.bytes
  have hml : c.maxLocals = 3 := hml0
  have hown : s.vm.findClass "java/util/Arrays" = some m.cls := findClass_of_methodNamed Bd.named
  have hnm := (name_of_methodNamed Bd.named Bd.method).1
  have X0 : Stand p l e ({ frames := 2, cells := 1, slots := 34, locals := 48 } : Room) s m #[(.ref o0), (.int (0 : Int32)), (.int p2)] below meth c s₁ [] 0 0 := Stand.of_body Bd
  have e0 : s₁.heap = h0 := by rw [← hh, Bd.state]; rfl
  have N0 := Fr.nil n0
  show Go p e below (fun o U' => ∃ v L, o = .returned v ∧ Q24 Z o0 p2 z0 vs0 kv h0 n0 v U'.heap L ∧ FrameEnd s o U' L ({ frames := 2, cells := 1, slots := 34, locals := 48 } : Room).cells ({ frames := 2, cells := 1, slots := 34, locals := 48 } : Room).slots) (s₁.setTop (entryFrame m #[(.ref o0), (.int (0 : Int32)), (.int p2)] 3))
  refine Go.of (fun _ k => castTop (ef_24l2_0 m o0 p2) k) ?_
  show Go p e below _ (s₁.setTop (mkF m 0 #[.val (.ref o0), .val (.int (0 : Int32)), .val (.int p2)] []))
  refine Go.of (fun _ k => XS.iloadN X0.here hx rfl (hb hby d24_0) rfl  k) ?_
  refine Go.of (fun _ k => XS.ifNo X0.here hx rfl (hb hby d24_1) rfl ((if0 _ _).trans (teq (by decide : (0 : Int32) = (0 : Int32))).2) k) ?_
  show Go p e below _ (s₁.setTop (mkF m 4 #[.val (.ref o0), .val (.int (0 : Int32)), .val (.int p2)] []))
  refine Go.of (fun _ k => XS.iloadN X0.here hx rfl (hb hby d24_4) rfl  k) ?_
  refine Go.of (fun _ k => XS.aloadN X0.here hx rfl (hb hby d24_5) rfl rfl k) ?_
  obtain ⟨clt1, Art1, qt1, st1, nt1, Ht1, Gt1⟩ := id V_o0
  refine Go.of (fun _ k => X0.arraylength hx (by rw [e0]; exact Art1.1) (State.isArrayOf_alike hZ.alike Art1.2.1) (g := (mkF m 6 #[.val (.ref o0), .val (.int (0 : Int32)), .val (.int p2)] [(.ref o0), (.int p2)])) rfl rfl (hb hby d24_6) _ k) ?_
  rw [len_of st1 nt1]
  show Go p e below _ (s₁.setTop (mkF m 7 #[.val (.ref o0), .val (.int (0 : Int32)), .val (.int p2)] [(.int z0), (.int p2)]))
  by_cases hc2 : p2 = z0
  ·
    refine Go.of (fun _ k => XS.icmpYes X0.here hx rfl (pc0 := 7) (pc' := 17) rfl (hb hby d24_7) rfl (teq hc2).1 (by decide) (by decide) k) ?_
    show Go p e below _ (s₁.setTop (mkF m 17 #[.val (.ref o0), .val (.int (0 : Int32)), .val (.int p2)] []))
    refine Go.of (fun _ k => XS.aloadN X0.here hx rfl (hb hby d24_17) rfl rfl k) ?_
    obtain ⟨T3, h3, X3, e3, E3, A3, B3, st3⟩ := cloneH X0 hx hZ (ad := "[B") hown (own_h hw 275 rfl) (own_h hw 276 rfl) (own_h hw 280 rfl) (own_h hw 278 rfl) (own_h hw 279 rfl) (own_h hw 281 rfl) e0 (Arv.arh V_o0) E_o0 (g := (mkF m 18 #[.val (.ref o0), .val (.int (0 : Int32)), .val (.int p2)] [(.ref o0)])) rfl (by rw [hml]; rfl) rfl (hb hby d24_18) (by decide) (W := 0) (cap := 34) (Nat.le_of_eq rfl) (by decide) h34 (by decide) (by decide)
    obtain ⟨ob3, g3⟩ : ∃ z, z = h0.size := ⟨_, rfl⟩
    rw [← g3] at A3 B3 st3
    refine Go.of st3 ?_
    have g_ob3 : n0 ≤ ob3 := Nat.le_trans Z0 (Nat.le_of_eq g3.symm)
    have sz_ob3 : h0.size ≤ ob3 := Nat.le_trans ((Keep.refl h0 [])).1 (Nat.le_of_eq g3.symm)
    have K3 : Keep h0 h3 [] := ((Keep.refl h0 [])).ext E3
    have Z3 : n0 ≤ h3.size := Nat.le_trans Z0 E3.1
    have V3 : Arv Z h3 ob3 kv .byte z0 vs0 (.int (0 : Int32)) := A3
    show Go p e below _ (T3.setTop (mkF m 21 #[.val (.ref o0), .val (.int (0 : Int32)), .val (.int p2)] [(.ref ob3)]))
    obtain ⟨T4, X4, e4, st4⟩ := castY X3 hx hZ hown (own_h hw 282 rfl) e3 (Ins.self B3) (g := (mkF m 21 #[.val (.ref o0), .val (.int (0 : Int32)), .val (.int p2)] [(.ref ob3)])) rfl rfl (hb hby d24_21)
    refine Go.of st4 ?_
    show Go p e below _ (T4.setTop (mkF m 24 #[.val (.ref o0), .val (.int (0 : Int32)), .val (.int p2)] [(.ref ob3)]))
    obtain ⟨fs, hr, hrun, hended, hW, hsame⟩ := X4.leave (v := some (.ref ob3)) (fun h => by rw [Bd.returns] at h; cases h)
    refine Go.mk _ _ ?_ hrun hended ⟨_, _, rfl, ?_, ⟨_, rfl⟩, hW, hsame.mono (by decide) (by decide)⟩
    · exact retOut X4 hx Bd.returns rfl (Or.inr (Or.inr (Or.inr (Or.inr ⟨rfl, rfl, rfl⟩)))) (hb hby d24_24) hr
    · show Q24 Z o0 p2 z0 vs0 kv h0 n0 _ T4.heap _
      rw [e4]
      exact ⟨ob3, kv, rfl, N0, K3, ⟨sz_ob3, g_ob3⟩, (by rw [hc2]; exact V3)⟩
  ·
    refine Go.of (fun _ k => XS.icmpNo X0.here hx rfl (hb hby d24_7) rfl (feq hc2).1 k) ?_
    show Go p e below _ (s₁.setTop (mkF m 10 #[.val (.ref o0), .val (.int (0 : Int32)), .val (.int p2)] []))
    refine Go.of (fun _ k => XS.aloadN X0.here hx rfl (hb hby d24_10) rfl rfl k) ?_
    refine Go.of (fun _ k => XS.iloadN X0.here hx rfl (hb hby d24_11) rfl  k) ?_
    refine Go.of (fun _ k => XS.iloadN X0.here hx rfl (hb hby d24_12) rfl  k) ?_
    obtain ⟨_, _, ⟨T6, L6, k6, n6⟩, -, X6, ⟨Lc6, hQ6, l6, y6, z6⟩, st6⟩ := Jvm.LawKit.callS X0 hx (y := own_y_Arrays_copyOfRangeByte_17) hown (mvT hZ (own_h hw 138 rfl)) (mvT hZ (own_h hw 139 rfl)) (mvT hZ (own_h hw 136 rfl)) (mvT hZ (own_h hw 140 rfl)) (by decide) (backOf (W := 0) (rm25 l Z a0 hw [] o0 p2 z0 vs0 kv h0 n0 Z0 hc2_1_6 h34 (own_ltn hle hc2) V_o0) hZ (own_h hw 140 rfl) (own_h hw 136 rfl) (by decide) (by decide)) (g := (mkF m 13 #[.val (.ref o0), .val (.int (0 : Int32)), .val (.int p2)] [(.int p2), (.int (0 : Int32)), (.ref o0)])) rfl (by rw [hml]; rfl) (argsL := [(.ref o0), (.int (0 : Int32)), (.int p2)]) (rest := []) (lenOf pd_14 rfl) rfl (Nat.le_of_eq rfl) (hb hby d24_13) (fun _ _ => ⟨rfl, e0, (by decide : 0 + 1 ≤ _), (by decide : 0 + 34 ≤ _)⟩)
    dsimp only [Pt.U, Pt.locs, Pt.cells, Pt.slots] at X6 l6 y6 z6 st6 hQ6
    subst l6 y6 z6
    obtain ⟨r_6, rk_6, rfl, Nq6, q6_0, q6_1, q6_2⟩ := hQ6
    have N6 := Fr.app N0 Nq6
    refine Go.of st6 ?_
    have K6 : Keep h0 T6.heap [] := ((Keep.refl h0 [])).trans q6_0 all0
    have Z6 : n0 ≤ T6.heap.size := Nat.le_trans Z0 q6_0.1
    have g_r_6 : n0 ≤ r_6 := q6_1.2
    have sz_r_6 : h0.size ≤ r_6 := Nat.le_trans ((Keep.refl h0 [])).1 q6_1.1
    show Go p e below _ (T6.setTop (mkF m 16 #[.val (.ref o0), .val (.int (0 : Int32)), .val (.int p2)] [(.ref r_6)]))
    obtain ⟨fs, hr, hrun, hended, hW, hsame⟩ := X6.leave (v := some (.ref r_6)) (fun h => by rw [Bd.returns] at h; cases h)
    refine Go.mk _ _ ?_ hrun hended ⟨_, _, rfl, ?_, ⟨_, rfl⟩, hW, hsame.mono (by decide) (by decide)⟩
    · exact retOut X6 hx Bd.returns rfl (Or.inr (Or.inr (Or.inr (Or.inr ⟨rfl, rfl, rfl⟩)))) (hb hby d24_16) hr
    · show Q24 Z o0 p2 z0 vs0 kv h0 n0 _ T6.heap _
      exact ⟨r_6, rk_6, rfl, N6, K6, ⟨sz_r_6, g_r_6⟩, q6_2⟩
theorem d20_0 : decode jdk_42_method_150_code 0 = .ok (.aload_n 0, 1) := by decide +kernel
theorem d20_1 : decode jdk_42_method_150_code 1 = .ok (.invokespecial 1, 3) := by decide +kernel
theorem d20_4 : decode jdk_42_method_150_code 4 = .ok (.aload_n 1, 1) := by decide +kernel
theorem d20_5 : decode jdk_42_method_150_code 5 = .ok (.invokevirtual 552, 3) := by decide +kernel
theorem pd_15 : parseMethodDescriptor "()[B" = some ⟨[], some (.array .byte)⟩ := by decide +kernel
abbrev own_y_AbstractStringBuilder_getValue_18 : MethodName := ⟨"java/lang/AbstractStringBuilder", "getValue", "()[B"⟩
theorem d20_8 : decode jdk_42_method_150_code 8 = .ok (.astore_n 3, 1) := by decide +kernel
theorem d20_9 : decode jdk_42_method_150_code 9 = .ok (.aload_n 1, 1) := by decide +kernel
theorem d20_10 : decode jdk_42_method_150_code 10 = .ok (.invokevirtual 549, 3) := by decide +kernel
abbrev own_y_StringBuilder_length_19 : MethodName := ⟨"java/lang/StringBuilder", "length", "()I"⟩
theorem d20_13 : decode jdk_42_method_150_code 13 = .ok (.istore 4, 2) := by decide +kernel
theorem d20_15 : decode jdk_42_method_150_code 15 = .ok (.aload_n 1, 1) := by decide +kernel
theorem d20_16 : decode jdk_42_method_150_code 16 = .ok (.invokevirtual 1047, 3) := by decide +kernel
theorem d20_19 : decode jdk_42_method_150_code 19 = .ok (.ifCond .eq 22, 3) := by decide +kernel
theorem d20_22 : decode jdk_42_method_150_code 22 = .ok (.aload_n 0, 1) := by decide +kernel
theorem d20_23 : decode jdk_42_method_150_code 23 = .ok (.iconst 0, 1) := by decide +kernel
theorem d20_24 : decode jdk_42_method_150_code 24 = .ok (.putfield 15, 3) := by decide +kernel
theorem d20_27 : decode jdk_42_method_150_code 27 = .ok (.aload_n 0, 1) := by decide +kernel
theorem d20_28 : decode jdk_42_method_150_code 28 = .ok (.aload_n 3, 1) := by decide +kernel
theorem d20_29 : decode jdk_42_method_150_code 29 = .ok (.iconst 0, 1) := by decide +kernel
theorem d20_30 : decode jdk_42_method_150_code 30 = .ok (.iload 4, 2) := by decide +kernel
theorem d20_32 : decode jdk_42_method_150_code 32 = .ok (.invokestatic 54, 3) := by decide +kernel
abbrev own_y_Arrays_copyOfRange_20 : MethodName := ⟨"java/util/Arrays", "copyOfRange", "([BII)[B"⟩
theorem d20_35 : decode jdk_42_method_150_code 35 = .ok (.putfield 9, 3) := by decide +kernel
theorem d20_38 : decode jdk_42_method_150_code 38 = .ok (.goto 59, 3) := by decide +kernel
theorem d20_97 : decode jdk_42_method_150_code 97 = .ok (.return_, 1) := by decide +kernel
theorem ef_20n2 (m : MethodId) (x0 : Addr) (x1 : Addr) : entryFrame m #[(.ref x0), (.ref x1), .null] 5 = mkF m 0 #[.val (.ref x0), .val (.ref x1), .val .null, .unset, .unset] [] := by first | (simp [entryFrame, mkF, argsToLocals, Value.category]; done) | rfl
def Q20 (Z : State) (o0 : Addr) (o1 : Addr) (z0 : Int32) (vs0 : List Value) (f_o1_value : Addr) (f_o1_count : Int32) (w_COMPACT_STRINGS : Int32) (u_o0_coder : Value) (kv : ClassId) (u_o0_value : Value) (h0 : Heap) (n0 : Nat) (v : Option Value) (h : Heap) (L : List Loc) : Prop := ∃ r0 : Addr, ∃ rk1 : ClassId, v = none ∧ Fr n0 L ∧ Keep h0 h [o0] ∧ Exa Z h o0 "java/lang/String" ∧ Fld Z h o0 "java/lang/String" "coder" "B" (.int (0 : Int32)) ∧ Fld Z h o0 "java/lang/String" "value" "[B" (.ref r0) ∧ (h0.size ≤ r0 ∧ n0 ≤ r0) ∧ Arv Z h r0 rk1 .byte f_o1_count vs0 (.int (0 : Int32))
set_option maxRecDepth 65536 in
set_option maxHeartbeats 40000000 in
theorem rm20 (l : Launch) (Z : State) (a0 : Array Value) (hw : ∀ d ∈ tables_1, d.before a0 Z = true) (ws : List Jvm.Cond) (o0 : Addr) (o1 : Addr) (z0 : Int32) (vs0 : List Value) (f_o1_value : Addr) (f_o1_count : Int32) (w_COMPACT_STRINGS : Int32) (u_o0_coder : Value) (kv : ClassId) (u_o0_value : Value) (h0 : Heap) (n0 : Nat) (Z0 : n0 ≤ h0.size) (F_o1_value : Fld Z h0 o1 "java/lang/AbstractStringBuilder" "value" "[B" (.ref f_o1_value)) (E_o1 : Exa Z h0 o1 "java/lang/StringBuilder") (F_o1_count : Fld Z h0 o1 "java/lang/AbstractStringBuilder" "count" "I" (.int f_o1_count)) (S_COMPACT_STRINGS : Sta Z h0 "java/lang/String" "COMPACT_STRINGS" "Z" (.int w_COMPACT_STRINGS)) (hc3_4 : ¬ (w_COMPACT_STRINGS = (0 : Int32))) (F_o1_coder : Fld Z h0 o1 "java/lang/AbstractStringBuilder" "coder" "B" (.int (0 : Int32))) (E_o0 : Exa Z h0 o0 "java/lang/String") (F_o0_coder : Fld Z h0 o0 "java/lang/String" "coder" "B" u_o0_coder) (g_o0 : n0 ≤ o0) (V_f_o1_value : Arv Z h0 f_o1_value kv .byte z0 vs0 (.int (0 : Int32))) (ne_f_o1_value_o0 : f_o1_value ≠ o0) (E_f_o1_value : Exa Z h0 f_o1_value "[B") (h34_7 : z0.toNatClampNeg ≤ 34) (hc2_1_6_7 : ¬ (f_o1_count < (0 : Int32))) (hle_7 : ¬ (z0 < f_o1_count)) (F_o0_value : Fld Z h0 o0 "java/lang/String" "value" "[B" u_o0_value) :
    MetFree l (⟨"java/lang/String", "<init>", "(Ljava/lang/AbstractStringBuilder;Ljava/lang/Void;)V"⟩ : MethodName) (head1 (Jvm.Cond.code (⟨"java/lang/String", "<init>", "(Ljava/lang/AbstractStringBuilder;Ljava/lang/Void;)V"⟩ : MethodName) jdk_42_method_150_code 5 none :: ws) ({ frames := 3, cells := 1, slots := 34, locals := 63 } : Room)) (fun a U => a = #[(.ref o0), (.ref o1), .null] ∧ Z.Warmed39 U.vm ∧ U.heap = h0) (fun _ _ _ _ _ => True) (fun _ U o U' => ∃ v L, o = .returned v ∧ Q20 Z o0 o1 z0 vs0 f_o1_value f_o1_count w_COMPACT_STRINGS u_o0_coder kv u_o0_value h0 n0 v U'.heap L ∧ FrameEnd U o U' L ({ frames := 3, cells := 1, slots := 34, locals := 63 } : Room).cells ({ frames := 3, cells := 1, slots := 34, locals := 63 } : Room).slots) := by
  refine MetFree.of_bodySF (plainFor_of_name pn_java_lang_String) hisR ?_
  intro p e s m args below meth c s₁ Bd hml0 hP hK
  obtain ⟨rfl, hZ, hh⟩ := hP
  have hx := Bd.exec
  have hby := Bd.bytes
  have hml : c.maxLocals = 5 := hml0
  have hown : s.vm.findClass "java/lang/String" = some m.cls := findClass_of_methodNamed Bd.named
  have hnm := (name_of_methodNamed Bd.named Bd.method).1
  have X0 : Stand p l e ({ frames := 3, cells := 1, slots := 34, locals := 63 } : Room) s m #[(.ref o0), (.ref o1), .null] below meth c s₁ [] 0 0 := Stand.of_body Bd
  have e0 : s₁.heap = h0 := by rw [← hh, Bd.state]; rfl
  have N0 := Fr.nil n0
  show Go p e below (fun o U' => ∃ v L, o = .returned v ∧ Q20 Z o0 o1 z0 vs0 f_o1_value f_o1_count w_COMPACT_STRINGS u_o0_coder kv u_o0_value h0 n0 v U'.heap L ∧ FrameEnd s o U' L ({ frames := 3, cells := 1, slots := 34, locals := 63 } : Room).cells ({ frames := 3, cells := 1, slots := 34, locals := 63 } : Room).slots) (s₁.setTop (entryFrame m #[(.ref o0), (.ref o1), .null] 5))
  refine Go.of (fun _ k => castTop (ef_20n2 m o0 o1) k) ?_
  show Go p e below _ (s₁.setTop (mkF m 0 #[.val (.ref o0), .val (.ref o1), .val .null, .unset, .unset] []))
  refine Go.of (fun _ k => XS.aloadN X0.here hx rfl (hb hby d20_0) rfl rfl k) ?_
  obtain ⟨T1, X1, e1, st1⟩ := initO X0 hx hZ hown (own_h hw 119 rfl) (own_h hw 19 rfl) (own_h hw 20 rfl) e0 (g := (mkF m 1 #[.val (.ref o0), .val (.ref o1), .val .null, .unset, .unset] [(.ref o0)])) rfl (by rw [hml]; rfl) rfl (hb hby d20_1) (by decide) (W := 0) (Nat.le_of_eq rfl) (by decide)
  refine Go.of st1 ?_
  show Go p e below _ (T1.setTop (mkF m 4 #[.val (.ref o0), .val (.ref o1), .val .null, .unset, .unset] []))
  refine Go.of (fun _ k => XS.aloadN X1.here hx rfl (hb hby d20_4) rfl rfl k) ?_
  obtain ⟨cq2, kq2, q2a, q2b, q2c⟩ := isOf hZ e1 E_o1
  obtain ⟨_, _, ⟨T2, L2, k2, n2⟩, -, X2, ⟨Lc2, hQ2, l2, y2, z2⟩, st2⟩ := X1.virtualBack hx (y := own_y_AbstractStringBuilder_getValue_18) (z := own_y_AbstractStringBuilder_getValue_18) hown (mvT hZ (own_h hw 120 rfl)) (mvT hZ (own_h hw 121 rfl)) (notFace_of_selects (args := #[]) (mvT hZ (own_h hw 123 rfl))) (mvT hZ (own_h hw 123 rfl)) (mvT hZ (own_h hw 122 rfl)) (by decide) (backOf (W := 0) (rm21 l Z a0 hw [] o1 f_o1_value h0 n0 Z0 F_o1_value) hZ (own_h hw 124 rfl) (own_h hw 16 rfl) (by decide) (by decide)) q2a q2c (g := (mkF m 5 #[.val (.ref o0), .val (.ref o1), .val .null, .unset, .unset] [(.ref o1)])) rfl (by rw [hml]; rfl) (Steps.refl _) (argsL := []) (rest := []) (lenOf pd_15 rfl) rfl (Nat.le_of_eq rfl) (hb hby d20_5) (fun _ _ => ⟨rfl, e1, (by decide : 0 + 0 ≤ _), (by decide : 0 + 0 ≤ _)⟩)
  dsimp only [Pt.U, Pt.locs, Pt.cells, Pt.slots] at X2 l2 y2 z2 st2 hQ2
  subst l2 y2 z2
  obtain ⟨rfl, Nq2, q2_0⟩ := hQ2
  have N2 := Fr.app N0 Nq2
  refine Go.tr st2 ?_
  show Go p e below _ (T2.setTop (mkF m 8 #[.val (.ref o0), .val (.ref o1), .val .null, .unset, .unset] [(.ref f_o1_value)]))
  refine Go.of (fun _ k => XS.astoreN X2.here hx rfl (hb hby d20_8) rfl rfl (l' := #[.val (.ref o0), .val (.ref o1), .val .null, .val (.ref f_o1_value), .unset]) rfl k) ?_
  show Go p e below _ (T2.setTop (mkF m 9 #[.val (.ref o0), .val (.ref o1), .val .null, .val (.ref f_o1_value), .unset] []))
  refine Go.of (fun _ k => XS.aloadN X2.here hx rfl (hb hby d20_9) rfl rfl k) ?_
  obtain ⟨cq3, kq3, q3a, q3b, q3c⟩ := isOf hZ q2_0 E_o1
  obtain ⟨_, _, ⟨T3, L3, k3, n3⟩, -, X3, ⟨Lc3, hQ3, l3, y3, z3⟩, st3⟩ := X2.virtualBack hx (y := own_y_AbstractStringBuilder_length_15) (z := own_y_StringBuilder_length_19) hown (mvT hZ (own_h hw 125 rfl)) (mvT hZ (own_h hw 126 rfl)) (own_nf (args := #[]) (mvT hZ (own_h hw 62 rfl)) rfl) (mvT hZ (own_h hw 128 rfl)) (mvT hZ (own_h hw 129 rfl)) (by decide) (backOf (W := 0) (rm22 l Z a0 hw [] o1 f_o1_count h0 n0 Z0 F_o1_count E_o1) hZ (own_h hw 130 rfl) (own_h hw 8 rfl) (by decide) (by decide)) q3a q3c (g := (mkF m 10 #[.val (.ref o0), .val (.ref o1), .val .null, .val (.ref f_o1_value), .unset] [(.ref o1)])) rfl (by rw [hml]; rfl) (Steps.refl _) (argsL := []) (rest := []) (lenOf pd_4 rfl) rfl (Nat.le_of_eq rfl) (hb hby d20_10) (fun _ _ => ⟨rfl, q2_0, (by decide : 0 + 0 ≤ _), (by decide : 0 + 0 ≤ _)⟩)
  dsimp only [Pt.U, Pt.locs, Pt.cells, Pt.slots] at X3 l3 y3 z3 st3 hQ3
  subst l3 y3 z3
  obtain ⟨rfl, Nq3, q3_0⟩ := hQ3
  have N3 := Fr.app N2 Nq3
  refine Go.tr st3 ?_
  show Go p e below _ (T3.setTop (mkF m 13 #[.val (.ref o0), .val (.ref o1), .val .null, .val (.ref f_o1_value), .unset] [(.int f_o1_count)]))
  refine Go.of (fun _ k => XS.istore X3.here hx rfl (hb hby d20_13) rfl (l' := #[.val (.ref o0), .val (.ref o1), .val .null, .val (.ref f_o1_value), .val (.int f_o1_count)]) rfl k) ?_
  show Go p e below _ (T3.setTop (mkF m 15 #[.val (.ref o0), .val (.ref o1), .val .null, .val (.ref f_o1_value), .val (.int f_o1_count)] []))
  refine Go.of (fun _ k => XS.aloadN X3.here hx rfl (hb hby d20_15) rfl rfl k) ?_
  obtain ⟨cq4, kq4, q4a, q4b, q4c⟩ := isOf hZ q3_0 E_o1
  obtain ⟨_, _, ⟨T4, L4, k4, n4⟩, -, X4, ⟨Lc4, hQ4, l4, y4, z4⟩, st4⟩ := X3.virtualBack hx (y := own_y_AbstractStringBuilder_isLatin1_13) (z := own_y_AbstractStringBuilder_isLatin1_13) hown (mvT hZ (own_h hw 133 rfl)) (mvT hZ (own_h hw 98 rfl)) (notFace_of_selects (args := #[]) (mvT hZ (own_h hw 100 rfl))) (mvT hZ (own_h hw 100 rfl)) (mvT hZ (own_h hw 99 rfl)) (by decide) (backOf (W := 0) (rm16 l Z a0 hw [] o1 w_COMPACT_STRINGS h0 n0 Z0 S_COMPACT_STRINGS hc3_4 F_o1_coder) hZ (own_h hw 101 rfl) (own_h hw 16 rfl) (by decide) (by decide)) q4a q4c (g := (mkF m 16 #[.val (.ref o0), .val (.ref o1), .val .null, .val (.ref f_o1_value), .val (.int f_o1_count)] [(.ref o1)])) rfl (by rw [hml]; rfl) (Steps.refl _) (argsL := []) (rest := []) (lenOf pd_11 rfl) rfl (Nat.le_of_eq rfl) (hb hby d20_16) (fun _ _ => ⟨rfl, q3_0, (by decide : 0 + 0 ≤ _), (by decide : 0 + 0 ≤ _)⟩)
  dsimp only [Pt.U, Pt.locs, Pt.cells, Pt.slots] at X4 l4 y4 z4 st4 hQ4
  subst l4 y4 z4
  obtain ⟨rfl, Nq4, q4_0⟩ := hQ4
  have N4 := Fr.app N3 Nq4
  refine Go.tr st4 ?_
  show Go p e below _ (T4.setTop (mkF m 19 #[.val (.ref o0), .val (.ref o1), .val .null, .val (.ref f_o1_value), .val (.int f_o1_count)] [(.int (1 : Int32))]))
  refine Go.of (fun _ k => XS.ifNo X4.here hx rfl (hb hby d20_19) rfl ((if0 _ _).trans (feq (by decide : ¬ ((1 : Int32) = (0 : Int32)))).1) k) ?_
  show Go p e below _ (T4.setTop (mkF m 22 #[.val (.ref o0), .val (.ref o1), .val .null, .val (.ref f_o1_value), .val (.int f_o1_count)] []))
  refine Go.of (fun _ k => XS.aloadN X4.here hx rfl (hb hby d20_22) rfl rfl k) ?_
  refine Go.of (fun _ k => XS.iconst X4.here hx rfl (hb hby d20_23) k) ?_
  obtain ⟨T5, h5, X5, e5, W5, st5⟩ := putFN X4 hx hZ hown (own_h hw 56 rfl) Via.refl q4_0 F_o0_coder E_o0 (Or.inr ⟨(own_h hw 31 rfl), rfl, hnm⟩) (own_h hw 29 rfl) (ty := .byte) (v' := .int (0 : Int32)) (by decide) rfl rfl (g := (mkF m 24 #[.val (.ref o0), .val (.ref o1), .val .null, .val (.ref f_o1_value), .val (.int f_o1_count)] [(.int (0 : Int32)), (.ref o0)])) rfl rfl (hb hby d20_24)
  refine Go.of st5 ?_
  have N5 := Fr.snoc X5 N4 g_o0
  have K5 : Keep h0 h5 [o0] := ((Keep.refl h0 [o0])).wr W5 (Or.inl (List.mem_of_getElem? (i := 0) rfl))
  have Z5 : n0 ≤ h5.size := Nat.le_trans Z0 (Keep.of_wr W5).1
  have f6 : Fld Z h5 o0 "java/lang/String" "coder" "B" (.int (0 : Int32)) := Fld.same W5 F_o0_coder
  show Go p e below _ (T5.setTop (mkF m 27 #[.val (.ref o0), .val (.ref o1), .val .null, .val (.ref f_o1_value), .val (.int f_o1_count)] []))
  refine Go.of (fun _ k => XS.aloadN X5.here hx rfl (hb hby d20_27) rfl rfl k) ?_
  refine Go.of (fun _ k => XS.aloadN X5.here hx rfl (hb hby d20_28) rfl rfl k) ?_
  refine Go.of (fun _ k => XS.iconst X5.here hx rfl (hb hby d20_29) k) ?_
  refine Go.of (fun _ k => XS.iload X5.here hx rfl (hb hby d20_30) rfl  k) ?_
  have c8 : Arv Z h5 f_o1_value kv .byte z0 vs0 (.int (0 : Int32)) := (V_f_o1_value.other W5 ne_f_o1_value_o0)
  have c9 : Exa Z h5 f_o1_value "[B" := (Exa.wr W5 E_f_o1_value)
  obtain ⟨_, _, ⟨T7, L7, k7, n7⟩, -, X7, ⟨Lc7, hQ7, l7, y7, z7⟩, st7⟩ := Jvm.LawKit.callS X5 hx (y := own_y_Arrays_copyOfRange_20) hown (mvT hZ (own_h hw 134 rfl)) (mvT hZ (own_h hw 135 rfl)) (mvT hZ (own_h hw 136 rfl)) (mvT hZ (own_h hw 137 rfl)) (by decide) (backOf (W := 1) (rm24 l Z a0 hw [] f_o1_value f_o1_count z0 vs0 kv h5 n0 Z5 c8 c9 h34_7 hc2_1_6_7 hle_7) hZ (own_h hw 137 rfl) (own_h hw 136 rfl) (by decide) (by decide)) (g := (mkF m 32 #[.val (.ref o0), .val (.ref o1), .val .null, .val (.ref f_o1_value), .val (.int f_o1_count)] [(.int f_o1_count), (.int (0 : Int32)), (.ref f_o1_value), (.ref o0)])) rfl (by rw [hml]; rfl) (argsL := [(.ref f_o1_value), (.int (0 : Int32)), (.int f_o1_count)]) (rest := [(.ref o0)]) (lenOf pd_14 rfl) rfl (Nat.le_of_eq rfl) (hb hby d20_32) (fun _ _ => ⟨rfl, e5, (by decide : 0 + 1 ≤ _), (by decide : 0 + 34 ≤ _)⟩)
  dsimp only [Pt.U, Pt.locs, Pt.cells, Pt.slots] at X7 l7 y7 z7 st7 hQ7
  subst l7 y7 z7
  obtain ⟨r_7, rk_7, rfl, Nq7, q7_0, q7_1, q7_2⟩ := hQ7
  have N7 := Fr.app N5 Nq7
  refine Go.of st7 ?_
  have K7 : Keep h0 T7.heap [o0] := (K5).trans q7_0 all0
  have Z7 : n0 ≤ T7.heap.size := Nat.le_trans Z5 q7_0.1
  have g_r_7 : n0 ≤ r_7 := q7_1.2
  have sz_r_7 : h0.size ≤ r_7 := Nat.le_trans (K5).1 q7_1.1
  show Go p e below _ (T7.setTop (mkF m 35 #[.val (.ref o0), .val (.ref o1), .val .null, .val (.ref f_o1_value), .val (.int f_o1_count)] [(.ref r_7), (.ref o0)]))
  have c10 : Fld Z h5 o0 "java/lang/String" "value" "[B" u_o0_value := (Fld.other W5 F_o0_value (Or.inr (slot_ne (Or.inr (own_h hw 30 rfl)) (Or.inr (own_h hw 31 rfl)) (by decide) (t := (.array .byte)) (t' := .byte) (by decide) (by decide))))
  have c11 : Fld Z T7.heap o0 "java/lang/String" "value" "[B" u_o0_value := (c10.keep q7_0 nin0)
  have c12 : Exa Z h5 o0 "java/lang/String" := (Exa.wr W5 E_o0)
  have c13 : Exa Z T7.heap o0 "java/lang/String" := (c12.keep q7_0)
  obtain ⟨T14, h14, X14, e14, W14, st14⟩ := putF X7 hx hZ hown (host := "") (Or.inl (own_h hw 49 rfl)) Via.refl rfl c11 c13 (Or.inr ⟨(own_h hw 30 rfl), rfl, hnm⟩) (own_h hw 29 rfl) (ty := (.array .byte)) (by decide) rfl rfl (g := (mkF m 35 #[.val (.ref o0), .val (.ref o1), .val .null, .val (.ref f_o1_value), .val (.int f_o1_count)] [(.ref r_7), (.ref o0)])) rfl rfl (hb hby d20_35)
  refine Go.of st14 ?_
  have N14 := Fr.snoc X14 N7 g_o0
  have K14 : Keep h0 h14 [o0] := (K7).wr W14 (Or.inl (List.mem_of_getElem? (i := 0) rfl))
  have Z14 : n0 ≤ h14.size := Nat.le_trans Z7 (Keep.of_wr W14).1
  have f15 : Fld Z h14 o0 "java/lang/String" "value" "[B" (.ref r_7) := Fld.same W14 c11
  show Go p e below _ (T14.setTop (mkF m 38 #[.val (.ref o0), .val (.ref o1), .val .null, .val (.ref f_o1_value), .val (.int f_o1_count)] []))
  refine Go.of (fun _ k => XS.goto X14.here hx rfl (pc0 := 38) (pc' := 97) rfl (hb hby d20_38) (by decide) (by decide) k) ?_
  show Go p e below _ (T14.setTop (mkF m 97 #[.val (.ref o0), .val (.ref o1), .val .null, .val (.ref f_o1_value), .val (.int f_o1_count)] []))
  have c17 : Exa Z h14 o0 "java/lang/String" := (Exa.wr W14 c13)
  have c18 : Fld Z T7.heap o0 "java/lang/String" "coder" "B" (.int (0 : Int32)) := (f6.keep q7_0 nin0)
  have c19 : Fld Z h14 o0 "java/lang/String" "coder" "B" (.int (0 : Int32)) := (Fld.other W14 c18 (Or.inr (slot_ne (Or.inr (own_h hw 31 rfl)) (Or.inr (own_h hw 30 rfl)) (by decide) (t := .byte) (t' := (.array .byte)) (by decide) (by decide))))
  have c20 : Arv Z h14 r_7 rk_7 .byte f_o1_count vs0 (.int (0 : Int32)) := (q7_2.other W14 (Ne.symm (Nat.ne_of_lt (Nat.lt_of_lt_of_le c12.lt q7_1.1))))
  obtain ⟨fs, hr, hrun, hended, hW, hsame⟩ := X14.leave (v := none) (fun _ => rfl)
  refine Go.mk _ _ ?_ hrun hended ⟨_, _, rfl, ?_, ⟨_, rfl⟩, hW, hsame.mono (by decide) (by decide)⟩
  · exact X14.returnOut hx Bd.returns (hb hby d20_97) hr
  · show Q20 Z o0 o1 z0 vs0 f_o1_value f_o1_count w_COMPACT_STRINGS u_o0_coder kv u_o0_value h0 n0 _ T14.heap _
    rw [e14]
    exact ⟨r_7, rk_7, rfl, N14, K14, c17, c19, f15, ⟨sz_r_7, g_r_7⟩, c20⟩
theorem d19_0 : decode jdk_42_method_53_code 0 = .ok (.aload_n 0, 1) := by decide +kernel
theorem d19_1 : decode jdk_42_method_53_code 1 = .ok (.aload_n 1, 1) := by decide +kernel
theorem d19_2 : decode jdk_42_method_53_code 2 = .ok (.aconst_null, 1) := by decide +kernel
theorem d19_3 : decode jdk_42_method_53_code 3 = .ok (.invokespecial 489, 3) := by decide +kernel
theorem pd_16 : parseMethodDescriptor "(Ljava/lang/AbstractStringBuilder;Ljava/lang/Void;)V" = some ⟨[(.object "java/lang/AbstractStringBuilder"), (.object "java/lang/Void")], none⟩ := by decide +kernel
abbrev own_y_String__init__21 : MethodName := ⟨"java/lang/String", "<init>", "(Ljava/lang/AbstractStringBuilder;Ljava/lang/Void;)V"⟩
theorem d19_6 : decode jdk_42_method_53_code 6 = .ok (.return_, 1) := by decide +kernel
theorem ef_19 (m : MethodId) (x0 : Addr) (x1 : Addr) : entryFrame m #[(.ref x0), (.ref x1)] 2 = mkF m 0 #[.val (.ref x0), .val (.ref x1)] [] := by first | (simp [entryFrame, mkF, argsToLocals, Value.category]; done) | rfl
def Q19 (Z : State) (o0 : Addr) (o1 : Addr) (z0 : Int32) (vs0 : List Value) (f_o1_value : Addr) (f_o1_count : Int32) (w_COMPACT_STRINGS : Int32) (u_o0_coder : Value) (kv : ClassId) (u_o0_value : Value) (h0 : Heap) (n0 : Nat) (v : Option Value) (h : Heap) (L : List Loc) : Prop := ∃ r0 : Addr, ∃ rk1 : ClassId, v = none ∧ Fr n0 L ∧ Keep h0 h [o0] ∧ Exa Z h o0 "java/lang/String" ∧ Fld Z h o0 "java/lang/String" "coder" "B" (.int (0 : Int32)) ∧ Fld Z h o0 "java/lang/String" "value" "[B" (.ref r0) ∧ (h0.size ≤ r0 ∧ n0 ≤ r0) ∧ Arv Z h r0 rk1 .byte f_o1_count vs0 (.int (0 : Int32))
set_option maxRecDepth 65536 in
set_option maxHeartbeats 40000000 in
theorem rm19 (l : Launch) (Z : State) (a0 : Array Value) (hw : ∀ d ∈ tables_1, d.before a0 Z = true) (ws : List Jvm.Cond) (o0 : Addr) (o1 : Addr) (z0 : Int32) (vs0 : List Value) (f_o1_value : Addr) (f_o1_count : Int32) (w_COMPACT_STRINGS : Int32) (u_o0_coder : Value) (kv : ClassId) (u_o0_value : Value) (h0 : Heap) (n0 : Nat) (Z0 : n0 ≤ h0.size) (F_o1_value : Fld Z h0 o1 "java/lang/AbstractStringBuilder" "value" "[B" (.ref f_o1_value)) (E_o1 : Exa Z h0 o1 "java/lang/StringBuilder") (F_o1_count : Fld Z h0 o1 "java/lang/AbstractStringBuilder" "count" "I" (.int f_o1_count)) (S_COMPACT_STRINGS : Sta Z h0 "java/lang/String" "COMPACT_STRINGS" "Z" (.int w_COMPACT_STRINGS)) (hc3_4_1 : ¬ (w_COMPACT_STRINGS = (0 : Int32))) (F_o1_coder : Fld Z h0 o1 "java/lang/AbstractStringBuilder" "coder" "B" (.int (0 : Int32))) (E_o0 : Exa Z h0 o0 "java/lang/String") (F_o0_coder : Fld Z h0 o0 "java/lang/String" "coder" "B" u_o0_coder) (g_o0 : n0 ≤ o0) (V_f_o1_value : Arv Z h0 f_o1_value kv .byte z0 vs0 (.int (0 : Int32))) (ne_f_o1_value_o0 : f_o1_value ≠ o0) (E_f_o1_value : Exa Z h0 f_o1_value "[B") (h34_7_1 : z0.toNatClampNeg ≤ 34) (hc2_1_6_7_1 : ¬ (f_o1_count < (0 : Int32))) (hle_7_1 : ¬ (z0 < f_o1_count)) (F_o0_value : Fld Z h0 o0 "java/lang/String" "value" "[B" u_o0_value) :
    MetFree l (⟨"java/lang/String", "<init>", "(Ljava/lang/StringBuilder;)V"⟩ : MethodName) (head1 (Jvm.Cond.code (⟨"java/lang/String", "<init>", "(Ljava/lang/StringBuilder;)V"⟩ : MethodName) jdk_42_method_53_code 2 none :: ws) ({ frames := 4, cells := 1, slots := 34, locals := 79 } : Room)) (fun a U => a = #[(.ref o0), (.ref o1)] ∧ Z.Warmed39 U.vm ∧ U.heap = h0) (fun _ _ _ _ _ => True) (fun _ U o U' => ∃ v L, o = .returned v ∧ Q19 Z o0 o1 z0 vs0 f_o1_value f_o1_count w_COMPACT_STRINGS u_o0_coder kv u_o0_value h0 n0 v U'.heap L ∧ FrameEnd U o U' L ({ frames := 4, cells := 1, slots := 34, locals := 79 } : Room).cells ({ frames := 4, cells := 1, slots := 34, locals := 79 } : Room).slots) := by
  refine MetFree.of_bodySF (plainFor_of_name pn_java_lang_String) hisR ?_
  intro p e s m args below meth c s₁ Bd hml0 hP hK
  obtain ⟨rfl, hZ, hh⟩ := hP
  have hx := Bd.exec
  have hby := Bd.bytes
  have hml : c.maxLocals = 2 := hml0
  have hown : s.vm.findClass "java/lang/String" = some m.cls := findClass_of_methodNamed Bd.named
  have hnm := (name_of_methodNamed Bd.named Bd.method).1
  have X0 : Stand p l e ({ frames := 4, cells := 1, slots := 34, locals := 79 } : Room) s m #[(.ref o0), (.ref o1)] below meth c s₁ [] 0 0 := Stand.of_body Bd
  have e0 : s₁.heap = h0 := by rw [← hh, Bd.state]; rfl
  have N0 := Fr.nil n0
  show Go p e below (fun o U' => ∃ v L, o = .returned v ∧ Q19 Z o0 o1 z0 vs0 f_o1_value f_o1_count w_COMPACT_STRINGS u_o0_coder kv u_o0_value h0 n0 v U'.heap L ∧ FrameEnd s o U' L ({ frames := 4, cells := 1, slots := 34, locals := 79 } : Room).cells ({ frames := 4, cells := 1, slots := 34, locals := 79 } : Room).slots) (s₁.setTop (entryFrame m #[(.ref o0), (.ref o1)] 2))
  refine Go.of (fun _ k => castTop (ef_19 m o0 o1) k) ?_
  show Go p e below _ (s₁.setTop (mkF m 0 #[.val (.ref o0), .val (.ref o1)] []))
  refine Go.of (fun _ k => XS.aloadN X0.here hx rfl (hb hby d19_0) rfl rfl k) ?_
  refine Go.of (fun _ k => XS.aloadN X0.here hx rfl (hb hby d19_1) rfl rfl k) ?_
  refine Go.of (fun _ k => XS.aconstNull X0.here hx rfl (hb hby d19_2) k) ?_
  obtain ⟨_, _, ⟨T1, L1, k1, n1⟩, -, X1, ⟨Lc1, hQ1, l1, y1, z1⟩, st1⟩ := X0.specialBack hx (y := own_y_String__init__21) rfl hown (mvT hZ (own_h hw 116 rfl)) (mvT hZ (own_h hw 117 rfl)) (mvT hZ (own_h hw 118 rfl)) (by decide) (backOf (W := 0) (rm20 l Z a0 hw [] o0 o1 z0 vs0 f_o1_value f_o1_count w_COMPACT_STRINGS u_o0_coder kv u_o0_value h0 n0 Z0 F_o1_value E_o1 F_o1_count S_COMPACT_STRINGS hc3_4_1 F_o1_coder E_o0 F_o0_coder g_o0 V_f_o1_value ne_f_o1_value_o0 E_f_o1_value h34_7_1 hc2_1_6_7_1 hle_7_1 F_o0_value) hZ (own_h hw 118 rfl) (own_h hw 22 rfl) (by decide) (by decide)) (g := (mkF m 3 #[.val (.ref o0), .val (.ref o1)] [.null, (.ref o1), (.ref o0)])) rfl (by rw [hml]; rfl) (Steps.refl _) (a := o0) (argsL := [(.ref o1), .null]) (rest := []) (lenOf pd_16 rfl) rfl (Nat.le_of_eq rfl) (hb hby d19_3) (fun _ _ => ⟨rfl, e0, (by decide : 0 + 1 ≤ _), (by decide : 0 + 34 ≤ _)⟩)
  dsimp only [Pt.U, Pt.locs, Pt.cells, Pt.slots] at X1 l1 y1 z1 st1 hQ1
  subst l1 y1 z1
  obtain ⟨r0_1, rk1_1, rfl, Nq1, q1_0, q1_1, q1_2, q1_3, q1_4, q1_5⟩ := hQ1
  have N1 := Fr.app N0 Nq1
  refine Go.tr st1 ?_
  have K1 : Keep h0 T1.heap [o0] := ((Keep.refl h0 [o0])).trans q1_0 (allS (Or.inl (List.mem_of_getElem? (i := 0) rfl)) all0)
  have Z1 : n0 ≤ T1.heap.size := Nat.le_trans Z0 q1_0.1
  have g_r0_1 : n0 ≤ r0_1 := q1_4.2
  have sz_r0_1 : h0.size ≤ r0_1 := Nat.le_trans ((Keep.refl h0 [o0])).1 q1_4.1
  show Go p e below _ (T1.setTop (mkF m 6 #[.val (.ref o0), .val (.ref o1)] []))
  obtain ⟨fs, hr, hrun, hended, hW, hsame⟩ := X1.leave (v := none) (fun _ => rfl)
  refine Go.mk _ _ ?_ hrun hended ⟨_, _, rfl, ?_, ⟨_, rfl⟩, hW, hsame.mono (by decide) (by decide)⟩
  · exact X1.returnOut hx Bd.returns (hb hby d19_6) hr
  · show Q19 Z o0 o1 z0 vs0 f_o1_value f_o1_count w_COMPACT_STRINGS u_o0_coder kv u_o0_value h0 n0 _ T1.heap _
    exact ⟨r0_1, rk1_1, rfl, N1, K1, q1_1, q1_2, q1_3, ⟨sz_r0_1, g_r0_1⟩, q1_5⟩
theorem d18_0 : decode jdk_67_method_42_code 0 = .ok (.new 18, 3) := by decide +kernel
theorem d18_3 : decode jdk_67_method_42_code 3 = .ok (.dup, 1) := by decide +kernel
theorem d18_4 : decode jdk_67_method_42_code 4 = .ok (.aload_n 0, 1) := by decide +kernel
theorem d18_5 : decode jdk_67_method_42_code 5 = .ok (.invokespecial 137, 3) := by decide +kernel
theorem pd_17 : parseMethodDescriptor "(Ljava/lang/StringBuilder;)V" = some ⟨[(.object "java/lang/StringBuilder")], none⟩ := by decide +kernel
abbrev own_y_String__init__22 : MethodName := ⟨"java/lang/String", "<init>", "(Ljava/lang/StringBuilder;)V"⟩
theorem d18_8 : decode jdk_67_method_42_code 8 = .ok (.areturn, 1) := by decide +kernel
theorem ef_18 (m : MethodId) (x0 : Addr) : entryFrame m #[(.ref x0)] 1 = mkF m 0 #[.val (.ref x0)] [] := by first | (simp [entryFrame, mkF, argsToLocals, Value.category]; done) | rfl
def Q18 (Z : State) (o0 : Addr) (z0 : Int32) (vs0 : List Value) (f_o0_value : Addr) (f_o0_count : Int32) (w_COMPACT_STRINGS : Int32) (kv : ClassId) (h0 : Heap) (n0 : Nat) (v : Option Value) (h : Heap) (L : List Loc) : Prop := ∃ r : Addr, ∃ r1 : Addr, ∃ rk2 : ClassId, v = some (.ref r) ∧ Fr n0 L ∧ Keep h0 h [] ∧ (h0.size ≤ r ∧ n0 ≤ r) ∧ Exa Z h r "java/lang/String" ∧ Fld Z h r "java/lang/String" "coder" "B" (.int (0 : Int32)) ∧ Fld Z h r "java/lang/String" "value" "[B" (.ref r1) ∧ (h0.size ≤ r1 ∧ n0 ≤ r1) ∧ Arv Z h r1 rk2 .byte f_o0_count vs0 (.int (0 : Int32))
set_option maxRecDepth 65536 in
set_option maxHeartbeats 40000000 in
theorem rm18 (l : Launch) (Z : State) (a0 : Array Value) (hw : ∀ d ∈ tables_1, d.before a0 Z = true) (ws : List Jvm.Cond) (o0 : Addr) (z0 : Int32) (vs0 : List Value) (f_o0_value : Addr) (f_o0_count : Int32) (w_COMPACT_STRINGS : Int32) (kv : ClassId) (h0 : Heap) (n0 : Nat) (Z0 : n0 ≤ h0.size) (F_o0_value : Fld Z h0 o0 "java/lang/AbstractStringBuilder" "value" "[B" (.ref f_o0_value)) (E_o0 : Exa Z h0 o0 "java/lang/StringBuilder") (F_o0_count : Fld Z h0 o0 "java/lang/AbstractStringBuilder" "count" "I" (.int f_o0_count)) (S_COMPACT_STRINGS : Sta Z h0 "java/lang/String" "COMPACT_STRINGS" "Z" (.int w_COMPACT_STRINGS)) (hc3_4_1_4 : ¬ (w_COMPACT_STRINGS = (0 : Int32))) (F_o0_coder : Fld Z h0 o0 "java/lang/AbstractStringBuilder" "coder" "B" (.int (0 : Int32))) (V_f_o0_value : Arv Z h0 f_o0_value kv .byte z0 vs0 (.int (0 : Int32))) (E_f_o0_value : Exa Z h0 f_o0_value "[B") (h34_7_1_4 : z0.toNatClampNeg ≤ 34) (hc2_1_6_7_1_4 : ¬ (f_o0_count < (0 : Int32))) (hle_7_1_4 : ¬ (z0 < f_o0_count)) :
    MetFree l (⟨"java/lang/StringBuilder", "toString", "()Ljava/lang/String;"⟩ : MethodName) (head1 (Jvm.Cond.code (⟨"java/lang/StringBuilder", "toString", "()Ljava/lang/String;"⟩ : MethodName) jdk_67_method_42_code 1 (some (.object "java/lang/String")) :: ws) ({ frames := 5, cells := 2, slots := 38, locals := 93 } : Room)) (fun a U => a = #[(.ref o0)] ∧ Z.Warmed39 U.vm ∧ U.heap = h0) (fun _ _ _ _ _ => True) (fun _ U o U' => ∃ v L, o = .returned v ∧ Q18 Z o0 z0 vs0 f_o0_value f_o0_count w_COMPACT_STRINGS kv h0 n0 v U'.heap L ∧ FrameEnd U o U' L ({ frames := 5, cells := 2, slots := 38, locals := 93 } : Room).cells ({ frames := 5, cells := 2, slots := 38, locals := 93 } : Room).slots) := by
  refine MetFree.of_bodySF (plainFor_of_name pn_java_lang_StringBuilder) hisR ?_
  intro p e s m args below meth c s₁ Bd hml0 hP hK
  obtain ⟨rfl, hZ, hh⟩ := hP
  have hx := Bd.exec
  have hby := Bd.bytes
  have hml : c.maxLocals = 1 := hml0
  have hown : s.vm.findClass "java/lang/StringBuilder" = some m.cls := findClass_of_methodNamed Bd.named
  have hnm := (name_of_methodNamed Bd.named Bd.method).1
  have X0 : Stand p l e ({ frames := 5, cells := 2, slots := 38, locals := 93 } : Room) s m #[(.ref o0)] below meth c s₁ [] 0 0 := Stand.of_body Bd
  have e0 : s₁.heap = h0 := by rw [← hh, Bd.state]; rfl
  have N0 := Fr.nil n0
  show Go p e below (fun o U' => ∃ v L, o = .returned v ∧ Q18 Z o0 z0 vs0 f_o0_value f_o0_count w_COMPACT_STRINGS kv h0 n0 v U'.heap L ∧ FrameEnd s o U' L ({ frames := 5, cells := 2, slots := 38, locals := 93 } : Room).cells ({ frames := 5, cells := 2, slots := 38, locals := 93 } : Room).slots) (s₁.setTop (entryFrame m #[(.ref o0)] 1))
  refine Go.of (fun _ k => castTop (ef_18 m o0) k) ?_
  show Go p e below _ (s₁.setTop (mkF m 0 #[.val (.ref o0)] []))
  obtain ⟨T1, h1, X1, e1, E1, A1, D1, -, st1⟩ := newO X0 hx hZ hown (own_h hw 111 rfl) (own_h hw 29 rfl) (own_h hw 22 rfl) e0 (g := (mkF m 0 #[.val (.ref o0)] [])) rfl (hb hby d18_0) (by decide) (by decide)
  obtain ⟨ob1, g1⟩ : ∃ z, z = h0.size := ⟨_, rfl⟩
  rw [← g1] at A1 D1 st1
  refine Go.of st1 ?_
  have g_ob1 : n0 ≤ ob1 := Nat.le_trans Z0 (Nat.le_of_eq g1.symm)
  have sz_ob1 : h0.size ≤ ob1 := Nat.le_trans ((Keep.refl h0 [])).1 (Nat.le_of_eq g1.symm)
  have K1 : Keep h0 h1 [] := ((Keep.refl h0 [])).ext E1
  have Z1 : n0 ≤ h1.size := Nat.le_trans Z0 E1.1
  have f2 : Fld Z h1 ob1 "java/lang/String" "value" "[B" .null := D1 (Or.inr (own_h hw 30 rfl)) (ty := (.array .byte)) (by decide)
  have f3 : Fld Z h1 ob1 "java/lang/String" "coder" "B" (.int (0 : Int32)) := D1 (Or.inr (own_h hw 31 rfl)) (ty := .byte) (by decide)
  show Go p e below _ (T1.setTop (mkF m 3 #[.val (.ref o0)] [(.ref ob1)]))
  refine Go.of (fun _ k => XS.dup X1.here hx rfl (hb hby d18_3) rfl rfl k) ?_
  refine Go.of (fun _ k => XS.aloadN X1.here hx rfl (hb hby d18_4) rfl rfl k) ?_
  have c5 : Fld Z h1 o0 "java/lang/AbstractStringBuilder" "value" "[B" (.ref f_o0_value) := (Fld.ext E1 F_o0_value)
  have c6 : Exa Z h1 o0 "java/lang/StringBuilder" := (Exa.ext E1 E_o0)
  have c7 : Fld Z h1 o0 "java/lang/AbstractStringBuilder" "count" "I" (.int f_o0_count) := (Fld.ext E1 F_o0_count)
  have c8 : Sta Z h1 "java/lang/String" "COMPACT_STRINGS" "Z" (.int w_COMPACT_STRINGS) := (Sta.ext E1 S_COMPACT_STRINGS)
  have c9 : Fld Z h1 o0 "java/lang/AbstractStringBuilder" "coder" "B" (.int (0 : Int32)) := (Fld.ext E1 F_o0_coder)
  have c10 : Arv Z h1 f_o0_value kv .byte z0 vs0 (.int (0 : Int32)) := (V_f_o0_value.ext E1)
  have c11 : Exa Z h1 f_o0_value "[B" := (Exa.ext E1 E_f_o0_value)
  obtain ⟨_, _, ⟨T4, L4, k4, n4⟩, -, X4, ⟨Lc4, hQ4, l4, y4, z4⟩, st4⟩ := X1.specialBack hx (y := own_y_String__init__22) rfl hown (mvT hZ (own_h hw 112 rfl)) (mvT hZ (own_h hw 113 rfl)) (mvT hZ (own_h hw 115 rfl)) (by decide) (backOf (W := 1) (rm19 l Z a0 hw [] ob1 o0 z0 vs0 f_o0_value f_o0_count w_COMPACT_STRINGS (.int (0 : Int32)) kv .null h1 n0 Z1 c5 c6 c7 c8 hc3_4_1_4 c9 A1 f3 g_ob1 c10 (Nat.ne_of_lt (Nat.lt_of_lt_of_le V_f_o0_value.lt (Nat.le_of_eq g1.symm))) c11 h34_7_1_4 hc2_1_6_7_1_4 hle_7_1_4 f2) hZ (own_h hw 115 rfl) (own_h hw 22 rfl) (by decide) (by decide)) (g := (mkF m 5 #[.val (.ref o0)] [(.ref o0), (.ref ob1), (.ref ob1)])) rfl (by rw [hml]; rfl) (Steps.refl _) (a := ob1) (argsL := [(.ref o0)]) (rest := [(.ref ob1)]) (lenOf pd_17 rfl) rfl (Nat.le_of_eq rfl) (hb hby d18_5) (fun _ _ => ⟨rfl, e1, (by decide : 1 + 1 ≤ _), (by decide : 4 + 34 ≤ _)⟩)
  dsimp only [Pt.U, Pt.locs, Pt.cells, Pt.slots] at X4 l4 y4 z4 st4 hQ4
  subst l4 y4 z4
  obtain ⟨r0_4, rk1_4, rfl, Nq4, q4_0, q4_1, q4_2, q4_3, q4_4, q4_5⟩ := hQ4
  have N4 := Fr.app N0 Nq4
  refine Go.tr st4 ?_
  have K4 : Keep h0 T4.heap [] := (K1).trans q4_0 (allS (Or.inr sz_ob1) all0)
  have Z4 : n0 ≤ T4.heap.size := Nat.le_trans Z1 q4_0.1
  have g_r0_4 : n0 ≤ r0_4 := q4_4.2
  have sz_r0_4 : h0.size ≤ r0_4 := Nat.le_trans (K1).1 q4_4.1
  show Go p e below _ (T4.setTop (mkF m 8 #[.val (.ref o0)] [(.ref ob1)]))
  obtain ⟨fs, hr, hrun, hended, hW, hsame⟩ := X4.leave (v := some (.ref ob1)) (fun h => by rw [Bd.returns] at h; cases h)
  refine Go.mk _ _ ?_ hrun hended ⟨_, _, rfl, ?_, ⟨_, rfl⟩, hW, hsame.mono (by decide) (by decide)⟩
  · exact retOut X4 hx Bd.returns rfl (Or.inr (Or.inr (Or.inr (Or.inr ⟨rfl, rfl, rfl⟩)))) (hb hby d18_8) hr
  · show Q18 Z o0 z0 vs0 f_o0_value f_o0_count w_COMPACT_STRINGS kv h0 n0 _ T4.heap _
    exact ⟨ob1, r0_4, rk1_4, rfl, N4, K4, ⟨sz_ob1, g_ob1⟩, q4_1, q4_2, q4_3, ⟨sz_r0_4, g_r0_4⟩, q4_5⟩
open Jvm.Free.Exc LibCode.Throwable in
theorem own_links {e : Env} {Z s : State} {a0 : Array Value} (hw : ∀ d ∈ tables_1, d.before a0 Z = true) (hZ : Z.Warmed39 s.vm) (howns : e.platform.frameOwnsMonitors = true) (hfin : e.platform.finalization = false) (hpl : e.platform.magicAccessors = ({} : Platform).magicAccessors)
    {h : Heap} {u0 u1 : Value} (SU : Sta Z h tN "UNASSIGNED_STACK" steD u0) (SS : Sta Z h tN "SUPPRESSED_SENTINEL" listD u1) :
    ∃ T : ThrowableC, T.Links e.platform s ∧ s.vm.findClass tN = some T.cT ∧ s.methodNamed? tFill = some T.fill ∧ s.methodNamed? tFill0 = some T.fill0 ∧ s.fieldFound? tN "stackTrace" steD = some (T.cT, T.kT, T.i17, T.fStack) ∧
      T.fStack.type = .array (.object "java/lang/StackTraceElement") ∧ ∃ cell : Cell, h[T.aS]? = some cell ∧ cell.vm.isStatics = true ∧ cell.slots[T.fUnassigned.slot]? = some u0 := by
  -- the class
  obtain ⟨⟨c, j0⟩, me0, n0, g0, nat0, co0, lk0, sg0⟩ := Cond.native_spec (mvT hZ (args := #[]) (own_h hw 183 rfl))
  have hc : s.vm.findClass tN = some c := findClass_of_methodNamed n0
  obtain ⟨k, hk, hname⟩ := Vm.findClass_spec hc
  obtain ⟨-, k', -, -, hk', -, -, -, -, hni⟩ := Cond.superclass_spec hc (mvT hZ (args := #[]) (own_h hw 180 rfl))
  cases hk.symm.trans hk'
  -- its two methods that fill in the trace
  obtain ⟨jF, meF, nF, gF, atF, stF, abF, -, -⟩ := Cond.ownMethod (x := tFill) hc hk (mvT hZ (args := #[]) (own_h hw 175 rfl))
  obtain ⟨meF', coF, gF', kF, byF, loF, reF, lkF, -, sgF⟩ := Cond.codeSync_spec nF (mvT hZ (args := #[]) (own_h hw 181 rfl))
  cases gF.symm.trans gF'
  obtain ⟨j0', me0', n0', g0', at0, st0, ab0, nm0, ds0⟩ := Cond.ownMethod (x := tFill0) hc hk (mvT hZ (args := #[]) (own_h hw 182 rfl))
  cases n0.symm.trans n0'
  cases g0.symm.trans g0'
  -- Object's constructor
  obtain ⟨mO, meO, nO, gO, stO, abO⟩ := Cond.instanceMethod_spec (mvT hZ (args := #[]) (own_h hw 19 rfl))
  obtain ⟨meO', coO, gO', kO, byO, -, -, lkO, -, sgO⟩ := Cond.code_spec nO (mvT hZ (args := #[]) (own_h hw 20 rfl))
  cases gO.symm.trans gO'
  obtain ⟨kOb, hkOb, hnOb⟩ := Vm.findClass_spec (findClass_of_methodNamed nO)
  obtain ⟨nmO, dsO⟩ := name_of_methodNamed nO gO
  -- the pool
  obtain ⟨c1, z1', cf, l1, r1, f1, p1⟩ := Cond.linkedMethod hc hk nO (mvT hZ (args := #[]) (own_h hw 164 rfl)) e.platform hpl
  obtain ⟨c27, z27, cf2, l27, r27, f27, p27⟩ := Cond.linkedMethod hc hk nF (mvT hZ (args := #[]) (own_h hw 173 rfl)) e.platform hpl
  cases f1.symm.trans f27
  obtain ⟨c202, z202, cf3, l202, r202, f202, p202⟩ := Cond.linkedMethod hc hk n0 (mvT hZ (args := #[]) (own_h hw 186 rfl)) e.platform hpl
  cases f1.symm.trans f202
  obtain ⟨c7, i7, q7, l7, r7, a7, s7, t7, -, -, -⟩ := Cond.ownField (t := .object tN) hc hk (by decide +kernel) (mvT hZ (args := #[]) (own_h hw 165 rfl)) (mvT hZ (args := #[]) (own_h hw 187 rfl)) e.platform hpl
  obtain ⟨c17, i17, q17, l17, r17, a17, s17, t17, m17, ty17, ff17⟩ := Cond.ownField (t := .array (.object "java/lang/StackTraceElement")) hc hk (by decide +kernel) (mvT hZ (args := #[]) (own_h hw 168 rfl)) (mvT hZ (args := #[]) (own_h hw 169 rfl)) e.platform hpl
  obtain ⟨c24, i24, q24, l24, r24, a24, s24, t24, m24, -, ff24⟩ := Cond.ownField (t := .object "java/util/List") hc hk (by decide +kernel) (mvT hZ (args := #[]) (own_h hw 171 rfl)) (mvT hZ (args := #[]) (own_h hw 172 rfl)) e.platform hpl
  obtain ⟨cE, hcE, kE, hkE⟩ : ∃ cE, s.vm.findClass "com/example/metasearchd/metasearchd/engine/EngineException" = some cE ∧ ∃ kE, s.vm.classes[cE]? = some kE := by
    obtain ⟨cE, kE, -, -, -, -, h1, h2, -⟩ := Cond.lays_spec (mvT hZ (args := #[]) (own_h hw 172 rfl))
    exact ⟨cE, h1, kE, h2⟩
  obtain ⟨-, d17, hd17, hn17⟩ := Cond.laysAt hcE hkE ff17 (mvT hZ (args := #[]) (own_h hw 169 rfl))
  obtain ⟨-, d24, hd24, hn24⟩ := Cond.laysAt hcE hkE ff24 (mvT hZ (args := #[]) (own_h hw 172 rfl))
  have apart := Cond.laysApart hd17 hd24 hn17 hn24 (by rw [m17, m24]; decide)
  obtain ⟨cM, kM, iM, -, -, qM, -, -, ffM, sM, tM, -⟩ := Cond.lays_spec (mvT hZ (args := #[]) (own_h hw 189 rfl))
  -- the statics
  obtain ⟨d13, v13, i13, q13, aS, -, e13, y1, y2, y4, -⟩ := Cond.laysStatic_spec (own_h hw 193 rfl)
  obtain ⟨cU, iU, kU, qU, stU, cell, z1, -, z3, z4, z5, z6, z7⟩ := SU
  cases y1.symm.trans z1
  cases z4.symm.trans y4
  obtain ⟨v13', y1', ek13⟩ := State.fieldFound?_setVm hZ.alike y1
  obtain ⟨c13, x13, w13, j13, o13, ff13, l13, r13⟩ := Cond.fieldLink_spec hc (mvT hZ (args := #[]) (own_h hw 167 rfl)) e.platform hpl
  cases Option.some.inj (ff13.symm.trans y1')
  have ed13 : d13 = c := Option.some.inj (e13.symm.trans ((hZ.alike.findClass _ _).symm.trans hc))
  subst ed13
  obtain ⟨hk13, a13⟩ := State.fieldFound?_spec ff13
  cases hk13.symm.trans hk
  obtain ⟨d20, v20, i20, q20, aT, -, e20, x1, x2, -, -⟩ := Cond.laysStatic_spec (own_h hw 194 rfl)
  obtain ⟨v20', x1', ek20⟩ := State.fieldFound?_setVm hZ.alike x1
  obtain ⟨c20, x20, w20, j20, o20, ff20, l20, r20⟩ := Cond.fieldLink_spec hc (mvT hZ (args := #[]) (own_h hw 170 rfl)) e.platform hpl
  cases Option.some.inj (ff20.symm.trans x1')
  have ed20 : d20 = d13 := Option.some.inj (e20.symm.trans e13)
  subst ed20
  obtain ⟨hk20, a20⟩ := State.fieldFound?_spec ff20
  cases hk20.symm.trans hk
  have pF : meF.sig.parameters = [] := by
    have q : parseMethodDescriptor tFill.desc = some ⟨[], some (.object tN)⟩ := by decide +kernel
    rw [← Option.some.inj (q.symm.trans sgF)]
  have p0 : me0.sig.parameters = [.int] := by
    have q : parseMethodDescriptor tFill0.desc = some ⟨[.int], some (.object tN)⟩ := by decide +kernel
    rw [← Option.some.inj (q.symm.trans sg0)]
  have pO : meO.sig.parameters.length = 0 := by
    have q : parseMethodDescriptor "()V" = some ⟨[], none⟩ := by decide +kernel
    rw [← Option.some.inj (q.symm.trans sgO)]; rfl
  let T : ThrowableC := { cT := d20, kT := k, cO := d20, aS := aS, fillIdx := jF, fill0Idx := j0, initSIdx := jF, obj := mO, kObj := kOb, methFill := meF, methFill0 := me0, methInitS := meF, methObj := meO, codeFill := coF, codeInitS := coF, codeObj := coO, fBack := q7, fDepth := q7, fStack := q17, fCause := q7, fSupp := q24, fMsg := qM, fUnassigned := q13, fSentinel := q20, cfT := cf, ci1 := c1, n1 := z1', ci27 := c27, n27 := z27, ci202 := c202, n202 := z202, ci7 := c7, i7 := i7, ci13 := c13, i13 := i13, ci17 := c17, i17 := i17, ci20 := c20, i20 := i20, ci24 := c24, i24 := i24 }
  refine ⟨T, ?_, hc, nF, n0, ff17, ty17, cell, z5, z6, z7⟩
  constructor
  case owns => exact howns
  case noFinalization => exact hfin
  case objFound => show lookupSpecial s.vm mO.cls "<init>" meO.desc = .method mO; rw [dsO]; exact lookupSpecial_of_named nO gO stO
  case boot => exact Vm.findClass_boot hc hk
  case initialized => exact Cond.initialized_spec hc hk (mvT hZ (args := #[]) (own_h hw 162 rfl))
  case statics => show k.statics = some aS; rw [ek13]; exact y4
  all_goals assumption
open Jvm.Free.Exc LibCode.Throwable in
theorem own_fill {p : Program} {l : Launch} {e : Env} {R : Room} {s : State} {m : MethodId} {args : Array Value} {below : List Frame} {meth : Method} {c : Code} {T : State} {locs : List Loc} {slots : Nat} {Z : State} {a0 : Array Value} {h : Heap}
    (X : Stand p l e R s m args below meth c T locs 0 slots) (hx : p.tables.exec = Jvm.exec) (hl : l.stackTraces = true) (hZ : Z.Warmed39 s.vm) (hown : s.vm.findClass tN = some m.cls) (hw : ∀ d ∈ tables_1, d.before a0 Z = true) (hTK : s.vm.MethodsKnown) (hBelow : s.vm.FramesKnown below)
    (eT : T.heap = h) {a : Addr} (hlocs : ∀ y ∈ locs, y.base = a) (E : Exa Z h a "com/example/metasearchd/metasearchd/engine/EngineException") (N : Unt h a) {u0 u1 : Value} (ru : u0.isRef = true) (FS : Fld Z h a tN "stackTrace" steD u0) (FB : Fld Z h a tN "backtrace" obD .null) (SU : Sta Z h tN "UNASSIGNED_STACK" steD u0) (SS : Sta Z h tN "SUPPRESSED_SENTINEL" listD u1)
    {n0 : Nat} (Nf : Fr n0 locs) (ge : n0 ≤ a) {g : JFrame} (hg : g.method = m) (hsize : g.locals.size = c.maxLocals) {rest : List Value} (hs : g.stack = .ref a :: rest) (hd : decode c.code g.pc = .ok (.invokevirtual 27, 3)) (hf : 3 ≤ R.frames)
    {W : Nat} (hW : 2 * g.monitorRoom + (rest.map fun v => v.category).sum ≤ W) (hlo : W + 42 ≤ R.locals) (hc : 1 ≤ R.cells) (hsl : slots + 2752 ≤ R.slots) :
    ∃ T' h' L, Stand p l e R s m args below meth c T' L 1 (slots + 2752) ∧ T'.heap = h' ∧ Fr n0 L ∧ Keep h h' [a] ∧ Exa Z h' a "com/example/metasearchd/metasearchd/engine/EngineException" ∧ (∃ v, Fld Z h' a tN "detailMessage" msgD v) ∧ (∃ v, Fld Z h' a tN "cause" thD v) ∧ (∃ v, Fld Z h' a "com/example/metasearchd/metasearchd/engine/EngineException" "reason" msgD v) ∧
      ∀ target, Steps p.tables e below (T'.setTop { g with pc := g.pc + 3, stack := .ref a :: rest }) target → Steps p.tables e below (T.setTop g) target := by
  have htr : e.platform.stackTraces = true := by rw [X.admits.platform]; exact hl
  have hpl : e.platform.magicAccessors = ({} : Platform).magicAccessors := by rw [X.admits.platform]
  obtain ⟨TC, L, hT, hnF, hn0, ff17, ty17, cellS, zS, isS, vS⟩ := own_links (e := e) hw hZ (by rw [X.admits.platform]) (by rw [X.admits.platform]) hpl SU SS
  obtain ⟨C, u1', u2, u3⟩ := N
  have E0 := E
  obtain ⟨C', kE, e1, e2, e3, e4, e5⟩ := E
  cases e1.symm.trans u1'
  obtain ⟨cI, kI, i1, i2, i3, -⟩ := Cond.instantiable_spec (own_h hw 5 rfl)
  cases e2.symm.trans i1
  cases e3.symm.trans i2
  obtain ⟨kX, hk, ekX⟩ := hZ.alike.2.2 _ _ e3
  have hfound : s.vm.findClass "com/example/metasearchd/metasearchd/engine/EngineException" = some C.cls := by rw [hZ.alike.findClass]; exact e2
  have hord : kX.kind = .ordinary := by rw [ekX]; exact i3
  have hsz : C.slots.size = kX.instanceTypes.size := by rw [ekX]; exact e5 i3
  have tk : ∀ {f : Field} {v : Value}, kX.instanceTypes[f.slot]? = some f.type → fits f.type v = true → Jvm.Takes s C f v := fun {f v} h1 h2 => by
    obtain ⟨q1, q2⟩ := Takes.of_laid (v := v) hk hord h1 h2
    exact ⟨by rw [hsz]; simpa using q1, by rw [u2]; exact q2⟩
  have hsel0 : selectMethod e.platform s.vm C.cls TC.fill0 = .method TC.fill0 := by
    obtain ⟨c2, r2, m2, q1, q2, q3, q4, -⟩ := Cond.selects_spec (mvT hZ (args := #[]) (own_h hw 195 rfl))
    cases Option.some.inj (q1.symm.trans hfound)
    cases Option.some.inj (q2.symm.trans (State.methodFound?_of_named hn0 (by decide)))
    cases Option.some.inj (q3.symm.trans hn0)
    rw [Launch.admits_selectMethod X.admits]; exact q4
  have rd : ∀ {n d : String} {v : Value} {ct : Nat} {kt : Class} {it : Nat} {ft : Field}, Fld Z h a tN n d v → s.fieldFound? tN n d = some (ct, kt, it, ft) → C.slots[ft.slot]? = some v := fun {n d v ct kt it ft} F ff => by
    obtain ⟨c9, cf, k9, i9, f9, h1, h2, -, -, -, -, h7⟩ := F
    obtain ⟨k9', h2', -⟩ := State.fieldFound?_setVm hZ.alike h2
    cases Option.some.inj (ff.symm.trans h2')
    cases h1.symm.trans u1'
    exact h7
  have hSE := (mvT hZ (args := #[]) (own_h hw 176 rfl))
  obtain ⟨c198, i198, fB, lB, rB, aB, sB, -, nB, tB, ffB⟩ := Cond.ownField (t := .object "java/lang/Object") hT L.cls (by decide +kernel) (mvT hZ (args := #[]) (own_h hw 191 rfl)) (mvT hZ (args := #[]) (own_h hw 192 rfl)) e.platform hpl
  obtain ⟨-, -, cD, kD, iD, fD, -, -, ffD, stD, -, -, -, -⟩ := Cond.lays_spec (mvT hZ (args := #[]) (own_h hw 198 rfl))
  cases Option.some.inj ((Cond.lays_declared (mvT hZ (args := #[]) (own_h hw 198 rfl)) ffD).symm.trans hT)
  obtain ⟨hkD, hatD⟩ := State.fieldFound?_spec ffD
  cases Option.some.inj (hkD.symm.trans L.cls)
  obtain ⟨nD, tD⟩ := State.fieldFound?_type ffD (t := .int) (by decide +kernel)
  have hfb := Cond.soleField_find hT L.cls (mvT hZ (args := #[]) (own_h hw 178 rfl)) aB nB sB
  have hfd := Cond.soleField_find hT L.cls (mvT hZ (args := #[]) (own_h hw 179 rfl)) hatD nD stD
  obtain ⟨comp, cO, kO, -, -, hkO, hkindO, hO⟩ := Cond.arrayOver_spec (args := #[]) (Cond.arrayOver_alike hZ.alike (own_h hw 177 rfl))
  obtain ⟨tyS, -, -, -⟩ := Cond.laysAt hfound hk ff17 (mvT hZ (args := #[]) (own_h hw 169 rfl))
  obtain ⟨tyB, -, -, -⟩ := Cond.laysAt hfound hk ffB (mvT hZ (args := #[]) (own_h hw 197 rfl))
  obtain ⟨tyD, -, -, -⟩ := Cond.laysAt hfound hk ffD (mvT hZ (args := #[]) (own_h hw 198 rfl))
  have hneS : TC.aS ≠ a := fun q => by rw [q, u1'] at zS; cases zS; rw [isS] at e4; cases e4
  have hknS : cellS.vm ≠ .unknown := fun q => by rw [q] at isS; cases isS
  obtain ⟨v6, vm6, ⟨T6, L6, c6, n6⟩, -, X6, ⟨hv6, C6, n, hn, hD6, q1, q2, q3, q4, hL6, hc6, hn6⟩, come⟩ := X.virtualBack hx (own := tN) (C := "com/example/metasearchd/metasearchd/engine/EngineException") (index := 27) (y := tFill) (z := tFill) hown (mvT hZ (args := #[]) (own_h hw 173 rfl)) (mvT hZ (args := #[]) (own_h hw 174 rfl)) (notFace_of_selects (args := #[]) hSE) hSE (mvT hZ (args := #[]) (own_h hw 175 rfl)) (by decide)
    (fillPaysAny (l := l) (W := W) hx htr TC L hnF (u0 := ⟨u0, ru⟩) (self := a) (cell := C) (cellS := cellS) (fun _ => by rw [u2]; simp) (by rw [u2]; simp) (by rw [u3]) (by rw [u3]) (rd FS ff17) hsel0 hneS hknS vS (tk tyS (by rw [ty17]; exact fits_refV_array _ ⟨u0, ru⟩))
      ⟨{ ci198 := c198, i198 := i198, fBack := fB }, ⟨lB, rB, aB, sB⟩, rd FB ffB⟩ hTK hBelow hT hO hkO hkindO hfb hfd (fun x => tk tyB (by rw [tB]; rfl)) (fun x => tk tyD (by rw [tD]; rfl)) (by omega) hlo)
    (b := a) (cB := C.cls) hfound ⟨C, by rw [eT]; exact u1', rfl, by rw [u2]; rfl⟩ hg hsize (Steps.refl _) (argsL := []) (rest := rest)
    (fun sig h => by rw [show parseMethodDescriptor tFill.desc = some ⟨[], some (.object tN)⟩ from by decide +kernel] at h; rw [← Option.some.inj h]; rfl) hs hW hd
    (fun vmx hWx => ⟨rfl, by show 0 + 1 ≤ R.cells; omega, hsl, by show T.heap[a]? = _; rw [eT]; exact u1', by show T.heap[TC.aS]? = _; rw [eT]; exact zS⟩)
  dsimp only [Pt.U, Pt.locs, Pt.cells, Pt.slots] at X6 hD6 hL6 hc6 hn6 come
  subst hv6 hL6 hc6 hn6
  have hl6 : ∀ y ∈ locs ++ [⟨a, fB.slot⟩, ⟨a, fD.slot⟩, ⟨a, TC.fStack.slot⟩], y.base = a := fun y hy => by
    rcases List.mem_append.mp hy with hy | hy
    · exact hlocs y hy
    · simp only [List.mem_cons, List.not_mem_nil, or_false] at hy
      rcases hy with rfl | rfl | rfl <;> rfl
  have K1 : Jvm.Free.Exc.Kept s T locs := X.same.2.2.2.2.2
  have K2 : Jvm.Free.Exc.Kept s T6 _ := X6.same.2.2.2.2.2
  have z1 : h.size ≤ s.heap.size := by have := X.heapSize; rw [eT] at this; omega
  have z2 : s.heap.size ≤ T6.heap.size := X6.same.2.1
  have kp : ∀ (y : Addr) (cy : Cell), h[y]? = some cy → y ≠ a → T6.heap[y]? = some cy := fun y cy hy hne => by
    have lt : y < s.heap.size := Nat.lt_of_lt_of_le (Array.getElem?_eq_some_iff.mp hy).1 z1
    have g0 : s.heap[y]? = some s.heap[y] := Array.getElem?_eq_getElem lt
    have g1 := K1.other hlocs hne g0
    rw [eT, hy] at g1
    rw [K2.other hl6 hne g0, ← g1]
  have K : Keep h T6.heap [a] := ⟨Nat.le_trans z1 z2, fun y cy hy hne => kp y cy hy (by simpa using hne), fun y cy hy => by
    by_cases hya : y = a
    · subst hya; cases hy.symm.trans u1'; exact ⟨C6, hD6, q1, q2, q3⟩
    · exact ⟨cy, kp y cy hy hya, rfl, rfl, rfl⟩⟩
  have E6 : Exa Z T6.heap a "com/example/metasearchd/metasearchd/engine/EngineException" := E0.keep K
  have un : ∃ cell : Cell, T6.heap[a]? = some cell ∧ cell.vm ≠ .unknown := ⟨C6, hD6, by rw [q2, u2]; simp⟩
  exact ⟨T6, T6.heap, _, X6.more (Nat.le_of_eq (Nat.zero_add 1)) (Nat.add_le_add_left hn _), rfl, Nf.app (fun y hy => by have := hl6 y (List.mem_append.mpr (Or.inr hy)); rw [this]; exact ge), K, E6, fld_laid E6 un (own_h hw 5 rfl) (Or.inl (own_h hw 196 rfl)), fld_laid E6 un (own_h hw 5 rfl) (Or.inl (own_h hw 166 rfl)), fld_laid E6 un (own_h hw 5 rfl) (Or.inr (own_h hw 202 rfl)), fun target q => come.trans q⟩

theorem own_b0 {a : Addr} : ∀ y ∈ ([] : List Loc), y.base = a := fun _ q => nomatch q
theorem own_bS {a : Addr} {sl : Nat} {L : List Loc} (r : ∀ y ∈ L, y.base = a) : ∀ y ∈ L ++ [⟨a, sl⟩], y.base = a := fun y hy => by
  rcases List.mem_append.mp hy with q | q
  · exact r y q
  · cases List.mem_singleton.mp q; rfl
theorem own_sznn {b : Nat} (hb : b ≤ 1000) (x : Int32) : ¬ (own_sz b x < (0 : Int32)) := by
  rw [Int32.lt_iff_toInt_lt, own_szI hb x, show (0 : Int32).toInt = 0 from rfl]; omega
theorem d30_0 : decode jdk_78_method_3_code 0 = .ok (.aload_n 0, 1) := by decide +kernel
theorem d30_1 : decode jdk_78_method_3_code 1 = .ok (.invokespecial 1, 3) := by decide +kernel
theorem d30_4 : decode jdk_78_method_3_code 4 = .ok (.aload_n 0, 1) := by decide +kernel
theorem d30_5 : decode jdk_78_method_3_code 5 = .ok (.aload_n 0, 1) := by decide +kernel
theorem d30_6 : decode jdk_78_method_3_code 6 = .ok (.putfield 7, 3) := by decide +kernel
theorem d30_9 : decode jdk_78_method_3_code 9 = .ok (.aload_n 0, 1) := by decide +kernel
theorem d30_10 : decode jdk_78_method_3_code 10 = .ok (.getstatic 13, 3) := by decide +kernel
theorem d30_13 : decode jdk_78_method_3_code 13 = .ok (.putfield 17, 3) := by decide +kernel
theorem d30_16 : decode jdk_78_method_3_code 16 = .ok (.aload_n 0, 1) := by decide +kernel
theorem d30_17 : decode jdk_78_method_3_code 17 = .ok (.getstatic 20, 3) := by decide +kernel
theorem d30_20 : decode jdk_78_method_3_code 20 = .ok (.putfield 24, 3) := by decide +kernel
theorem d30_23 : decode jdk_78_method_3_code 23 = .ok (.aload_n 0, 1) := by decide +kernel
theorem d30_24 : decode jdk_78_method_3_code 24 = .ok (.invokevirtual 27, 3) := by decide +kernel
theorem d30_27 : decode jdk_78_method_3_code 27 = .ok (.pop, 1) := by decide +kernel
theorem d30_28 : decode jdk_78_method_3_code 28 = .ok (.aload_n 0, 1) := by decide +kernel
theorem d30_29 : decode jdk_78_method_3_code 29 = .ok (.aload_n 1, 1) := by decide +kernel
theorem d30_30 : decode jdk_78_method_3_code 30 = .ok (.putfield 31, 3) := by decide +kernel
theorem d30_33 : decode jdk_78_method_3_code 33 = .ok (.aload_n 0, 1) := by decide +kernel
theorem d30_34 : decode jdk_78_method_3_code 34 = .ok (.aload_n 2, 1) := by decide +kernel
theorem d30_35 : decode jdk_78_method_3_code 35 = .ok (.putfield 7, 3) := by decide +kernel
theorem d30_38 : decode jdk_78_method_3_code 38 = .ok (.return_, 1) := by decide +kernel
theorem pn_java_lang_Throwable : plainName "java/lang/Throwable" = true := by first | (simp [plainName, overriddenIn]; done) | decide +kernel
theorem ef_30n2 (m : MethodId) (x0 : Addr) (x1 : Addr) : entryFrame m #[(.ref x0), (.ref x1), .null] 3 = mkF m 0 #[.val (.ref x0), .val (.ref x1), .val .null] [] := by first | (simp [entryFrame, mkF, argsToLocals, Value.category]; done) | rfl
def Q30 (Z : State) (o0 : Addr) (o1 : Addr) (u_o0_cause : Value) (w_UNASSIGNED_STACK : Addr) (u_o0_stackTrace : Value) (w_SUPPRESSED_SENTINEL : Addr) (u_o0_suppressedExceptions : Value) (h0 : Heap) (n0 : Nat) (v : Option Value) (h : Heap) (L : List Loc) : Prop := ∃ rx0 : Value, v = none ∧ Fr n0 L ∧ Keep h0 h [o0] ∧ Exa Z h o0 "com/example/metasearchd/metasearchd/engine/EngineException" ∧ Fld Z h o0 "java/lang/Throwable" "cause" "Ljava/lang/Throwable;" .null ∧ Fld Z h o0 "java/lang/Throwable" "detailMessage" "Ljava/lang/String;" (.ref o1) ∧ Fld Z h o0 "com/example/metasearchd/metasearchd/engine/EngineException" "reason" "Ljava/lang/String;" rx0
set_option maxRecDepth 65536 in
set_option maxHeartbeats 40000000 in
theorem rm30 (l : Launch) (Z : State) (a0 : Array Value) (hw : ∀ d ∈ tables_1, d.before a0 Z = true) (ws : List Jvm.Cond) (o0 : Addr) (o1 : Addr) (u_o0_cause : Value) (w_UNASSIGNED_STACK : Addr) (u_o0_stackTrace : Value) (w_SUPPRESSED_SENTINEL : Addr) (u_o0_suppressedExceptions : Value) (h0 : Heap) (n0 : Nat) (Z0 : n0 ≤ h0.size) (F_o0_backtrace : Fld Z h0 o0 "java/lang/Throwable" "backtrace" "Ljava/lang/Object;" .null) (E_o0 : Exa Z h0 o0 "com/example/metasearchd/metasearchd/engine/EngineException") (F_o0_cause : Fld Z h0 o0 "java/lang/Throwable" "cause" "Ljava/lang/Throwable;" u_o0_cause) (g_o0 : n0 ≤ o0) (S_UNASSIGNED_STACK : Sta Z h0 "java/lang/Throwable" "UNASSIGNED_STACK" "[Ljava/lang/StackTraceElement;" (.ref w_UNASSIGNED_STACK)) (F_o0_stackTrace : Fld Z h0 o0 "java/lang/Throwable" "stackTrace" "[Ljava/lang/StackTraceElement;" u_o0_stackTrace) (S_SUPPRESSED_SENTINEL : Sta Z h0 "java/lang/Throwable" "SUPPRESSED_SENTINEL" "Ljava/util/List;" (.ref w_SUPPRESSED_SENTINEL)) (F_o0_suppressedExceptions : Fld Z h0 o0 "java/lang/Throwable" "suppressedExceptions" "Ljava/util/List;" u_o0_suppressedExceptions) (hlt : l.stackTraces = true) (Un_o0 : Unt h0 o0) :
    MetFree l (⟨"java/lang/Throwable", "<init>", "(Ljava/lang/String;Ljava/lang/Throwable;)V"⟩ : MethodName) (head1 (Jvm.Cond.code (⟨"java/lang/Throwable", "<init>", "(Ljava/lang/String;Ljava/lang/Throwable;)V"⟩ : MethodName) jdk_78_method_3_code 3 none :: ws) ({ frames := 3, cells := 1, slots := 2752, locals := 42 } : Room)) (fun a U => a = #[(.ref o0), (.ref o1), .null] ∧ Z.Warmed39 U.vm ∧ U.heap = h0) (fun _ _ bl s _ => s.vm.MethodsKnown ∧ s.vm.FramesKnown bl) (fun _ U o U' => ∃ v L, o = .returned v ∧ Q30 Z o0 o1 u_o0_cause w_UNASSIGNED_STACK u_o0_stackTrace w_SUPPRESSED_SENTINEL u_o0_suppressedExceptions h0 n0 v U'.heap L ∧ FrameEnd U o U' L ({ frames := 3, cells := 1, slots := 2752, locals := 42 } : Room).cells ({ frames := 3, cells := 1, slots := 2752, locals := 42 } : Room).slots) := by
  refine MetFree.of_bodySF (plainFor_of_name pn_java_lang_Throwable) hisR ?_
  intro p e s m args below meth c s₁ Bd hml0 hP hK
  obtain ⟨rfl, hZ, hh⟩ := hP
  obtain ⟨hTK, hBelow⟩ := hK
  have hx := Bd.exec
  have hby := Bd.bytes
  have hml : c.maxLocals = 3 := hml0
  have hown : s.vm.findClass "java/lang/Throwable" = some m.cls := findClass_of_methodNamed Bd.named
  have hnm := (name_of_methodNamed Bd.named Bd.method).1
  have X0 : Stand p l e ({ frames := 3, cells := 1, slots := 2752, locals := 42 } : Room) s m #[(.ref o0), (.ref o1), .null] below meth c s₁ [] 0 0 := Stand.of_body Bd
  have e0 : s₁.heap = h0 := by rw [← hh, Bd.state]; rfl
  have N0 := Fr.nil n0
  show Go p e below (fun o U' => ∃ v L, o = .returned v ∧ Q30 Z o0 o1 u_o0_cause w_UNASSIGNED_STACK u_o0_stackTrace w_SUPPRESSED_SENTINEL u_o0_suppressedExceptions h0 n0 v U'.heap L ∧ FrameEnd s o U' L ({ frames := 3, cells := 1, slots := 2752, locals := 42 } : Room).cells ({ frames := 3, cells := 1, slots := 2752, locals := 42 } : Room).slots) (s₁.setTop (entryFrame m #[(.ref o0), (.ref o1), .null] 3))
  refine Go.of (fun _ k => castTop (ef_30n2 m o0 o1) k) ?_
  show Go p e below _ (s₁.setTop (mkF m 0 #[.val (.ref o0), .val (.ref o1), .val .null] []))
  refine Go.of (fun _ k => XS.aloadN X0.here hx rfl (hb hby d30_0) rfl rfl k) ?_
  obtain ⟨T1, X1, e1, st1⟩ := initO X0 hx hZ hown (own_h hw 164 rfl) (own_h hw 19 rfl) (own_h hw 20 rfl) e0 (g := (mkF m 1 #[.val (.ref o0), .val (.ref o1), .val .null] [(.ref o0)])) rfl (by rw [hml]; rfl) rfl (hb hby d30_1) (by decide) (W := 0) (Nat.le_of_eq rfl) (by decide)
  refine Go.of st1 ?_
  show Go p e below _ (T1.setTop (mkF m 4 #[.val (.ref o0), .val (.ref o1), .val .null] []))
  refine Go.of (fun _ k => XS.aloadN X1.here hx rfl (hb hby d30_4) rfl rfl k) ?_
  refine Go.of (fun _ k => XS.aloadN X1.here hx rfl (hb hby d30_5) rfl rfl k) ?_
  obtain ⟨T2, h2, X2, e2, W2, st2⟩ := putF X1 hx hZ hown (host := "") (Or.inl (own_h hw 165 rfl)) Via.refl e1 F_o0_cause E_o0 (Or.inl (own_h hw 166 rfl)) (own_h hw 5 rfl) (ty := (.object "java/lang/Throwable")) (by decide) rfl rfl (g := (mkF m 6 #[.val (.ref o0), .val (.ref o1), .val .null] [(.ref o0), (.ref o0)])) rfl rfl (hb hby d30_6)
  refine Go.of st2 ?_
  have N2 := Fr.snoc X2 N0 g_o0
  have K2 : Keep h0 h2 [o0] := ((Keep.refl h0 [o0])).wr W2 (Or.inl (List.mem_of_getElem? (i := 0) rfl))
  have Z2 : n0 ≤ h2.size := Nat.le_trans Z0 (Keep.of_wr W2).1
  have f3 : Fld Z h2 o0 "java/lang/Throwable" "cause" "Ljava/lang/Throwable;" (.ref o0) := Fld.same W2 F_o0_cause
  show Go p e below _ (T2.setTop (mkF m 9 #[.val (.ref o0), .val (.ref o1), .val .null] []))
  refine Go.of (fun _ k => XS.aloadN X2.here hx rfl (hb hby d30_9) rfl rfl k) ?_
  have c4 : Sta Z h2 "java/lang/Throwable" "UNASSIGNED_STACK" "[Ljava/lang/StackTraceElement;" (.ref w_UNASSIGNED_STACK) := (Sta.wr W2 S_UNASSIGNED_STACK)
  obtain ⟨T5, X5, e5, st5⟩ := getS2 X2 hx hZ hown (host := "") (Or.inl (own_h hw 167 rfl)) Via.refl e2 c4 (g := (mkF m 10 #[.val (.ref o0), .val (.ref o1), .val .null] [(.ref o0)])) rfl (hb hby d30_10)
  refine Go.of st5 ?_
  show Go p e below _ (T5.setTop (mkF m 13 #[.val (.ref o0), .val (.ref o1), .val .null] [(.ref w_UNASSIGNED_STACK), (.ref o0)]))
  have c6 : Fld Z h2 o0 "java/lang/Throwable" "stackTrace" "[Ljava/lang/StackTraceElement;" u_o0_stackTrace := (Fld.other W2 F_o0_stackTrace (Or.inr (slot_ne (Or.inl (own_h hw 169 rfl)) (Or.inl (own_h hw 166 rfl)) (by decide) (t := (.array (.object "java/lang/StackTraceElement"))) (t' := (.object "java/lang/Throwable")) (by decide) (by decide))))
  have c7 : Exa Z h2 o0 "com/example/metasearchd/metasearchd/engine/EngineException" := (Exa.wr W2 E_o0)
  obtain ⟨T8, h8, X8, e8, W8, st8⟩ := putF X5 hx hZ hown (host := "") (Or.inl (own_h hw 168 rfl)) Via.refl e5 c6 c7 (Or.inl (own_h hw 169 rfl)) (own_h hw 5 rfl) (ty := (.array (.object "java/lang/StackTraceElement"))) (by decide) rfl rfl (g := (mkF m 13 #[.val (.ref o0), .val (.ref o1), .val .null] [(.ref w_UNASSIGNED_STACK), (.ref o0)])) rfl rfl (hb hby d30_13)
  refine Go.of st8 ?_
  have N8 := Fr.snoc X8 N2 g_o0
  have K8 : Keep h0 h8 [o0] := (K2).wr W8 (Or.inl (List.mem_of_getElem? (i := 0) rfl))
  have Z8 : n0 ≤ h8.size := Nat.le_trans Z2 (Keep.of_wr W8).1
  have f9 : Fld Z h8 o0 "java/lang/Throwable" "stackTrace" "[Ljava/lang/StackTraceElement;" (.ref w_UNASSIGNED_STACK) := Fld.same W8 c6
  show Go p e below _ (T8.setTop (mkF m 16 #[.val (.ref o0), .val (.ref o1), .val .null] []))
  refine Go.of (fun _ k => XS.aloadN X8.here hx rfl (hb hby d30_16) rfl rfl k) ?_
  have c10 : Sta Z h2 "java/lang/Throwable" "SUPPRESSED_SENTINEL" "Ljava/util/List;" (.ref w_SUPPRESSED_SENTINEL) := (Sta.wr W2 S_SUPPRESSED_SENTINEL)
  have c11 : Sta Z h8 "java/lang/Throwable" "SUPPRESSED_SENTINEL" "Ljava/util/List;" (.ref w_SUPPRESSED_SENTINEL) := (Sta.wr W8 c10)
  obtain ⟨T12, X12, e12, st12⟩ := getS2 X8 hx hZ hown (host := "") (Or.inl (own_h hw 170 rfl)) Via.refl e8 c11 (g := (mkF m 17 #[.val (.ref o0), .val (.ref o1), .val .null] [(.ref o0)])) rfl (hb hby d30_17)
  refine Go.of st12 ?_
  show Go p e below _ (T12.setTop (mkF m 20 #[.val (.ref o0), .val (.ref o1), .val .null] [(.ref w_SUPPRESSED_SENTINEL), (.ref o0)]))
  have c13 : Fld Z h2 o0 "java/lang/Throwable" "suppressedExceptions" "Ljava/util/List;" u_o0_suppressedExceptions := (Fld.other W2 F_o0_suppressedExceptions (Or.inr (slot_ne (Or.inl (own_h hw 172 rfl)) (Or.inl (own_h hw 166 rfl)) (by decide) (t := (.object "java/util/List")) (t' := (.object "java/lang/Throwable")) (by decide) (by decide))))
  have c14 : Fld Z h8 o0 "java/lang/Throwable" "suppressedExceptions" "Ljava/util/List;" u_o0_suppressedExceptions := (Fld.other W8 c13 (Or.inr (slot_ne (Or.inl (own_h hw 172 rfl)) (Or.inl (own_h hw 169 rfl)) (by decide) (t := (.object "java/util/List")) (t' := (.array (.object "java/lang/StackTraceElement"))) (by decide) (by decide))))
  have c15 : Exa Z h8 o0 "com/example/metasearchd/metasearchd/engine/EngineException" := (Exa.wr W8 c7)
  obtain ⟨T16, h16, X16, e16, W16, st16⟩ := putF X12 hx hZ hown (host := "") (Or.inl (own_h hw 171 rfl)) Via.refl e12 c14 c15 (Or.inl (own_h hw 172 rfl)) (own_h hw 5 rfl) (ty := (.object "java/util/List")) (by decide) rfl rfl (g := (mkF m 20 #[.val (.ref o0), .val (.ref o1), .val .null] [(.ref w_SUPPRESSED_SENTINEL), (.ref o0)])) rfl rfl (hb hby d30_20)
  refine Go.of st16 ?_
  have N16 := Fr.snoc X16 N8 g_o0
  have K16 : Keep h0 h16 [o0] := (K8).wr W16 (Or.inl (List.mem_of_getElem? (i := 0) rfl))
  have Z16 : n0 ≤ h16.size := Nat.le_trans Z8 (Keep.of_wr W16).1
  have f17 : Fld Z h16 o0 "java/lang/Throwable" "suppressedExceptions" "Ljava/util/List;" (.ref w_SUPPRESSED_SENTINEL) := Fld.same W16 c14
  show Go p e below _ (T16.setTop (mkF m 23 #[.val (.ref o0), .val (.ref o1), .val .null] []))
  refine Go.of (fun _ k => XS.aloadN X16.here hx rfl (hb hby d30_23) rfl rfl k) ?_
  have c18 : Exa Z h16 o0 "com/example/metasearchd/metasearchd/engine/EngineException" := (Exa.wr W16 c15)
  have c19 : Unt h2 o0 := (Unt.wr W2 Un_o0)
  have c20 : Unt h8 o0 := (Unt.wr W8 c19)
  have c21 : Unt h16 o0 := (Unt.wr W16 c20)
  have c22 : Fld Z h16 o0 "java/lang/Throwable" "stackTrace" "[Ljava/lang/StackTraceElement;" (.ref w_UNASSIGNED_STACK) := (Fld.other W16 f9 (Or.inr (slot_ne (Or.inl (own_h hw 169 rfl)) (Or.inl (own_h hw 172 rfl)) (by decide) (t := (.array (.object "java/lang/StackTraceElement"))) (t' := (.object "java/util/List")) (by decide) (by decide))))
  have c23 : Fld Z h2 o0 "java/lang/Throwable" "backtrace" "Ljava/lang/Object;" .null := (Fld.other W2 F_o0_backtrace (Or.inr (slot_ne (Or.inl (own_h hw 197 rfl)) (Or.inl (own_h hw 166 rfl)) (by decide) (t := (.object "java/lang/Object")) (t' := (.object "java/lang/Throwable")) (by decide) (by decide))))
  have c24 : Fld Z h8 o0 "java/lang/Throwable" "backtrace" "Ljava/lang/Object;" .null := (Fld.other W8 c23 (Or.inr (slot_ne (Or.inl (own_h hw 197 rfl)) (Or.inl (own_h hw 169 rfl)) (by decide) (t := (.object "java/lang/Object")) (t' := (.array (.object "java/lang/StackTraceElement"))) (by decide) (by decide))))
  have c25 : Fld Z h16 o0 "java/lang/Throwable" "backtrace" "Ljava/lang/Object;" .null := (Fld.other W16 c24 (Or.inr (slot_ne (Or.inl (own_h hw 197 rfl)) (Or.inl (own_h hw 172 rfl)) (by decide) (t := (.object "java/lang/Object")) (t' := (.object "java/util/List")) (by decide) (by decide))))
  have c26 : Sta Z h8 "java/lang/Throwable" "UNASSIGNED_STACK" "[Ljava/lang/StackTraceElement;" (.ref w_UNASSIGNED_STACK) := (Sta.wr W8 c4)
  have c27 : Sta Z h16 "java/lang/Throwable" "UNASSIGNED_STACK" "[Ljava/lang/StackTraceElement;" (.ref w_UNASSIGNED_STACK) := (Sta.wr W16 c26)
  have c28 : Sta Z h16 "java/lang/Throwable" "SUPPRESSED_SENTINEL" "Ljava/util/List;" (.ref w_SUPPRESSED_SENTINEL) := (Sta.wr W16 c11)
  obtain ⟨T29, h29, L29, X29, e29, N29, q29_0, A29, ⟨um29, fm29⟩, ⟨uc29, fc29⟩, ⟨ur29, fr29⟩, st29⟩ := own_fill X16 hx hlt hZ hown hw hTK hBelow e16 (own_bS (own_bS (own_bS own_b0))) c18 c21 (ru := rfl) c22 c25 c27 c28 N16 g_o0 (g := (mkF m 24 #[.val (.ref o0), .val (.ref o1), .val .null] [(.ref o0)])) rfl (by rw [hml]; rfl) rfl (hb hby d30_24) (by decide) (W := 0) (Nat.le_of_eq rfl) (by decide) (by decide) (by decide)
  refine Go.of st29 ?_
  have K29 : Keep h0 h29 [o0] := (K16).trans q29_0 (allS (Or.inl (List.mem_of_getElem? (i := 0) rfl)) all0)
  have Z29 : n0 ≤ h29.size := Nat.le_trans Z16 q29_0.1
  show Go p e below _ (T29.setTop (mkF m 27 #[.val (.ref o0), .val (.ref o1), .val .null] [(.ref o0)]))
  refine Go.of (fun _ k => XS.pop X29.here hx rfl (hb hby d30_27) rfl rfl k) ?_
  show Go p e below _ (T29.setTop (mkF m 28 #[.val (.ref o0), .val (.ref o1), .val .null] []))
  refine Go.of (fun _ k => XS.aloadN X29.here hx rfl (hb hby d30_28) rfl rfl k) ?_
  refine Go.of (fun _ k => XS.aloadN X29.here hx rfl (hb hby d30_29) rfl rfl k) ?_
  obtain ⟨T30, h30, X30, e30, W30, st30⟩ := putF X29 hx hZ hown (host := "") (Or.inl (own_h hw 200 rfl)) Via.refl e29 fm29 A29 (Or.inl (own_h hw 196 rfl)) (own_h hw 5 rfl) (ty := (.object "java/lang/String")) (by decide) rfl rfl (g := (mkF m 30 #[.val (.ref o0), .val (.ref o1), .val .null] [(.ref o1), (.ref o0)])) rfl rfl (hb hby d30_30)
  refine Go.of st30 ?_
  have N30 := Fr.snoc X30 N29 g_o0
  have K30 : Keep h0 h30 [o0] := (K29).wr W30 (Or.inl (List.mem_of_getElem? (i := 0) rfl))
  have Z30 : n0 ≤ h30.size := Nat.le_trans Z29 (Keep.of_wr W30).1
  have f31 : Fld Z h30 o0 "java/lang/Throwable" "detailMessage" "Ljava/lang/String;" (.ref o1) := Fld.same W30 fm29
  show Go p e below _ (T30.setTop (mkF m 33 #[.val (.ref o0), .val (.ref o1), .val .null] []))
  refine Go.of (fun _ k => XS.aloadN X30.here hx rfl (hb hby d30_33) rfl rfl k) ?_
  refine Go.of (fun _ k => XS.aloadN X30.here hx rfl (hb hby d30_34) rfl rfl k) ?_
  have c32 : Fld Z h30 o0 "java/lang/Throwable" "cause" "Ljava/lang/Throwable;" uc29 := (Fld.other W30 fc29 (Or.inr (slot_ne (Or.inl (own_h hw 166 rfl)) (Or.inl (own_h hw 196 rfl)) (by decide) (t := (.object "java/lang/Throwable")) (t' := (.object "java/lang/String")) (by decide) (by decide))))
  have c33 : Exa Z h30 o0 "com/example/metasearchd/metasearchd/engine/EngineException" := (Exa.wr W30 A29)
  obtain ⟨T34, h34, X34, e34, W34, st34⟩ := putF X30 hx hZ hown (host := "") (Or.inl (own_h hw 165 rfl)) Via.refl e30 c32 c33 (Or.inl (own_h hw 166 rfl)) (own_h hw 5 rfl) (ty := (.object "java/lang/Throwable")) (by decide) rfl rfl (g := (mkF m 35 #[.val (.ref o0), .val (.ref o1), .val .null] [.null, (.ref o0)])) rfl rfl (hb hby d30_35)
  refine Go.of st34 ?_
  have N34 := Fr.snoc X34 N30 g_o0
  have K34 : Keep h0 h34 [o0] := (K30).wr W34 (Or.inl (List.mem_of_getElem? (i := 0) rfl))
  have Z34 : n0 ≤ h34.size := Nat.le_trans Z30 (Keep.of_wr W34).1
  have f35 : Fld Z h34 o0 "java/lang/Throwable" "cause" "Ljava/lang/Throwable;" .null := Fld.same W34 c32
  show Go p e below _ (T34.setTop (mkF m 38 #[.val (.ref o0), .val (.ref o1), .val .null] []))
  have c37 : Exa Z h34 o0 "com/example/metasearchd/metasearchd/engine/EngineException" := (Exa.wr W34 c33)
  have c38 : Fld Z h34 o0 "java/lang/Throwable" "detailMessage" "Ljava/lang/String;" (.ref o1) := (Fld.other W34 f31 (Or.inr (slot_ne (Or.inl (own_h hw 196 rfl)) (Or.inl (own_h hw 166 rfl)) (by decide) (t := (.object "java/lang/String")) (t' := (.object "java/lang/Throwable")) (by decide) (by decide))))
  have c39 : Fld Z h30 o0 "com/example/metasearchd/metasearchd/engine/EngineException" "reason" "Ljava/lang/String;" ur29 := (Fld.other W30 fr29 (Or.inr (slot_ne (Or.inr (own_h hw 202 rfl)) (Or.inl (own_h hw 196 rfl)) (by decide) (t := (.object "java/lang/String")) (t' := (.object "java/lang/String")) (by decide) (by decide))))
  have c40 : Fld Z h34 o0 "com/example/metasearchd/metasearchd/engine/EngineException" "reason" "Ljava/lang/String;" ur29 := (Fld.other W34 c39 (Or.inr (slot_ne (Or.inr (own_h hw 202 rfl)) (Or.inl (own_h hw 166 rfl)) (by decide) (t := (.object "java/lang/String")) (t' := (.object "java/lang/Throwable")) (by decide) (by decide))))
  obtain ⟨fs, hr, hrun, hended, hW, hsame⟩ := X34.leave (v := none) (fun _ => rfl)
  refine Go.mk _ _ ?_ hrun hended ⟨_, _, rfl, ?_, ⟨_, rfl⟩, hW, hsame.mono (by decide) (by decide)⟩
  · exact X34.returnOut hx Bd.returns (hb hby d30_38) hr
  · show Q30 Z o0 o1 u_o0_cause w_UNASSIGNED_STACK u_o0_stackTrace w_SUPPRESSED_SENTINEL u_o0_suppressedExceptions h0 n0 _ T34.heap _
    rw [e34]
    exact ⟨ur29, rfl, N34, K34, c37, f35, c38, c40⟩
theorem d29_0 : decode jdk_59_method_3_code 0 = .ok (.aload_n 0, 1) := by decide +kernel
theorem d29_1 : decode jdk_59_method_3_code 1 = .ok (.aload_n 1, 1) := by decide +kernel
theorem d29_2 : decode jdk_59_method_3_code 2 = .ok (.aload_n 2, 1) := by decide +kernel
theorem d29_3 : decode jdk_59_method_3_code 3 = .ok (.invokespecial 10, 3) := by decide +kernel
theorem pd_18 : parseMethodDescriptor "(Ljava/lang/String;Ljava/lang/Throwable;)V" = some ⟨[(.object "java/lang/String"), (.object "java/lang/Throwable")], none⟩ := by decide +kernel
abbrev own_y_Throwable__init__23 : MethodName := ⟨"java/lang/Throwable", "<init>", "(Ljava/lang/String;Ljava/lang/Throwable;)V"⟩
theorem d29_6 : decode jdk_59_method_3_code 6 = .ok (.return_, 1) := by decide +kernel
theorem pn_java_lang_Exception : plainName "java/lang/Exception" = true := by first | (simp [plainName, overriddenIn]; done) | decide +kernel
theorem ef_29n2 (m : MethodId) (x0 : Addr) (x1 : Addr) : entryFrame m #[(.ref x0), (.ref x1), .null] 3 = mkF m 0 #[.val (.ref x0), .val (.ref x1), .val .null] [] := by first | (simp [entryFrame, mkF, argsToLocals, Value.category]; done) | rfl
def Q29 (Z : State) (o0 : Addr) (o1 : Addr) (u_o0_cause : Value) (w_UNASSIGNED_STACK : Addr) (u_o0_stackTrace : Value) (w_SUPPRESSED_SENTINEL : Addr) (u_o0_suppressedExceptions : Value) (h0 : Heap) (n0 : Nat) (v : Option Value) (h : Heap) (L : List Loc) : Prop := ∃ rx0 : Value, v = none ∧ Fr n0 L ∧ Keep h0 h [o0] ∧ Exa Z h o0 "com/example/metasearchd/metasearchd/engine/EngineException" ∧ Fld Z h o0 "java/lang/Throwable" "cause" "Ljava/lang/Throwable;" .null ∧ Fld Z h o0 "java/lang/Throwable" "detailMessage" "Ljava/lang/String;" (.ref o1) ∧ Fld Z h o0 "com/example/metasearchd/metasearchd/engine/EngineException" "reason" "Ljava/lang/String;" rx0
set_option maxRecDepth 65536 in
set_option maxHeartbeats 40000000 in
theorem rm29 (l : Launch) (Z : State) (a0 : Array Value) (hw : ∀ d ∈ tables_1, d.before a0 Z = true) (ws : List Jvm.Cond) (o0 : Addr) (o1 : Addr) (u_o0_cause : Value) (w_UNASSIGNED_STACK : Addr) (u_o0_stackTrace : Value) (w_SUPPRESSED_SENTINEL : Addr) (u_o0_suppressedExceptions : Value) (h0 : Heap) (n0 : Nat) (Z0 : n0 ≤ h0.size) (F_o0_backtrace : Fld Z h0 o0 "java/lang/Throwable" "backtrace" "Ljava/lang/Object;" .null) (E_o0 : Exa Z h0 o0 "com/example/metasearchd/metasearchd/engine/EngineException") (F_o0_cause : Fld Z h0 o0 "java/lang/Throwable" "cause" "Ljava/lang/Throwable;" u_o0_cause) (g_o0 : n0 ≤ o0) (S_UNASSIGNED_STACK : Sta Z h0 "java/lang/Throwable" "UNASSIGNED_STACK" "[Ljava/lang/StackTraceElement;" (.ref w_UNASSIGNED_STACK)) (F_o0_stackTrace : Fld Z h0 o0 "java/lang/Throwable" "stackTrace" "[Ljava/lang/StackTraceElement;" u_o0_stackTrace) (S_SUPPRESSED_SENTINEL : Sta Z h0 "java/lang/Throwable" "SUPPRESSED_SENTINEL" "Ljava/util/List;" (.ref w_SUPPRESSED_SENTINEL)) (F_o0_suppressedExceptions : Fld Z h0 o0 "java/lang/Throwable" "suppressedExceptions" "Ljava/util/List;" u_o0_suppressedExceptions) (hlt_1 : l.stackTraces = true) (Un_o0 : Unt h0 o0) :
    MetFree l (⟨"java/lang/Exception", "<init>", "(Ljava/lang/String;Ljava/lang/Throwable;)V"⟩ : MethodName) (head1 (Jvm.Cond.code (⟨"java/lang/Exception", "<init>", "(Ljava/lang/String;Ljava/lang/Throwable;)V"⟩ : MethodName) jdk_59_method_3_code 3 none :: ws) ({ frames := 4, cells := 1, slots := 2752, locals := 56 } : Room)) (fun a U => a = #[(.ref o0), (.ref o1), .null] ∧ Z.Warmed39 U.vm ∧ U.heap = h0) (fun _ _ bl s _ => s.vm.MethodsKnown ∧ s.vm.FramesKnown bl) (fun _ U o U' => ∃ v L, o = .returned v ∧ Q29 Z o0 o1 u_o0_cause w_UNASSIGNED_STACK u_o0_stackTrace w_SUPPRESSED_SENTINEL u_o0_suppressedExceptions h0 n0 v U'.heap L ∧ FrameEnd U o U' L ({ frames := 4, cells := 1, slots := 2752, locals := 56 } : Room).cells ({ frames := 4, cells := 1, slots := 2752, locals := 56 } : Room).slots) := by
  refine MetFree.of_bodySF (plainFor_of_name pn_java_lang_Exception) hisR ?_
  intro p e s m args below meth c s₁ Bd hml0 hP hK
  obtain ⟨rfl, hZ, hh⟩ := hP
  obtain ⟨hTK, hBelow⟩ := hK
  have hx := Bd.exec
  have hby := Bd.bytes
  have hml : c.maxLocals = 3 := hml0
  have hown : s.vm.findClass "java/lang/Exception" = some m.cls := findClass_of_methodNamed Bd.named
  have hnm := (name_of_methodNamed Bd.named Bd.method).1
  have X0 : Stand p l e ({ frames := 4, cells := 1, slots := 2752, locals := 56 } : Room) s m #[(.ref o0), (.ref o1), .null] below meth c s₁ [] 0 0 := Stand.of_body Bd
  have e0 : s₁.heap = h0 := by rw [← hh, Bd.state]; rfl
  have N0 := Fr.nil n0
  show Go p e below (fun o U' => ∃ v L, o = .returned v ∧ Q29 Z o0 o1 u_o0_cause w_UNASSIGNED_STACK u_o0_stackTrace w_SUPPRESSED_SENTINEL u_o0_suppressedExceptions h0 n0 v U'.heap L ∧ FrameEnd s o U' L ({ frames := 4, cells := 1, slots := 2752, locals := 56 } : Room).cells ({ frames := 4, cells := 1, slots := 2752, locals := 56 } : Room).slots) (s₁.setTop (entryFrame m #[(.ref o0), (.ref o1), .null] 3))
  refine Go.of (fun _ k => castTop (ef_29n2 m o0 o1) k) ?_
  show Go p e below _ (s₁.setTop (mkF m 0 #[.val (.ref o0), .val (.ref o1), .val .null] []))
  refine Go.of (fun _ k => XS.aloadN X0.here hx rfl (hb hby d29_0) rfl rfl k) ?_
  refine Go.of (fun _ k => XS.aloadN X0.here hx rfl (hb hby d29_1) rfl rfl k) ?_
  refine Go.of (fun _ k => XS.aloadN X0.here hx rfl (hb hby d29_2) rfl rfl k) ?_
  obtain ⟨_, _, ⟨T1, L1, k1, n1⟩, -, X1, ⟨Lc1, hQ1, l1, y1, z1⟩, st1⟩ := X0.specialBack hx (y := own_y_Throwable__init__23) rfl hown (mvT hZ (own_h hw 158 rfl)) (mvT hZ (own_h hw 159 rfl)) (mvT hZ (own_h hw 163 rfl)) (by decide) (backOfKL (W := 0) (rm30 l Z a0 hw [] o0 o1 u_o0_cause w_UNASSIGNED_STACK u_o0_stackTrace w_SUPPRESSED_SENTINEL u_o0_suppressedExceptions h0 n0 Z0 F_o0_backtrace E_o0 F_o0_cause g_o0 S_UNASSIGNED_STACK F_o0_stackTrace S_SUPPRESSED_SENTINEL F_o0_suppressedExceptions hlt_1 Un_o0) hZ (own_h hw 163 rfl) (own_h hw 162 rfl) (by decide) (by decide) hTK hBelow) (g := (mkF m 3 #[.val (.ref o0), .val (.ref o1), .val .null] [.null, (.ref o1), (.ref o0)])) rfl (by rw [hml]; rfl) (Steps.refl _) (a := o0) (argsL := [(.ref o1), .null]) (rest := []) (lenOf pd_18 rfl) rfl (Nat.le_of_eq rfl) (hb hby d29_3) (fun _ _ => ⟨rfl, e0, (by decide : 0 + 1 ≤ _), (by decide : 0 + 2752 ≤ _)⟩)
  dsimp only [Pt.U, Pt.locs, Pt.cells, Pt.slots] at X1 l1 y1 z1 st1 hQ1
  subst l1 y1 z1
  obtain ⟨rx0_1, rfl, Nq1, q1_0, q1_1, q1_2, q1_3, q1_4⟩ := hQ1
  have N1 := Fr.app N0 Nq1
  refine Go.tr st1 ?_
  have K1 : Keep h0 T1.heap [o0] := ((Keep.refl h0 [o0])).trans q1_0 (allS (Or.inl (List.mem_of_getElem? (i := 0) rfl)) all0)
  have Z1 : n0 ≤ T1.heap.size := Nat.le_trans Z0 q1_0.1
  show Go p e below _ (T1.setTop (mkF m 6 #[.val (.ref o0), .val (.ref o1), .val .null] []))
  obtain ⟨fs, hr, hrun, hended, hW, hsame⟩ := X1.leave (v := none) (fun _ => rfl)
  refine Go.mk _ _ ?_ hrun hended ⟨_, _, rfl, ?_, ⟨_, rfl⟩, hW, hsame.mono (by decide) (by decide)⟩
  · exact X1.returnOut hx Bd.returns (hb hby d29_6) hr
  · show Q29 Z o0 o1 u_o0_cause w_UNASSIGNED_STACK u_o0_stackTrace w_SUPPRESSED_SENTINEL u_o0_suppressedExceptions h0 n0 _ T1.heap _
    exact ⟨rx0_1, rfl, N1, K1, q1_1, q1_2, q1_3, q1_4⟩
theorem d28_0 : decode prog_9_method_1_code 0 = .ok (.aload_n 0, 1) := by decide +kernel
theorem d28_1 : decode prog_9_method_1_code 1 = .ok (.aload_n 2, 1) := by decide +kernel
theorem d28_2 : decode prog_9_method_1_code 2 = .ok (.aload_n 3, 1) := by decide +kernel
theorem d28_3 : decode prog_9_method_1_code 3 = .ok (.invokespecial 1, 3) := by decide +kernel
abbrev own_y_Exception__init__24 : MethodName := ⟨"java/lang/Exception", "<init>", "(Ljava/lang/String;Ljava/lang/Throwable;)V"⟩
theorem d28_6 : decode prog_9_method_1_code 6 = .ok (.aload_n 0, 1) := by decide +kernel
theorem d28_7 : decode prog_9_method_1_code 7 = .ok (.aload_n 1, 1) := by decide +kernel
theorem d28_8 : decode prog_9_method_1_code 8 = .ok (.putfield 7, 3) := by decide +kernel
theorem d28_11 : decode prog_9_method_1_code 11 = .ok (.return_, 1) := by decide +kernel
theorem pn_com_example_metasearchd_metasearchd_engine_EngineException : plainName "com/example/metasearchd/metasearchd/engine/EngineException" = true := by first | (simp [plainName, overriddenIn]; done) | decide +kernel
theorem ef_28n3 (m : MethodId) (x0 : Addr) (x1 : Addr) (x2 : Addr) : entryFrame m #[(.ref x0), (.ref x1), (.ref x2), .null] 4 = mkF m 0 #[.val (.ref x0), .val (.ref x1), .val (.ref x2), .val .null] [] := by first | (simp [entryFrame, mkF, argsToLocals, Value.category]; done) | rfl
def Q28 (Z : State) (o0 : Addr) (o1 : Addr) (o2 : Addr) (u_o0_cause : Value) (w_UNASSIGNED_STACK : Addr) (u_o0_stackTrace : Value) (w_SUPPRESSED_SENTINEL : Addr) (u_o0_suppressedExceptions : Value) (h0 : Heap) (n0 : Nat) (v : Option Value) (h : Heap) (L : List Loc) : Prop := v = none ∧ Fr n0 L ∧ Keep h0 h [o0] ∧ Exa Z h o0 "com/example/metasearchd/metasearchd/engine/EngineException" ∧ Fld Z h o0 "java/lang/Throwable" "cause" "Ljava/lang/Throwable;" .null ∧ Fld Z h o0 "java/lang/Throwable" "detailMessage" "Ljava/lang/String;" (.ref o2) ∧ Fld Z h o0 "com/example/metasearchd/metasearchd/engine/EngineException" "reason" "Ljava/lang/String;" (.ref o1)
set_option maxRecDepth 65536 in
set_option maxHeartbeats 40000000 in
theorem rm28 (l : Launch) (Z : State) (a0 : Array Value) (hw : ∀ d ∈ tables_1, d.before a0 Z = true) (ws : List Jvm.Cond) (o0 : Addr) (o1 : Addr) (o2 : Addr) (u_o0_cause : Value) (w_UNASSIGNED_STACK : Addr) (u_o0_stackTrace : Value) (w_SUPPRESSED_SENTINEL : Addr) (u_o0_suppressedExceptions : Value) (h0 : Heap) (n0 : Nat) (Z0 : n0 ≤ h0.size) (F_o0_backtrace : Fld Z h0 o0 "java/lang/Throwable" "backtrace" "Ljava/lang/Object;" .null) (E_o0 : Exa Z h0 o0 "com/example/metasearchd/metasearchd/engine/EngineException") (F_o0_cause : Fld Z h0 o0 "java/lang/Throwable" "cause" "Ljava/lang/Throwable;" u_o0_cause) (g_o0 : n0 ≤ o0) (S_UNASSIGNED_STACK : Sta Z h0 "java/lang/Throwable" "UNASSIGNED_STACK" "[Ljava/lang/StackTraceElement;" (.ref w_UNASSIGNED_STACK)) (F_o0_stackTrace : Fld Z h0 o0 "java/lang/Throwable" "stackTrace" "[Ljava/lang/StackTraceElement;" u_o0_stackTrace) (S_SUPPRESSED_SENTINEL : Sta Z h0 "java/lang/Throwable" "SUPPRESSED_SENTINEL" "Ljava/util/List;" (.ref w_SUPPRESSED_SENTINEL)) (F_o0_suppressedExceptions : Fld Z h0 o0 "java/lang/Throwable" "suppressedExceptions" "Ljava/util/List;" u_o0_suppressedExceptions) (hlt_1_1 : l.stackTraces = true) (Un_o0 : Unt h0 o0) :
    MetFree l (⟨"com/example/metasearchd/metasearchd/engine/EngineException", "<init>", "(Ljava/lang/String;Ljava/lang/String;Ljava/lang/Throwable;)V"⟩ : MethodName) (head1 (Jvm.Cond.code (⟨"com/example/metasearchd/metasearchd/engine/EngineException", "<init>", "(Ljava/lang/String;Ljava/lang/String;Ljava/lang/Throwable;)V"⟩ : MethodName) prog_9_method_1_code 4 none :: ws) ({ frames := 5, cells := 1, slots := 2752, locals := 70 } : Room)) (fun a U => a = #[(.ref o0), (.ref o1), (.ref o2), .null] ∧ Z.Warmed39 U.vm ∧ U.heap = h0) (fun _ _ bl s _ => s.vm.MethodsKnown ∧ s.vm.FramesKnown bl) (fun _ U o U' => ∃ v L, o = .returned v ∧ Q28 Z o0 o1 o2 u_o0_cause w_UNASSIGNED_STACK u_o0_stackTrace w_SUPPRESSED_SENTINEL u_o0_suppressedExceptions h0 n0 v U'.heap L ∧ FrameEnd U o U' L ({ frames := 5, cells := 1, slots := 2752, locals := 70 } : Room).cells ({ frames := 5, cells := 1, slots := 2752, locals := 70 } : Room).slots) := by
  refine MetFree.of_bodySF (plainFor_of_name pn_com_example_metasearchd_metasearchd_engine_EngineException) hisR ?_
  intro p e s m args below meth c s₁ Bd hml0 hP hK
  obtain ⟨rfl, hZ, hh⟩ := hP
  obtain ⟨hTK, hBelow⟩ := hK
  have hx := Bd.exec
  have hby := Bd.bytes
  have hml : c.maxLocals = 4 := hml0
  have hown : s.vm.findClass "com/example/metasearchd/metasearchd/engine/EngineException" = some m.cls := findClass_of_methodNamed Bd.named
  have hnm := (name_of_methodNamed Bd.named Bd.method).1
  have X0 : Stand p l e ({ frames := 5, cells := 1, slots := 2752, locals := 70 } : Room) s m #[(.ref o0), (.ref o1), (.ref o2), .null] below meth c s₁ [] 0 0 := Stand.of_body Bd
  have e0 : s₁.heap = h0 := by rw [← hh, Bd.state]; rfl
  have N0 := Fr.nil n0
  show Go p e below (fun o U' => ∃ v L, o = .returned v ∧ Q28 Z o0 o1 o2 u_o0_cause w_UNASSIGNED_STACK u_o0_stackTrace w_SUPPRESSED_SENTINEL u_o0_suppressedExceptions h0 n0 v U'.heap L ∧ FrameEnd s o U' L ({ frames := 5, cells := 1, slots := 2752, locals := 70 } : Room).cells ({ frames := 5, cells := 1, slots := 2752, locals := 70 } : Room).slots) (s₁.setTop (entryFrame m #[(.ref o0), (.ref o1), (.ref o2), .null] 4))
  refine Go.of (fun _ k => castTop (ef_28n3 m o0 o1 o2) k) ?_
  show Go p e below _ (s₁.setTop (mkF m 0 #[.val (.ref o0), .val (.ref o1), .val (.ref o2), .val .null] []))
  refine Go.of (fun _ k => XS.aloadN X0.here hx rfl (hb hby d28_0) rfl rfl k) ?_
  refine Go.of (fun _ k => XS.aloadN X0.here hx rfl (hb hby d28_1) rfl rfl k) ?_
  refine Go.of (fun _ k => XS.aloadN X0.here hx rfl (hb hby d28_2) rfl rfl k) ?_
  obtain ⟨_, _, ⟨T1, L1, k1, n1⟩, -, X1, ⟨Lc1, hQ1, l1, y1, z1⟩, st1⟩ := X0.specialBack hx (y := own_y_Exception__init__24) rfl hown (mvT hZ (own_h hw 153 rfl)) (mvT hZ (own_h hw 154 rfl)) (mvT hZ (own_h hw 157 rfl)) (by decide) (backOfKL (W := 0) (rm29 l Z a0 hw [] o0 o2 u_o0_cause w_UNASSIGNED_STACK u_o0_stackTrace w_SUPPRESSED_SENTINEL u_o0_suppressedExceptions h0 n0 Z0 F_o0_backtrace E_o0 F_o0_cause g_o0 S_UNASSIGNED_STACK F_o0_stackTrace S_SUPPRESSED_SENTINEL F_o0_suppressedExceptions hlt_1_1 Un_o0) hZ (own_h hw 157 rfl) (own_h hw 156 rfl) (by decide) (by decide) hTK hBelow) (g := (mkF m 3 #[.val (.ref o0), .val (.ref o1), .val (.ref o2), .val .null] [.null, (.ref o2), (.ref o0)])) rfl (by rw [hml]; rfl) (Steps.refl _) (a := o0) (argsL := [(.ref o2), .null]) (rest := []) (lenOf pd_18 rfl) rfl (Nat.le_of_eq rfl) (hb hby d28_3) (fun _ _ => ⟨rfl, e0, (by decide : 0 + 1 ≤ _), (by decide : 0 + 2752 ≤ _)⟩)
  dsimp only [Pt.U, Pt.locs, Pt.cells, Pt.slots] at X1 l1 y1 z1 st1 hQ1
  subst l1 y1 z1
  obtain ⟨rx0_1, rfl, Nq1, q1_0, q1_1, q1_2, q1_3, q1_4⟩ := hQ1
  have N1 := Fr.app N0 Nq1
  refine Go.tr st1 ?_
  have K1 : Keep h0 T1.heap [o0] := ((Keep.refl h0 [o0])).trans q1_0 (allS (Or.inl (List.mem_of_getElem? (i := 0) rfl)) all0)
  have Z1 : n0 ≤ T1.heap.size := Nat.le_trans Z0 q1_0.1
  show Go p e below _ (T1.setTop (mkF m 6 #[.val (.ref o0), .val (.ref o1), .val (.ref o2), .val .null] []))
  refine Go.of (fun _ k => XS.aloadN X1.here hx rfl (hb hby d28_6) rfl rfl k) ?_
  refine Go.of (fun _ k => XS.aloadN X1.here hx rfl (hb hby d28_7) rfl rfl k) ?_
  obtain ⟨T2, h2, X2, e2, W2, st2⟩ := putF X1 hx hZ hown (host := "") (Or.inl (own_h hw 201 rfl)) Via.refl rfl q1_4 q1_1 (Or.inr ⟨(own_h hw 202 rfl), rfl, hnm⟩) (own_h hw 5 rfl) (ty := (.object "java/lang/String")) (by decide) rfl rfl (g := (mkF m 8 #[.val (.ref o0), .val (.ref o1), .val (.ref o2), .val .null] [(.ref o1), (.ref o0)])) rfl rfl (hb hby d28_8)
  refine Go.of st2 ?_
  have N2 := Fr.snoc X2 N1 g_o0
  have K2 : Keep h0 h2 [o0] := (K1).wr W2 (Or.inl (List.mem_of_getElem? (i := 0) rfl))
  have Z2 : n0 ≤ h2.size := Nat.le_trans Z1 (Keep.of_wr W2).1
  have f3 : Fld Z h2 o0 "com/example/metasearchd/metasearchd/engine/EngineException" "reason" "Ljava/lang/String;" (.ref o1) := Fld.same W2 q1_4
  show Go p e below _ (T2.setTop (mkF m 11 #[.val (.ref o0), .val (.ref o1), .val (.ref o2), .val .null] []))
  have c5 : Exa Z h2 o0 "com/example/metasearchd/metasearchd/engine/EngineException" := (Exa.wr W2 q1_1)
  have c6 : Fld Z h2 o0 "java/lang/Throwable" "cause" "Ljava/lang/Throwable;" .null := (Fld.other W2 q1_2 (Or.inr (slot_ne (Or.inl (own_h hw 166 rfl)) (Or.inr (own_h hw 202 rfl)) (by decide) (t := (.object "java/lang/Throwable")) (t' := (.object "java/lang/String")) (by decide) (by decide))))
  have c7 : Fld Z h2 o0 "java/lang/Throwable" "detailMessage" "Ljava/lang/String;" (.ref o2) := (Fld.other W2 q1_3 (Or.inr (slot_ne (Or.inl (own_h hw 196 rfl)) (Or.inr (own_h hw 202 rfl)) (by decide) (t := (.object "java/lang/String")) (t' := (.object "java/lang/String")) (by decide) (by decide))))
  obtain ⟨fs, hr, hrun, hended, hW, hsame⟩ := X2.leave (v := none) (fun _ => rfl)
  refine Go.mk _ _ ?_ hrun hended ⟨_, _, rfl, ?_, ⟨_, rfl⟩, hW, hsame.mono (by decide) (by decide)⟩
  · exact X2.returnOut hx Bd.returns (hb hby d28_11) hr
  · show Q28 Z o0 o1 o2 u_o0_cause w_UNASSIGNED_STACK u_o0_stackTrace w_SUPPRESSED_SENTINEL u_o0_suppressedExceptions h0 n0 _ T2.heap _
    rw [e2]
    exact ⟨rfl, N2, K2, c5, c6, c7, f3⟩
def own_EL : List (String × Nat) := [("com/example/metasearchd/metasearchd/engine/EngineException", 33), ("com/example/metasearchd/metasearchd/engine/EngineException", 46)]
theorem own_ew {Z : State} {a0 : Array Value} (hw : ∀ d ∈ tables_1, d.before a0 Z = true) : EW Z a0 own_EL := EW.cons (own_h hw 28 rfl) (by decide) (EW.cons (own_h hw 149 rfl) (by decide) EW.nil)
theorem own_wS {Z : State} {a0 : Array Value} (hw : ∀ d ∈ tables_1, d.before a0 Z = true) : ∀ a ∈ Bundle.stringAtoms, a.before a0 Z = true := fun d hd => by
  simp only [Bundle.stringAtoms, List.mem_cons, List.not_mem_nil, or_false] at hd
  rcases hd with rfl | rfl | rfl | rfl | rfl | rfl | rfl
  · exact (own_h hw 22 rfl)
  · exact (own_h hw 29 rfl)
  · exact (own_h hw 23 rfl)
  · exact (own_h hw 30 rfl)
  · exact (own_h hw 31 rfl)
  · exact (own_h hw 32 rfl)
  · exact (own_h hw 33 rfl)
theorem d1_0 : decode prog_9_method_4_code 0 = .ok (.new 8, 3) := by decide +kernel
theorem d1_3 : decode prog_9_method_4_code 3 = .ok (.dup, 1) := by decide +kernel
theorem d1_4 : decode prog_9_method_4_code 4 = .ok (.new 28, 3) := by decide +kernel
theorem d1_7 : decode prog_9_method_4_code 7 = .ok (.dup, 1) := by decide +kernel
theorem d1_8 : decode prog_9_method_4_code 8 = .ok (.invokespecial 30, 3) := by decide +kernel
theorem pd_19 : parseMethodDescriptor "()V" = some ⟨[], none⟩ := by decide +kernel
abbrev own_y_StringBuilder__init__25 : MethodName := ⟨"java/lang/StringBuilder", "<init>", "()V"⟩
theorem d1_11 : decode prog_9_method_4_code 11 = .ok (.ldc 33, 2) := by decide +kernel
theorem d1_13 : decode prog_9_method_4_code 13 = .ok (.invokevirtual 35, 3) := by decide +kernel
theorem pd_20 : parseMethodDescriptor "(Ljava/lang/String;)Ljava/lang/StringBuilder;" = some ⟨[(.object "java/lang/String")], some (.object "java/lang/StringBuilder")⟩ := by decide +kernel
abbrev own_y_StringBuilder_append_26 : MethodName := ⟨"java/lang/StringBuilder", "append", "(Ljava/lang/String;)Ljava/lang/StringBuilder;"⟩
theorem d1_16 : decode prog_9_method_4_code 16 = .ok (.iload_n 0, 1) := by decide +kernel
theorem d1_17 : decode prog_9_method_4_code 17 = .ok (.invokevirtual 39, 3) := by decide +kernel
theorem pd_21 : parseMethodDescriptor "(I)Ljava/lang/StringBuilder;" = some ⟨[.int], some (.object "java/lang/StringBuilder")⟩ := by decide +kernel
abbrev own_y_StringBuilder_append_27 : MethodName := ⟨"java/lang/StringBuilder", "append", "(I)Ljava/lang/StringBuilder;"⟩
theorem d1_20 : decode prog_9_method_4_code 20 = .ok (.invokevirtual 42, 3) := by decide +kernel
theorem pd_22 : parseMethodDescriptor "()Ljava/lang/String;" = some ⟨[], some (.object "java/lang/String")⟩ := by decide +kernel
abbrev own_y_StringBuilder_toString_28 : MethodName := ⟨"java/lang/StringBuilder", "toString", "()Ljava/lang/String;"⟩
theorem d1_23 : decode prog_9_method_4_code 23 = .ok (.new 28, 3) := by decide +kernel
theorem d1_26 : decode prog_9_method_4_code 26 = .ok (.dup, 1) := by decide +kernel
theorem d1_27 : decode prog_9_method_4_code 27 = .ok (.invokespecial 30, 3) := by decide +kernel
theorem d1_30 : decode prog_9_method_4_code 30 = .ok (.ldc 46, 2) := by decide +kernel
theorem d1_32 : decode prog_9_method_4_code 32 = .ok (.invokevirtual 35, 3) := by decide +kernel
theorem d1_35 : decode prog_9_method_4_code 35 = .ok (.iload_n 0, 1) := by decide +kernel
theorem d1_36 : decode prog_9_method_4_code 36 = .ok (.invokevirtual 39, 3) := by decide +kernel
theorem d1_39 : decode prog_9_method_4_code 39 = .ok (.invokevirtual 42, 3) := by decide +kernel
theorem d1_42 : decode prog_9_method_4_code 42 = .ok (.aconst_null, 1) := by decide +kernel
theorem d1_43 : decode prog_9_method_4_code 43 = .ok (.invokespecial 17, 3) := by decide +kernel
theorem pd_23 : parseMethodDescriptor "(Ljava/lang/String;Ljava/lang/String;Ljava/lang/Throwable;)V" = some ⟨[(.object "java/lang/String"), (.object "java/lang/String"), (.object "java/lang/Throwable")], none⟩ := by decide +kernel
abbrev own_y_EngineException__init__29 : MethodName := ⟨"com/example/metasearchd/metasearchd/engine/EngineException", "<init>", "(Ljava/lang/String;Ljava/lang/String;Ljava/lang/Throwable;)V"⟩
theorem d1_46 : decode prog_9_method_4_code 46 = .ok (.areturn, 1) := by decide +kernel
theorem ef_1 (m : MethodId) (x0 : Int32) : entryFrame m #[(.int x0)] 1 = mkF m 0 #[.val (.int x0)] [] := by first | (simp [entryFrame, mkF, argsToLocals, Value.category]; done) | rfl
def Q1 (Z : State) (p0 : Int32) (w_COMPACT_STRINGS : Int32) (tst : Addr) (td1 : Addr) (td2 : Addr) (tD1 : Cell) (tD2 : Cell) (w_UNASSIGNED_STACK : Addr) (w_SUPPRESSED_SENTINEL : Addr) (h0 : Heap) (n0 : Nat) (v : Option Value) (h : Heap) (L : List Loc) : Prop := ∃ r : Addr, ∃ rs : Addr, ∃ rb : Addr, ∃ rk : ClassId, ∃ ro : List Value, v = some (.ref r) ∧ Fr n0 L ∧ Keep h0 h [] ∧ (h0.size ≤ r ∧ n0 ≤ r) ∧ Exa Z h r "com/example/metasearchd/metasearchd/engine/EngineException" ∧ Fld Z h r "com/example/metasearchd/metasearchd/engine/EngineException" "reason" "Ljava/lang/String;" (.ref rs) ∧ Exa Z h rs "java/lang/String" ∧ Fld Z h rs "java/lang/String" "coder" "B" (.int (0 : Int32)) ∧ Fld Z h rs "java/lang/String" "value" "[B" (.ref rb) ∧ Arv Z h rb rk .byte (own_sz 5 p0) ro (.int (0 : Int32)) ∧ own_out 5 p0 [(.int (104 : Int32)), (.int (116 : Int32)), (.int (116 : Int32)), (.int (112 : Int32)), (.int (45 : Int32)), (.int (0 : Int32)), (.int (0 : Int32)), (.int (0 : Int32)), (.int (0 : Int32)), (.int (0 : Int32)), (.int (0 : Int32)), (.int (0 : Int32)), (.int (0 : Int32)), (.int (0 : Int32)), (.int (0 : Int32)), (.int (0 : Int32))] ro
set_option maxRecDepth 65536 in
set_option maxHeartbeats 40000000 in
theorem rm1 (l : Launch) (Z : State) (a0 : Array Value) (hw : ∀ d ∈ tables_1, d.before a0 Z = true) (ws : List Jvm.Cond) (p0 : Int32) (w_COMPACT_STRINGS : Int32) (tst : Addr) (td1 : Addr) (td2 : Addr) (tD1 : Cell) (tD2 : Cell) (w_UNASSIGNED_STACK : Addr) (w_SUPPRESSED_SENTINEL : Addr) (h0 : Heap) (n0 : Nat) (Z0 : n0 ≤ h0.size) (S_COMPACT_STRINGS : Sta Z h0 "java/lang/String" "COMPACT_STRINGS" "Z" (.int w_COMPACT_STRINGS)) (hc7_1_13 : ¬ (w_COMPACT_STRINGS = (0 : Int32))) (Tb : own_tb Z h0 n0 tst td1 td2 tD1 tD2) (S_UNASSIGNED_STACK : Sta Z h0 "java/lang/Throwable" "UNASSIGNED_STACK" "[Ljava/lang/StackTraceElement;" (.ref w_UNASSIGNED_STACK)) (S_SUPPRESSED_SENTINEL : Sta Z h0 "java/lang/Throwable" "SUPPRESSED_SENTINEL" "Ljava/util/List;" (.ref w_SUPPRESSED_SENTINEL)) (hlt_1_1_83 : l.stackTraces = true) :
    MetFree l (⟨"com/example/metasearchd/metasearchd/engine/EngineException", "httpStatus", "(I)Lcom/example/metasearchd/metasearchd/engine/EngineException;"⟩ : MethodName) (head1 (Jvm.Cond.code (⟨"com/example/metasearchd/metasearchd/engine/EngineException", "httpStatus", "(I)Lcom/example/metasearchd/metasearchd/engine/EngineException;"⟩ : MethodName) prog_9_method_4_code 1 (some (.object "com/example/metasearchd/metasearchd/engine/EngineException")) :: ws) ({ frames := 6, cells := 15, slots := 2985, locals := 109 } : Room)) (fun a U => a = #[(.int p0)] ∧ Z.Warmed39 U.vm ∧ U.heap = h0 ∧ CHv Z own_EL U.vm h0) (fun _ _ bl s _ => s.vm.MethodsKnown ∧ s.vm.FramesKnown bl) (fun _ U o U' => ∃ v L, o = .returned v ∧ Q1 Z p0 w_COMPACT_STRINGS tst td1 td2 tD1 tD2 w_UNASSIGNED_STACK w_SUPPRESSED_SENTINEL h0 n0 v U'.heap L ∧ CHr Z own_EL U.vm U.heap U'.vm U'.heap ∧ ReturnedEndW U o U' L ({ frames := 6, cells := 15, slots := 2985, locals := 109 } : Room).cells ({ frames := 6, cells := 15, slots := 2985, locals := 109 } : Room).slots) := by
  refine MetFree.of_bodySF (plainFor_of_name pn_com_example_metasearchd_metasearchd_engine_EngineException) hisR ?_
  intro p e s m args below meth c s₁ Bd hml0 hP hK
  obtain ⟨rfl, hZ, hh, hCH⟩ := hP
  obtain ⟨hTK, hBelow⟩ := hK
  have hx := Bd.exec
  have hby := Bd.bytes
  have hml : c.maxLocals = 1 := hml0
  have hown : s.vm.findClass "com/example/metasearchd/metasearchd/engine/EngineException" = some m.cls := findClass_of_methodNamed Bd.named
  have hnm := (name_of_methodNamed Bd.named Bd.method).1
  have X0 : Stand p l e ({ frames := 6, cells := 15, slots := 2985, locals := 109 } : Room) s m #[(.int p0)] below meth c s₁ [] 0 0 := Stand.of_body Bd
  have e0 : s₁.heap = h0 := by rw [← hh, Bd.state]; rfl
  have N0 := Fr.nil n0
  show Go p e below (fun o U' => ∃ v L, o = .returned v ∧ Q1 Z p0 w_COMPACT_STRINGS tst td1 td2 tD1 tD2 w_UNASSIGNED_STACK w_SUPPRESSED_SENTINEL h0 n0 v U'.heap L ∧ CHr Z own_EL s.vm s.heap U'.vm U'.heap ∧ ReturnedEndW s o U' L ({ frames := 6, cells := 15, slots := 2985, locals := 109 } : Room).cells ({ frames := 6, cells := 15, slots := 2985, locals := 109 } : Room).slots) (s₁.setTop (entryFrame m #[(.int p0)] 1))
  refine Go.of (fun _ k => castTop (ef_1 m p0) k) ?_
  show Go p e below _ (s₁.setTop (mkF m 0 #[.val (.int p0)] []))
  obtain ⟨T1, h1, X1, e1, E1, A1, D1, U1, st1⟩ := newO X0 hx hZ hown (own_h hw 4 rfl) (own_h hw 5 rfl) (own_h hw 2 rfl) e0 (g := (mkF m 0 #[.val (.int p0)] [])) rfl (hb hby d1_0) (by decide) (by decide)
  obtain ⟨ob1, g1⟩ : ∃ z, z = h0.size := ⟨_, rfl⟩
  rw [← g1] at A1 D1 U1 st1
  refine Go.of st1 ?_
  have g_ob1 : n0 ≤ ob1 := Nat.le_trans Z0 (Nat.le_of_eq g1.symm)
  have sz_ob1 : h0.size ≤ ob1 := Nat.le_trans ((Keep.refl h0 [])).1 (Nat.le_of_eq g1.symm)
  have K1 : Keep h0 h1 [] := ((Keep.refl h0 [])).ext E1
  have Z1 : n0 ≤ h1.size := Nat.le_trans Z0 E1.1
  have Un1 : Unt h1 ob1 := U1
  have f2 : Fld Z h1 ob1 "java/lang/Throwable" "cause" "Ljava/lang/Throwable;" .null := D1 (Or.inl (own_h hw 166 rfl)) (ty := (.object "java/lang/Throwable")) (by decide)
  have f3 : Fld Z h1 ob1 "java/lang/Throwable" "stackTrace" "[Ljava/lang/StackTraceElement;" .null := D1 (Or.inl (own_h hw 169 rfl)) (ty := (.array (.object "java/lang/StackTraceElement"))) (by decide)
  have f4 : Fld Z h1 ob1 "java/lang/Throwable" "suppressedExceptions" "Ljava/util/List;" .null := D1 (Or.inl (own_h hw 172 rfl)) (ty := (.object "java/util/List")) (by decide)
  have f5 : Fld Z h1 ob1 "java/lang/Throwable" "detailMessage" "Ljava/lang/String;" .null := D1 (Or.inl (own_h hw 196 rfl)) (ty := (.object "java/lang/String")) (by decide)
  have f6 : Fld Z h1 ob1 "java/lang/Throwable" "backtrace" "Ljava/lang/Object;" .null := D1 (Or.inl (own_h hw 197 rfl)) (ty := (.object "java/lang/Object")) (by decide)
  have f7 : Fld Z h1 ob1 "java/lang/Throwable" "depth" "I" (.int (0 : Int32)) := D1 (Or.inl (own_h hw 198 rfl)) (ty := .int) (by decide)
  have f8 : Fld Z h1 ob1 "com/example/metasearchd/metasearchd/engine/EngineException" "reason" "Ljava/lang/String;" .null := D1 (Or.inr (own_h hw 202 rfl)) (ty := (.object "java/lang/String")) (by decide)
  show Go p e below _ (T1.setTop (mkF m 3 #[.val (.int p0)] [(.ref ob1)]))
  refine Go.of (fun _ k => XS.dup X1.here hx rfl (hb hby d1_3) rfl rfl k) ?_
  obtain ⟨T9, h9, X9, e9, E9, A9, D9, -, st9⟩ := newO X1 hx hZ hown (own_h hw 6 rfl) (own_h hw 7 rfl) (own_h hw 8 rfl) e1 (g := (mkF m 4 #[.val (.int p0)] [(.ref ob1), (.ref ob1)])) rfl (hb hby d1_4) (by decide) (by decide)
  obtain ⟨ob9, g9⟩ : ∃ z, z = h1.size := ⟨_, rfl⟩
  rw [← g9] at A9 D9 st9
  refine Go.of st9 ?_
  have g_ob9 : n0 ≤ ob9 := Nat.le_trans Z1 (Nat.le_of_eq g9.symm)
  have sz_ob9 : h0.size ≤ ob9 := Nat.le_trans (K1).1 (Nat.le_of_eq g9.symm)
  have K9 : Keep h0 h9 [] := (K1).ext E9
  have Z9 : n0 ≤ h9.size := Nat.le_trans Z1 E9.1
  have f10 : Fld Z h9 ob9 "java/lang/AbstractStringBuilder" "value" "[B" .null := D9 (Or.inl (own_h hw 25 rfl)) (ty := (.array .byte)) (by decide)
  have f11 : Fld Z h9 ob9 "java/lang/AbstractStringBuilder" "coder" "B" (.int (0 : Int32)) := D9 (Or.inl (own_h hw 27 rfl)) (ty := .byte) (by decide)
  have f12 : Fld Z h9 ob9 "java/lang/AbstractStringBuilder" "count" "I" (.int (0 : Int32)) := D9 (Or.inl (own_h hw 58 rfl)) (ty := .int) (by decide)
  show Go p e below _ (T9.setTop (mkF m 7 #[.val (.int p0)] [(.ref ob9), (.ref ob1), (.ref ob1)]))
  refine Go.of (fun _ k => XS.dup X9.here hx rfl (hb hby d1_7) rfl rfl k) ?_
  have c14 : Sta Z h1 "java/lang/String" "COMPACT_STRINGS" "Z" (.int w_COMPACT_STRINGS) := (Sta.ext E1 S_COMPACT_STRINGS)
  have c15 : Sta Z h9 "java/lang/String" "COMPACT_STRINGS" "Z" (.int w_COMPACT_STRINGS) := (Sta.ext E9 c14)
  obtain ⟨_, _, ⟨T13, L13, k13, n13⟩, -, X13, ⟨Lc13, hQ13, l13, y13, z13⟩, st13⟩ := X9.specialBack hx (y := own_y_StringBuilder__init__25) rfl hown (mvT hZ (own_h hw 9 rfl)) (mvT hZ (own_h hw 10 rfl)) (mvT hZ (own_h hw 11 rfl)) (by decide) (backOf (W := 3) (rm2 l Z a0 hw [] ob9 (.int (0 : Int32)) w_COMPACT_STRINGS .null (.int (0 : Int32)) h9 n0 Z9 f12 c15 hc7_1_13 A9 f10 g_ob9 f11) hZ (own_h hw 11 rfl) (own_h hw 8 rfl) (by decide) (by decide)) (g := (mkF m 8 #[.val (.int p0)] [(.ref ob9), (.ref ob9), (.ref ob1), (.ref ob1)])) rfl (by rw [hml]; rfl) (Steps.refl _) (a := ob9) (argsL := []) (rest := [(.ref ob9), (.ref ob1), (.ref ob1)]) (lenOf pd_19 rfl) rfl (Nat.le_of_eq rfl) (hb hby d1_8) (fun _ _ => ⟨rfl, e9, (by decide : 2 + 1 ≤ _), (by decide : 11 + 16 ≤ _)⟩)
  dsimp only [Pt.U, Pt.locs, Pt.cells, Pt.slots] at X13 l13 y13 z13 st13 hQ13
  subst l13 y13 z13
  obtain ⟨r0_13, rk1_13, rfl, Nq13, q13_0, q13_1, q13_2, q13_3, q13_4, q13_5, q13_6, q13_7⟩ := hQ13
  have N13 := Fr.app N0 Nq13
  refine Go.tr st13 ?_
  have K13 : Keep h0 T13.heap [] := (K9).trans q13_0 (allS (Or.inr sz_ob9) all0)
  have Z13 : n0 ≤ T13.heap.size := Nat.le_trans Z9 q13_0.1
  have g_r0_13 : n0 ≤ r0_13 := q13_5.2
  have sz_r0_13 : h0.size ≤ r0_13 := Nat.le_trans (K9).1 q13_5.1
  show Go p e below _ (T13.setTop (mkF m 11 #[.val (.int p0)] [(.ref ob9), (.ref ob1), (.ref ob1)]))
  have CA16 : CHr Z own_EL s.vm h0 s.vm T13.heap := CHr.keep (K13) sf0 hCH
  obtain ⟨a16, T16, h16, k116, b16, kk16, X16, e16, E16, hS16, hk16, hZ16, hown16, A16, Fc16, Fv16, V16, la16, lb16, CB16, Lt16, sa16, st16⟩ := ldcCH (s := s) (vm0 := s.vm) X13 hx hZ hown (own_h hw 28 rfl) (own_wS hw) rfl ((State.WarmedH.refl s).since 0) (Nat.zero_le _) (own_ew hw) (by decide) CA16.1 (vs := [(.int (104 : Int32)), (.int (116 : Int32)), (.int (116 : Int32)), (.int (112 : Int32)), (.int (45 : Int32))]) (z := (5 : Int32)) ⟨by decide, by decide⟩ (by decide) (by decide) (g := (mkF m 11 #[.val (.int p0)] [(.ref ob9), (.ref ob1), (.ref ob1)])) rfl (hb hby d1_11) (n := 20) (by decide) (by decide) (by decide) (by decide)
  refine Go.of st16 ?_
  have K16 : Keep h0 h16 [] := (K13).ext E16
  have Z16 : n0 ≤ h16.size := Nat.le_trans Z13 E16.1
  have c17 : Exa Z h9 ob1 "com/example/metasearchd/metasearchd/engine/EngineException" := (Exa.ext E9 A1)
  have c18 : Exa Z T13.heap ob1 "com/example/metasearchd/metasearchd/engine/EngineException" := (c17.keep q13_0)
  have sf16_ob1 : Safe Z own_EL T16.vm h16 ob1 := CB16.safe c18.lt (Safe.keep (K13) sf0 hCH (Safe.new sz_ob1))
  have sf16_ob9 : Safe Z own_EL T16.vm h16 ob9 := CB16.safe q13_1.lt (Safe.keep (K13) sf0 hCH (Safe.new sz_ob9))
  have sf16_r0_13 : Safe Z own_EL T16.vm h16 r0_13 := CB16.safe q13_6.lt (Safe.keep (K13) sf0 hCH (Safe.new sz_r0_13))
  show Go p e below _ (T16.setTop (mkF m 13 #[.val (.int p0)] [(.ref a16), (.ref ob9), (.ref ob1), (.ref ob1)]))
  have c20 : Sta Z T13.heap "java/lang/String" "COMPACT_STRINGS" "Z" (.int w_COMPACT_STRINGS) := (own_Sta_keep c15 q13_0 (own_pS (own_plainE A9) own_p0))
  have c21 : Sta Z h16 "java/lang/String" "COMPACT_STRINGS" "Z" (.int w_COMPACT_STRINGS) := (Sta.ext E16 c20)
  have c22 : Fld Z h16 ob9 "java/lang/AbstractStringBuilder" "count" "I" (.int (0 : Int32)) := (Fld.ext E16 q13_3)
  have c23 : Fld Z h16 ob9 "java/lang/AbstractStringBuilder" "value" "[B" (.ref r0_13) := (Fld.ext E16 q13_4)
  have c24 : Arv Z h16 r0_13 rk1_13 .byte (16 : Int32) [(.int (0 : Int32)), (.int (0 : Int32)), (.int (0 : Int32)), (.int (0 : Int32)), (.int (0 : Int32)), (.int (0 : Int32)), (.int (0 : Int32)), (.int (0 : Int32)), (.int (0 : Int32)), (.int (0 : Int32)), (.int (0 : Int32)), (.int (0 : Int32)), (.int (0 : Int32)), (.int (0 : Int32)), (.int (0 : Int32)), (.int (0 : Int32))] (.int (0 : Int32)) := (q13_6.ext E16)
  have c25 : Fld Z h16 ob9 "java/lang/AbstractStringBuilder" "coder" "B" (.int (0 : Int32)) := (Fld.ext E16 q13_2)
  have c26 : Exa Z h16 ob9 "java/lang/StringBuilder" := (Exa.ext E16 q13_1)
  obtain ⟨cq19, kq19, q19a, q19b, q19c⟩ := isOf hZ16 e16 c26
  obtain ⟨_, _, ⟨T19, L19, k19, n19⟩, -, X19, ⟨Lc19, hQ19, l19, y19, z19⟩, st19⟩ := X16.virtualBack hx (y := own_y_StringBuilder_append_26) (z := own_y_StringBuilder_append_26) hown16 (mvT hZ16 (own_h hw 34 rfl)) (mvT hZ16 (own_h hw 35 rfl)) (notFace_of_selects (args := #[]) (mvT hZ16 (own_h hw 37 rfl))) (mvT hZ16 (own_h hw 37 rfl)) (mvT hZ16 (own_h hw 36 rfl)) (by decide) (backOf (W := 2) (rm5_5 l Z a0 hw [] ob9 a16 b16 kk16 w_COMPACT_STRINGS r0_13 rk1_13 h16 n0 Z16 Fv16 V16 c21 hc7_1_13 Fc16 A16 c22 c23 c24 c25 c26 g_r0_13 (Ne.symm (Nat.ne_of_lt (Nat.lt_of_lt_of_le A9.lt q13_5.1))) g_ob9) hZ16 (own_h hw 38 rfl) (own_h hw 8 rfl) (by decide) (by decide)) q19a q19c (g := (mkF m 13 #[.val (.int p0)] [(.ref a16), (.ref ob9), (.ref ob1), (.ref ob1)])) rfl (by rw [hml]; rfl) (Steps.refl _) (argsL := [(.ref a16)]) (rest := [(.ref ob1), (.ref ob1)]) (lenOf pd_20 rfl) rfl (Nat.le_of_eq rfl) (hb hby d1_13) (fun _ _ => ⟨rfl, e16, (by decide : 5 + 0 ≤ _), (by decide : 51 + 0 ≤ _)⟩)
  dsimp only [Pt.U, Pt.locs, Pt.cells, Pt.slots] at X19 l19 y19 z19 st19 hQ19
  subst l19 y19 z19
  obtain ⟨rfl, Nq19, q19_0, q19_1, q19_2, q19_3, q19_4, q19_5⟩ := hQ19
  have N19 := Fr.app N13 Nq19
  refine Go.tr st19 ?_
  have J19 : Keep h16 T19.heap [ob9, r0_13] := ((Keep.refl h16 [ob9, r0_13])).trans q19_0 (allS (Or.inl (List.mem_of_getElem? (i := 1) rfl)) (allS (Or.inl (List.mem_of_getElem? (i := 0) rfl)) all0))
  have K19 : Keep h0 T19.heap [] := (K16).trans q19_0 (allS (Or.inr sz_r0_13) (allS (Or.inr sz_ob9) all0))
  have Z19 : n0 ≤ T19.heap.size := Nat.le_trans Z16 q19_0.1
  have c27 : Exa Z h16 r0_13 "[B" := (Exa.ext E16 q13_7)
  show Go p e below _ (T19.setTop (mkF m 16 #[.val (.int p0)] [(.ref ob9), (.ref ob1), (.ref ob1)]))
  refine Go.of (fun _ k => XS.iloadN X19.here hx rfl (hb hby d1_16) rfl  k) ?_
  have c29 : Sta Z T19.heap "java/lang/String" "COMPACT_STRINGS" "Z" (.int w_COMPACT_STRINGS) := (own_Sta_keep c21 q19_0 (own_pS (own_plainE c27) (own_pS (own_plainE c26) own_p0)))
  have c30 : own_tb Z h1 n0 tst td1 td2 tD1 tD2 := (own_tb_ext Tb E1)
  have c31 : own_tb Z h9 n0 tst td1 td2 tD1 tD2 := (own_tb_ext c30 E9)
  have c32 : own_tb Z T13.heap n0 tst td1 td2 tD1 tD2 := (own_tb_keep c31 q13_0 (own_nS g_ob9 own_n0))
  have c33 : own_tb Z h16 n0 tst td1 td2 tD1 tD2 := (own_tb_ext c32 E16)
  have c34 : own_tb Z T19.heap n0 tst td1 td2 tD1 tD2 := (own_tb_keep c33 q19_0 (own_nS g_r0_13 (own_nS g_ob9 own_n0)))
  obtain ⟨cq28, kq28, q28a, q28b, q28c⟩ := isOf hZ16 rfl q19_2
  obtain ⟨_, _, ⟨T28, L28, k28, n28⟩, -, X28, ⟨Lc28, hQ28, l28, y28, z28⟩, st28⟩ := X19.virtualBack hx (y := own_y_StringBuilder_append_27) (z := own_y_StringBuilder_append_27) hown16 (mvT hZ16 (own_h hw 84 rfl)) (mvT hZ16 (own_h hw 85 rfl)) (notFace_of_selects (args := #[]) (mvT hZ16 (own_h hw 87 rfl))) (mvT hZ16 (own_h hw 87 rfl)) (mvT hZ16 (own_h hw 86 rfl)) (by decide) (backOf (W := 2) (rm13_5 l Z a0 hw [] ob9 p0 r0_13 rk1_13 w_COMPACT_STRINGS tst td1 td2 tD1 tD2 T19.heap n0 Z19 q19_4 q19_5 q19_1 q19_3 q19_2 c29 hc7_1_13 c34 g_r0_13 (Ne.symm (Nat.ne_of_lt (Nat.lt_of_lt_of_le A9.lt q13_5.1))) g_ob9) hZ16 (own_h hw 88 rfl) (own_h hw 8 rfl) (by decide) (by decide)) q28a q28c (g := (mkF m 17 #[.val (.int p0)] [(.int p0), (.ref ob9), (.ref ob1), (.ref ob1)])) rfl (by rw [hml]; rfl) (Steps.refl _) (argsL := [(.int p0)]) (rest := [(.ref ob1), (.ref ob1)]) (lenOf pd_21 rfl) rfl (Nat.le_of_eq rfl) (hb hby d1_17) (fun _ _ => ⟨rfl, rfl, (by decide : 5 + 0 ≤ _), (by decide : 51 + 0 ≤ _)⟩)
  dsimp only [Pt.U, Pt.locs, Pt.cells, Pt.slots] at X28 l28 y28 z28 st28 hQ28
  subst l28 y28 z28
  obtain ⟨rx0_28, rfl, Nq28, q28_0, q28_1, q28_2, q28_3, q28_4, q28_5, q28_6⟩ := hQ28
  have N28 := Fr.app N19 Nq28
  refine Go.tr st28 ?_
  have J28 : Keep h16 T28.heap [ob9, r0_13] := (J19).trans q28_0 (allS (Or.inl (List.mem_of_getElem? (i := 1) rfl)) (allS (Or.inl (List.mem_of_getElem? (i := 0) rfl)) all0))
  have K28 : Keep h0 T28.heap [] := (K19).trans q28_0 (allS (Or.inr sz_r0_13) (allS (Or.inr sz_ob9) all0))
  have Z28 : n0 ≤ T28.heap.size := Nat.le_trans Z19 q28_0.1
  have c35 : Exa Z T19.heap r0_13 "[B" := (c27.keep q19_0)
  show Go p e below _ (T28.setTop (mkF m 20 #[.val (.int p0)] [(.ref ob9), (.ref ob1), (.ref ob1)]))
  have c37 : Sta Z T28.heap "java/lang/String" "COMPACT_STRINGS" "Z" (.int w_COMPACT_STRINGS) := (own_Sta_keep c29 q28_0 (own_pS (own_plainE c35) (own_pS (own_plainE q19_2) own_p0)))
  have c38 : Exa Z T28.heap r0_13 "[B" := (c35.keep q28_0)
  obtain ⟨cq36, kq36, q36a, q36b, q36c⟩ := isOf hZ16 rfl q28_2
  obtain ⟨_, _, ⟨T36, L36, k36, n36⟩, -, X36, ⟨Lc36, hQ36, l36, y36, z36⟩, st36⟩ := X28.virtualBack hx (y := own_y_StringBuilder_toString_28) (z := own_y_StringBuilder_toString_28) hown16 (mvT hZ16 (own_h hw 106 rfl)) (mvT hZ16 (own_h hw 107 rfl)) (notFace_of_selects (args := #[]) (mvT hZ16 (own_h hw 109 rfl))) (mvT hZ16 (own_h hw 109 rfl)) (mvT hZ16 (own_h hw 108 rfl)) (by decide) (backOf (W := 2) (rm18 l Z a0 hw [] ob9 (16 : Int32) rx0_28 r0_13 (own_sz 5 p0) w_COMPACT_STRINGS rk1_13 T28.heap n0 Z28 q28_5 q28_2 q28_4 c37 hc7_1_13 q28_3 q28_1 c38 (by decide) (own_sznn (by decide) p0) (own_zz (by decide) p0 _ (own_in5 p0))) hZ16 (own_h hw 110 rfl) (own_h hw 8 rfl) (by decide) (by decide)) q36a q36c (g := (mkF m 20 #[.val (.int p0)] [(.ref ob9), (.ref ob1), (.ref ob1)])) rfl (by rw [hml]; rfl) (Steps.refl _) (argsL := []) (rest := [(.ref ob1), (.ref ob1)]) (lenOf pd_22 rfl) rfl (Nat.le_of_eq rfl) (hb hby d1_20) (fun _ _ => ⟨rfl, rfl, (by decide : 5 + 2 ≤ _), (by decide : 51 + 38 ≤ _)⟩)
  dsimp only [Pt.U, Pt.locs, Pt.cells, Pt.slots] at X36 l36 y36 z36 st36 hQ36
  subst l36 y36 z36
  obtain ⟨r_36, r1_36, rk2_36, rfl, Nq36, q36_0, q36_1, q36_2, q36_3, q36_4, q36_5, q36_6⟩ := hQ36
  have N36 := Fr.app N28 Nq36
  refine Go.tr st36 ?_
  have J36 : Keep h16 T36.heap [ob9, r0_13] := (J28).trans q36_0 all0
  have K36 : Keep h0 T36.heap [] := (K28).trans q36_0 all0
  have Z36 : n0 ≤ T36.heap.size := Nat.le_trans Z28 q36_0.1
  have g_r_36 : n0 ≤ r_36 := q36_1.2
  have sz_r_36 : h0.size ≤ r_36 := Nat.le_trans (K28).1 q36_1.1
  have sl16_r_36 : h16.size ≤ r_36 := Nat.le_trans (J28).1 q36_1.1
  have g_r1_36 : n0 ≤ r1_36 := q36_5.2
  have sz_r1_36 : h0.size ≤ r1_36 := Nat.le_trans (K28).1 q36_5.1
  have sl16_r1_36 : h16.size ≤ r1_36 := Nat.le_trans (J28).1 q36_5.1
  show Go p e below _ (T36.setTop (mkF m 23 #[.val (.int p0)] [(.ref r_36), (.ref ob1), (.ref ob1)]))
  obtain ⟨T39, h39, X39, e39, E39, A39, D39, -, st39⟩ := newO X36 hx hZ16 hown16 (own_h hw 6 rfl) (own_h hw 7 rfl) (own_h hw 8 rfl) rfl (g := (mkF m 23 #[.val (.int p0)] [(.ref r_36), (.ref ob1), (.ref ob1)])) rfl (hb hby d1_23) (by decide) (by decide)
  obtain ⟨ob39, g39⟩ : ∃ z, z = T36.heap.size := ⟨_, rfl⟩
  rw [← g39] at A39 D39 st39
  refine Go.of st39 ?_
  have g_ob39 : n0 ≤ ob39 := Nat.le_trans Z36 (Nat.le_of_eq g39.symm)
  have sz_ob39 : h0.size ≤ ob39 := Nat.le_trans (K36).1 (Nat.le_of_eq g39.symm)
  have K39 : Keep h0 h39 [] := (K36).ext E39
  have Z39 : n0 ≤ h39.size := Nat.le_trans Z36 E39.1
  have J39 : Keep h16 h39 [ob9, r0_13] := (J36).ext E39
  have sl16_ob39 : h16.size ≤ ob39 := Nat.le_trans (J36).1 (Nat.le_of_eq g39.symm)
  have f40 : Fld Z h39 ob39 "java/lang/AbstractStringBuilder" "value" "[B" .null := D39 (Or.inl (own_h hw 25 rfl)) (ty := (.array .byte)) (by decide)
  have f41 : Fld Z h39 ob39 "java/lang/AbstractStringBuilder" "coder" "B" (.int (0 : Int32)) := D39 (Or.inl (own_h hw 27 rfl)) (ty := .byte) (by decide)
  have f42 : Fld Z h39 ob39 "java/lang/AbstractStringBuilder" "count" "I" (.int (0 : Int32)) := D39 (Or.inl (own_h hw 58 rfl)) (ty := .int) (by decide)
  show Go p e below _ (T39.setTop (mkF m 26 #[.val (.int p0)] [(.ref ob39), (.ref r_36), (.ref ob1), (.ref ob1)]))
  refine Go.of (fun _ k => XS.dup X39.here hx rfl (hb hby d1_26) rfl rfl k) ?_
  have c44 : Sta Z T36.heap "java/lang/String" "COMPACT_STRINGS" "Z" (.int w_COMPACT_STRINGS) := (own_Sta_keep c37 q36_0 own_p0)
  have c45 : Sta Z h39 "java/lang/String" "COMPACT_STRINGS" "Z" (.int w_COMPACT_STRINGS) := (Sta.ext E39 c44)
  obtain ⟨_, _, ⟨T43, L43, k43, n43⟩, -, X43, ⟨Lc43, hQ43, l43, y43, z43⟩, st43⟩ := X39.specialBack hx (y := own_y_StringBuilder__init__25) rfl hown16 (mvT hZ16 (own_h hw 9 rfl)) (mvT hZ16 (own_h hw 10 rfl)) (mvT hZ16 (own_h hw 11 rfl)) (by decide) (backOf (W := 4) (rm2 l Z a0 hw [] ob39 (.int (0 : Int32)) w_COMPACT_STRINGS .null (.int (0 : Int32)) h39 n0 Z39 f42 c45 hc7_1_13 A39 f40 g_ob39 f41) hZ16 (own_h hw 11 rfl) (own_h hw 8 rfl) (by decide) (by decide)) (g := (mkF m 27 #[.val (.int p0)] [(.ref ob39), (.ref ob39), (.ref r_36), (.ref ob1), (.ref ob1)])) rfl (by rw [hml]; rfl) (Steps.refl _) (a := ob39) (argsL := []) (rest := [(.ref ob39), (.ref r_36), (.ref ob1), (.ref ob1)]) (lenOf pd_19 rfl) rfl (Nat.le_of_eq rfl) (hb hby d1_27) (fun _ _ => ⟨rfl, e39, (by decide : 8 + 1 ≤ _), (by decide : 93 + 16 ≤ _)⟩)
  dsimp only [Pt.U, Pt.locs, Pt.cells, Pt.slots] at X43 l43 y43 z43 st43 hQ43
  subst l43 y43 z43
  obtain ⟨r0_43, rk1_43, rfl, Nq43, q43_0, q43_1, q43_2, q43_3, q43_4, q43_5, q43_6, q43_7⟩ := hQ43
  have N43 := Fr.app N36 Nq43
  refine Go.tr st43 ?_
  have J43 : Keep h16 T43.heap [ob9, r0_13] := (J39).trans q43_0 (allS (Or.inr sl16_ob39) all0)
  have K43 : Keep h0 T43.heap [] := (K39).trans q43_0 (allS (Or.inr sz_ob39) all0)
  have Z43 : n0 ≤ T43.heap.size := Nat.le_trans Z39 q43_0.1
  have g_r0_43 : n0 ≤ r0_43 := q43_5.2
  have sz_r0_43 : h0.size ≤ r0_43 := Nat.le_trans (K39).1 q43_5.1
  have sl16_r0_43 : h16.size ≤ r0_43 := Nat.le_trans (J39).1 q43_5.1
  show Go p e below _ (T43.setTop (mkF m 30 #[.val (.int p0)] [(.ref ob39), (.ref r_36), (.ref ob1), (.ref ob1)]))
  have CA46 : CHr Z own_EL T16.vm h16 T16.vm T43.heap := CHr.keep (J43) (sfS sf16_ob9 (sfS sf16_r0_13 sf0)) CB16.1
  obtain ⟨a46, T46, h46, k146, b46, kk46, X46, e46, E46, hS46, hk46, hZ46, hown46, A46, Fc46, Fv46, V46, la46, lb46, CB46, Lt46, sa46, st46⟩ := ldcCH (s := s) (vm0 := T16.vm) X43 hx hZ16 hown16 (own_h hw 149 rfl) (own_wS hw) rfl hS16 (Nat.le_trans hk16 (J43).1) (own_ew hw) (by decide) CA46.1 (vs := [(.int (72 : Int32)), (.int (84 : Int32)), (.int (84 : Int32)), (.int (80 : Int32)), (.int (32 : Int32)), (.int (115 : Int32)), (.int (116 : Int32)), (.int (97 : Int32)), (.int (116 : Int32)), (.int (117 : Int32)), (.int (115 : Int32)), (.int (32 : Int32))]) (z := (12 : Int32)) ⟨by decide, by decide⟩ (by decide) (by decide) (g := (mkF m 30 #[.val (.int p0)] [(.ref ob39), (.ref r_36), (.ref ob1), (.ref ob1)])) rfl (hb hby d1_30) (n := 48) (by decide) (by decide) (by decide) (by decide)
  refine Go.of st46 ?_
  have K46 : Keep h0 h46 [] := (K43).ext E46
  have Z46 : n0 ≤ h46.size := Nat.le_trans Z43 E46.1
  have c47 : Exa Z h16 ob1 "com/example/metasearchd/metasearchd/engine/EngineException" := (Exa.ext E16 c18)
  have c48 : Exa Z T19.heap ob1 "com/example/metasearchd/metasearchd/engine/EngineException" := (c47.keep q19_0)
  have c49 : Exa Z T28.heap ob1 "com/example/metasearchd/metasearchd/engine/EngineException" := (c48.keep q28_0)
  have c50 : Exa Z T36.heap ob1 "com/example/metasearchd/metasearchd/engine/EngineException" := (c49.keep q36_0)
  have c51 : Exa Z h39 ob1 "com/example/metasearchd/metasearchd/engine/EngineException" := (Exa.ext E39 c50)
  have c52 : Exa Z T43.heap ob1 "com/example/metasearchd/metasearchd/engine/EngineException" := (c51.keep q43_0)
  have sf46_ob1 : Safe Z own_EL T46.vm h46 ob1 := CB46.safe c52.lt (Safe.keep (J43) (sfS sf16_ob9 (sfS sf16_r0_13 sf0)) CB16.1 sf16_ob1)
  have c53 : Exa Z T36.heap ob9 "java/lang/StringBuilder" := (q28_2.keep q36_0)
  have c54 : Exa Z h39 ob9 "java/lang/StringBuilder" := (Exa.ext E39 c53)
  have c55 : Exa Z T43.heap ob9 "java/lang/StringBuilder" := (c54.keep q43_0)
  have sf46_ob9 : Safe Z own_EL T46.vm h46 ob9 := CB46.safe c55.lt (Safe.keep (J43) (sfS sf16_ob9 (sfS sf16_r0_13 sf0)) CB16.1 sf16_ob9)
  have c56 : Exa Z T36.heap r0_13 "[B" := (c38.keep q36_0)
  have c57 : Exa Z h39 r0_13 "[B" := (Exa.ext E39 c56)
  have c58 : Exa Z T43.heap r0_13 "[B" := (c57.keep q43_0)
  have sf46_r0_13 : Safe Z own_EL T46.vm h46 r0_13 := CB46.safe c58.lt (Safe.keep (J43) (sfS sf16_ob9 (sfS sf16_r0_13 sf0)) CB16.1 sf16_r0_13)
  have c59 : Exa Z h39 r_36 "java/lang/String" := (Exa.ext E39 q36_2)
  have c60 : Exa Z T43.heap r_36 "java/lang/String" := (c59.keep q43_0)
  have sf46_r_36 : Safe Z own_EL T46.vm h46 r_36 := CB46.safe c60.lt (Safe.keep (J43) (sfS sf16_ob9 (sfS sf16_r0_13 sf0)) CB16.1 (Safe.new sl16_r_36))
  have c61 : Arv Z h39 r1_36 rk2_36 .byte (own_sz 5 p0) rx0_28 (.int (0 : Int32)) := (q36_6.ext E39)
  have c62 : Arv Z T43.heap r1_36 rk2_36 .byte (own_sz 5 p0) rx0_28 (.int (0 : Int32)) := (c61.keep q43_0 (ninS (Nat.ne_of_lt (Nat.lt_of_lt_of_le q36_6.lt (Nat.le_of_eq g39.symm))) nin0))
  have sf46_r1_36 : Safe Z own_EL T46.vm h46 r1_36 := CB46.safe c62.lt (Safe.keep (J43) (sfS sf16_ob9 (sfS sf16_r0_13 sf0)) CB16.1 (Safe.new sl16_r1_36))
  have sf46_ob39 : Safe Z own_EL T46.vm h46 ob39 := CB46.safe q43_1.lt (Safe.keep (J43) (sfS sf16_ob9 (sfS sf16_r0_13 sf0)) CB16.1 (Safe.new sl16_ob39))
  have sf46_r0_43 : Safe Z own_EL T46.vm h46 r0_43 := CB46.safe q43_6.lt (Safe.keep (J43) (sfS sf16_ob9 (sfS sf16_r0_13 sf0)) CB16.1 (Safe.new sl16_r0_43))
  show Go p e below _ (T46.setTop (mkF m 32 #[.val (.int p0)] [(.ref a46), (.ref ob39), (.ref r_36), (.ref ob1), (.ref ob1)]))
  have c64 : Sta Z T43.heap "java/lang/String" "COMPACT_STRINGS" "Z" (.int w_COMPACT_STRINGS) := (own_Sta_keep c45 q43_0 (own_pS (own_plainE A39) own_p0))
  have c65 : Sta Z h46 "java/lang/String" "COMPACT_STRINGS" "Z" (.int w_COMPACT_STRINGS) := (Sta.ext E46 c64)
  have c66 : Fld Z h46 ob39 "java/lang/AbstractStringBuilder" "count" "I" (.int (0 : Int32)) := (Fld.ext E46 q43_3)
  have c67 : Fld Z h46 ob39 "java/lang/AbstractStringBuilder" "value" "[B" (.ref r0_43) := (Fld.ext E46 q43_4)
  have c68 : Arv Z h46 r0_43 rk1_43 .byte (16 : Int32) [(.int (0 : Int32)), (.int (0 : Int32)), (.int (0 : Int32)), (.int (0 : Int32)), (.int (0 : Int32)), (.int (0 : Int32)), (.int (0 : Int32)), (.int (0 : Int32)), (.int (0 : Int32)), (.int (0 : Int32)), (.int (0 : Int32)), (.int (0 : Int32)), (.int (0 : Int32)), (.int (0 : Int32)), (.int (0 : Int32)), (.int (0 : Int32))] (.int (0 : Int32)) := (q43_6.ext E46)
  have c69 : Fld Z h46 ob39 "java/lang/AbstractStringBuilder" "coder" "B" (.int (0 : Int32)) := (Fld.ext E46 q43_2)
  have c70 : Exa Z h46 ob39 "java/lang/StringBuilder" := (Exa.ext E46 q43_1)
  obtain ⟨cq63, kq63, q63a, q63b, q63c⟩ := isOf hZ46 e46 c70
  obtain ⟨_, _, ⟨T63, L63, k63, n63⟩, -, X63, ⟨Lc63, hQ63, l63, y63, z63⟩, st63⟩ := X46.virtualBack hx (y := own_y_StringBuilder_append_26) (z := own_y_StringBuilder_append_26) hown46 (mvT hZ46 (own_h hw 34 rfl)) (mvT hZ46 (own_h hw 35 rfl)) (notFace_of_selects (args := #[]) (mvT hZ46 (own_h hw 37 rfl))) (mvT hZ46 (own_h hw 37 rfl)) (mvT hZ46 (own_h hw 36 rfl)) (by decide) (backOf (W := 3) (rm5_12 l Z a0 hw [] ob39 a46 b46 kk46 w_COMPACT_STRINGS r0_43 rk1_43 h46 n0 Z46 Fv46 V46 c65 hc7_1_13 Fc46 A46 c66 c67 c68 c69 c70 g_r0_43 (Ne.symm (Nat.ne_of_lt (Nat.lt_of_lt_of_le A39.lt q43_5.1))) g_ob39) hZ46 (own_h hw 38 rfl) (own_h hw 8 rfl) (by decide) (by decide)) q63a q63c (g := (mkF m 32 #[.val (.int p0)] [(.ref a46), (.ref ob39), (.ref r_36), (.ref ob1), (.ref ob1)])) rfl (by rw [hml]; rfl) (Steps.refl _) (argsL := [(.ref a46)]) (rest := [(.ref r_36), (.ref ob1), (.ref ob1)]) (lenOf pd_20 rfl) rfl (Nat.le_of_eq rfl) (hb hby d1_32) (fun _ _ => ⟨rfl, e46, (by decide : 11 + 0 ≤ _), (by decide : 161 + 0 ≤ _)⟩)
  dsimp only [Pt.U, Pt.locs, Pt.cells, Pt.slots] at X63 l63 y63 z63 st63 hQ63
  subst l63 y63 z63
  obtain ⟨rfl, Nq63, q63_0, q63_1, q63_2, q63_3, q63_4, q63_5⟩ := hQ63
  have N63 := Fr.app N43 Nq63
  refine Go.tr st63 ?_
  have J63 : Keep h46 T63.heap [ob39, r0_43, ob1] := ((Keep.refl h46 [ob39, r0_43, ob1])).trans q63_0 (allS (Or.inl (List.mem_of_getElem? (i := 1) rfl)) (allS (Or.inl (List.mem_of_getElem? (i := 0) rfl)) all0))
  have K63 : Keep h0 T63.heap [] := (K46).trans q63_0 (allS (Or.inr sz_r0_43) (allS (Or.inr sz_ob39) all0))
  have Z63 : n0 ≤ T63.heap.size := Nat.le_trans Z46 q63_0.1
  have c71 : Exa Z h46 r0_43 "[B" := (Exa.ext E46 q43_7)
  show Go p e below _ (T63.setTop (mkF m 35 #[.val (.int p0)] [(.ref ob39), (.ref r_36), (.ref ob1), (.ref ob1)]))
  refine Go.of (fun _ k => XS.iloadN X63.here hx rfl (hb hby d1_35) rfl  k) ?_
  have c73 : Sta Z T63.heap "java/lang/String" "COMPACT_STRINGS" "Z" (.int w_COMPACT_STRINGS) := (own_Sta_keep c65 q63_0 (own_pS (own_plainE c71) (own_pS (own_plainE c70) own_p0)))
  have c74 : own_tb Z T28.heap n0 tst td1 td2 tD1 tD2 := (own_tb_keep c34 q28_0 (own_nS g_r0_13 (own_nS g_ob9 own_n0)))
  have c75 : own_tb Z T36.heap n0 tst td1 td2 tD1 tD2 := (own_tb_keep c74 q36_0 own_n0)
  have c76 : own_tb Z h39 n0 tst td1 td2 tD1 tD2 := (own_tb_ext c75 E39)
  have c77 : own_tb Z T43.heap n0 tst td1 td2 tD1 tD2 := (own_tb_keep c76 q43_0 (own_nS g_ob39 own_n0))
  have c78 : own_tb Z h46 n0 tst td1 td2 tD1 tD2 := (own_tb_ext c77 E46)
  have c79 : own_tb Z T63.heap n0 tst td1 td2 tD1 tD2 := (own_tb_keep c78 q63_0 (own_nS g_r0_43 (own_nS g_ob39 own_n0)))
  have c80 : Exa Z T63.heap r0_43 "[B" := (c71.keep q63_0)
  obtain ⟨cq72, kq72, q72a, q72b, q72c⟩ := isOf hZ46 rfl q63_2
  obtain ⟨_, _, ⟨T72, L72, k72, n72⟩, -, X72, ⟨Lc72, hQ72, l72, y72, z72⟩, st72⟩ := X63.virtualBack hx (y := own_y_StringBuilder_append_27) (z := own_y_StringBuilder_append_27) hown46 (mvT hZ46 (own_h hw 84 rfl)) (mvT hZ46 (own_h hw 85 rfl)) (notFace_of_selects (args := #[]) (mvT hZ46 (own_h hw 87 rfl))) (mvT hZ46 (own_h hw 87 rfl)) (mvT hZ46 (own_h hw 86 rfl)) (by decide) (backOf (W := 3) (rm13_12 l Z a0 hw [] ob39 p0 r0_43 rk1_43 w_COMPACT_STRINGS tst td1 td2 tD1 tD2 T63.heap n0 Z63 q63_4 q63_5 q63_1 q63_3 q63_2 g_ob39 c73 hc7_1_13 c79 g_r0_43 (Ne.symm (Nat.ne_of_lt (Nat.lt_of_lt_of_le A39.lt q43_5.1))) c80) hZ46 (own_h hw 88 rfl) (own_h hw 8 rfl) (by decide) (by decide)) q72a q72c (g := (mkF m 36 #[.val (.int p0)] [(.int p0), (.ref ob39), (.ref r_36), (.ref ob1), (.ref ob1)])) rfl (by rw [hml]; rfl) (Steps.refl _) (argsL := [(.int p0)]) (rest := [(.ref r_36), (.ref ob1), (.ref ob1)]) (lenOf pd_21 rfl) rfl (Nat.le_of_eq rfl) (hb hby d1_36) (fun _ _ => ⟨rfl, rfl, (by decide : 11 + 1 ≤ _), (by decide : 161 + 34 ≤ _)⟩)
  dsimp only [Pt.U, Pt.locs, Pt.cells, Pt.slots] at X72 l72 y72 z72 st72 hQ72
  subst l72 y72 z72
  obtain ⟨r0_72, rk1_72, rx2_72, rx3_72, rfl, Nq72, q72_0, q72_1, q72_2, q72_3, q72_4, q72_5, q72_6, q72_7, q72_8, q72_9⟩ := hQ72
  have N72 := Fr.app N63 Nq72
  refine Go.tr st72 ?_
  have J72 : Keep h46 T72.heap [ob39, r0_43, ob1] := (J63).trans q72_0 (allS (Or.inl (List.mem_of_getElem? (i := 0) rfl)) (allS (Or.inl (List.mem_of_getElem? (i := 1) rfl)) all0))
  have K72 : Keep h0 T72.heap [] := (K63).trans q72_0 (allS (Or.inr sz_ob39) (allS (Or.inr sz_r0_43) all0))
  have Z72 : n0 ≤ T72.heap.size := Nat.le_trans Z63 q72_0.1
  show Go p e below _ (T72.setTop (mkF m 39 #[.val (.int p0)] [(.ref ob39), (.ref r_36), (.ref ob1), (.ref ob1)]))
  have c82 : Sta Z T72.heap "java/lang/String" "COMPACT_STRINGS" "Z" (.int w_COMPACT_STRINGS) := (own_Sta_keep c73 q72_0 (own_pS (own_plainE q63_2) (own_pS (own_plainE c80) own_p0)))
  obtain ⟨cq81, kq81, q81a, q81b, q81c⟩ := isOf hZ46 rfl q72_1
  obtain ⟨_, _, ⟨T81, L81, k81, n81⟩, -, X81, ⟨Lc81, hQ81, l81, y81, z81⟩, st81⟩ := X72.virtualBack hx (y := own_y_StringBuilder_toString_28) (z := own_y_StringBuilder_toString_28) hown46 (mvT hZ46 (own_h hw 106 rfl)) (mvT hZ46 (own_h hw 107 rfl)) (notFace_of_selects (args := #[]) (mvT hZ46 (own_h hw 109 rfl))) (mvT hZ46 (own_h hw 109 rfl)) (mvT hZ46 (own_h hw 108 rfl)) (by decide) (backOf (W := 3) (rm18 l Z a0 hw [] ob39 rx2_72 rx3_72 r0_72 (own_sz 12 p0) w_COMPACT_STRINGS rk1_72 T72.heap n0 Z72 q72_4 q72_1 q72_3 c82 hc7_1_13 q72_2 q72_6 q72_7 q72_9 (own_sznn (by decide) p0) q72_8) hZ46 (own_h hw 110 rfl) (own_h hw 8 rfl) (by decide) (by decide)) q81a q81c (g := (mkF m 39 #[.val (.int p0)] [(.ref ob39), (.ref r_36), (.ref ob1), (.ref ob1)])) rfl (by rw [hml]; rfl) (Steps.refl _) (argsL := []) (rest := [(.ref r_36), (.ref ob1), (.ref ob1)]) (lenOf pd_22 rfl) rfl (Nat.le_of_eq rfl) (hb hby d1_39) (fun _ _ => ⟨rfl, rfl, (by decide : 12 + 2 ≤ _), (by decide : 195 + 38 ≤ _)⟩)
  dsimp only [Pt.U, Pt.locs, Pt.cells, Pt.slots] at X81 l81 y81 z81 st81 hQ81
  subst l81 y81 z81
  obtain ⟨r_81, r1_81, rk2_81, rfl, Nq81, q81_0, q81_1, q81_2, q81_3, q81_4, q81_5, q81_6⟩ := hQ81
  have N81 := Fr.app N72 Nq81
  refine Go.tr st81 ?_
  have J81 : Keep h46 T81.heap [ob39, r0_43, ob1] := (J72).trans q81_0 all0
  have K81 : Keep h0 T81.heap [] := (K72).trans q81_0 all0
  have Z81 : n0 ≤ T81.heap.size := Nat.le_trans Z72 q81_0.1
  have g_r_81 : n0 ≤ r_81 := q81_1.2
  have sz_r_81 : h0.size ≤ r_81 := Nat.le_trans (K72).1 q81_1.1
  have sl46_r_81 : h46.size ≤ r_81 := Nat.le_trans (J72).1 q81_1.1
  have g_r1_81 : n0 ≤ r1_81 := q81_5.2
  have sz_r1_81 : h0.size ≤ r1_81 := Nat.le_trans (K72).1 q81_5.1
  have sl46_r1_81 : h46.size ≤ r1_81 := Nat.le_trans (J72).1 q81_5.1
  show Go p e below _ (T81.setTop (mkF m 42 #[.val (.int p0)] [(.ref r_81), (.ref r_36), (.ref ob1), (.ref ob1)]))
  refine Go.of (fun _ k => XS.aconstNull X81.here hx rfl (hb hby d1_42) k) ?_
  have c84 : Fld Z h9 ob1 "java/lang/Throwable" "backtrace" "Ljava/lang/Object;" .null := (Fld.ext E9 f6)
  have c85 : Fld Z T13.heap ob1 "java/lang/Throwable" "backtrace" "Ljava/lang/Object;" .null := (c84.keep q13_0 (ninS (Nat.ne_of_lt (Nat.lt_of_lt_of_le A1.lt (Nat.le_of_eq g9.symm))) nin0))
  have c86 : Fld Z h16 ob1 "java/lang/Throwable" "backtrace" "Ljava/lang/Object;" .null := (Fld.ext E16 c85)
  have c87 : Fld Z T19.heap ob1 "java/lang/Throwable" "backtrace" "Ljava/lang/Object;" .null := (c86.keep q19_0 (ninS (Nat.ne_of_lt (Nat.lt_of_lt_of_le c17.lt q13_5.1)) (ninS (Nat.ne_of_lt (Nat.lt_of_lt_of_le A1.lt (Nat.le_of_eq g9.symm))) nin0)))
  have c88 : Fld Z T28.heap ob1 "java/lang/Throwable" "backtrace" "Ljava/lang/Object;" .null := (c87.keep q28_0 (ninS (Nat.ne_of_lt (Nat.lt_of_lt_of_le c17.lt q13_5.1)) (ninS (Nat.ne_of_lt (Nat.lt_of_lt_of_le A1.lt (Nat.le_of_eq g9.symm))) nin0)))
  have c89 : Fld Z T36.heap ob1 "java/lang/Throwable" "backtrace" "Ljava/lang/Object;" .null := (c88.keep q36_0 nin0)
  have c90 : Fld Z h39 ob1 "java/lang/Throwable" "backtrace" "Ljava/lang/Object;" .null := (Fld.ext E39 c89)
  have c91 : Fld Z T43.heap ob1 "java/lang/Throwable" "backtrace" "Ljava/lang/Object;" .null := (c90.keep q43_0 (ninS (Nat.ne_of_lt (Nat.lt_of_lt_of_le c50.lt (Nat.le_of_eq g39.symm))) nin0))
  have c92 : Fld Z h46 ob1 "java/lang/Throwable" "backtrace" "Ljava/lang/Object;" .null := (Fld.ext E46 c91)
  have c93 : Fld Z T63.heap ob1 "java/lang/Throwable" "backtrace" "Ljava/lang/Object;" .null := (c92.keep q63_0 (ninS (Nat.ne_of_lt (Nat.lt_of_lt_of_le c51.lt q43_5.1)) (ninS (Nat.ne_of_lt (Nat.lt_of_lt_of_le c50.lt (Nat.le_of_eq g39.symm))) nin0)))
  have c94 : Fld Z T72.heap ob1 "java/lang/Throwable" "backtrace" "Ljava/lang/Object;" .null := (c93.keep q72_0 (ninS (Nat.ne_of_lt (Nat.lt_of_lt_of_le c50.lt (Nat.le_of_eq g39.symm))) (ninS (Nat.ne_of_lt (Nat.lt_of_lt_of_le c51.lt q43_5.1)) nin0)))
  have c95 : Fld Z T81.heap ob1 "java/lang/Throwable" "backtrace" "Ljava/lang/Object;" .null := (c94.keep q81_0 nin0)
  have c96 : Exa Z h46 ob1 "com/example/metasearchd/metasearchd/engine/EngineException" := (Exa.ext E46 c52)
  have c97 : Exa Z T63.heap ob1 "com/example/metasearchd/metasearchd/engine/EngineException" := (c96.keep q63_0)
  have c98 : Exa Z T72.heap ob1 "com/example/metasearchd/metasearchd/engine/EngineException" := (c97.keep q72_0)
  have c99 : Exa Z T81.heap ob1 "com/example/metasearchd/metasearchd/engine/EngineException" := (c98.keep q81_0)
  have c100 : Fld Z h9 ob1 "java/lang/Throwable" "cause" "Ljava/lang/Throwable;" .null := (Fld.ext E9 f2)
  have c101 : Fld Z T13.heap ob1 "java/lang/Throwable" "cause" "Ljava/lang/Throwable;" .null := (c100.keep q13_0 (ninS (Nat.ne_of_lt (Nat.lt_of_lt_of_le A1.lt (Nat.le_of_eq g9.symm))) nin0))
  have c102 : Fld Z h16 ob1 "java/lang/Throwable" "cause" "Ljava/lang/Throwable;" .null := (Fld.ext E16 c101)
  have c103 : Fld Z T19.heap ob1 "java/lang/Throwable" "cause" "Ljava/lang/Throwable;" .null := (c102.keep q19_0 (ninS (Nat.ne_of_lt (Nat.lt_of_lt_of_le c17.lt q13_5.1)) (ninS (Nat.ne_of_lt (Nat.lt_of_lt_of_le A1.lt (Nat.le_of_eq g9.symm))) nin0)))
  have c104 : Fld Z T28.heap ob1 "java/lang/Throwable" "cause" "Ljava/lang/Throwable;" .null := (c103.keep q28_0 (ninS (Nat.ne_of_lt (Nat.lt_of_lt_of_le c17.lt q13_5.1)) (ninS (Nat.ne_of_lt (Nat.lt_of_lt_of_le A1.lt (Nat.le_of_eq g9.symm))) nin0)))
  have c105 : Fld Z T36.heap ob1 "java/lang/Throwable" "cause" "Ljava/lang/Throwable;" .null := (c104.keep q36_0 nin0)
  have c106 : Fld Z h39 ob1 "java/lang/Throwable" "cause" "Ljava/lang/Throwable;" .null := (Fld.ext E39 c105)
  have c107 : Fld Z T43.heap ob1 "java/lang/Throwable" "cause" "Ljava/lang/Throwable;" .null := (c106.keep q43_0 (ninS (Nat.ne_of_lt (Nat.lt_of_lt_of_le c50.lt (Nat.le_of_eq g39.symm))) nin0))
  have c108 : Fld Z h46 ob1 "java/lang/Throwable" "cause" "Ljava/lang/Throwable;" .null := (Fld.ext E46 c107)
  have c109 : Fld Z T63.heap ob1 "java/lang/Throwable" "cause" "Ljava/lang/Throwable;" .null := (c108.keep q63_0 (ninS (Nat.ne_of_lt (Nat.lt_of_lt_of_le c51.lt q43_5.1)) (ninS (Nat.ne_of_lt (Nat.lt_of_lt_of_le c50.lt (Nat.le_of_eq g39.symm))) nin0)))
  have c110 : Fld Z T72.heap ob1 "java/lang/Throwable" "cause" "Ljava/lang/Throwable;" .null := (c109.keep q72_0 (ninS (Nat.ne_of_lt (Nat.lt_of_lt_of_le c50.lt (Nat.le_of_eq g39.symm))) (ninS (Nat.ne_of_lt (Nat.lt_of_lt_of_le c51.lt q43_5.1)) nin0)))
  have c111 : Fld Z T81.heap ob1 "java/lang/Throwable" "cause" "Ljava/lang/Throwable;" .null := (c110.keep q81_0 nin0)
  have c112 : Sta Z h1 "java/lang/Throwable" "UNASSIGNED_STACK" "[Ljava/lang/StackTraceElement;" (.ref w_UNASSIGNED_STACK) := (Sta.ext E1 S_UNASSIGNED_STACK)
  have c113 : Sta Z h9 "java/lang/Throwable" "UNASSIGNED_STACK" "[Ljava/lang/StackTraceElement;" (.ref w_UNASSIGNED_STACK) := (Sta.ext E9 c112)
  have c114 : Sta Z T13.heap "java/lang/Throwable" "UNASSIGNED_STACK" "[Ljava/lang/StackTraceElement;" (.ref w_UNASSIGNED_STACK) := (own_Sta_keep c113 q13_0 (own_pS (own_plainE A9) own_p0))
  have c115 : Sta Z h16 "java/lang/Throwable" "UNASSIGNED_STACK" "[Ljava/lang/StackTraceElement;" (.ref w_UNASSIGNED_STACK) := (Sta.ext E16 c114)
  have c116 : Sta Z T19.heap "java/lang/Throwable" "UNASSIGNED_STACK" "[Ljava/lang/StackTraceElement;" (.ref w_UNASSIGNED_STACK) := (own_Sta_keep c115 q19_0 (own_pS (own_plainE c27) (own_pS (own_plainE c26) own_p0)))
  have c117 : Sta Z T28.heap "java/lang/Throwable" "UNASSIGNED_STACK" "[Ljava/lang/StackTraceElement;" (.ref w_UNASSIGNED_STACK) := (own_Sta_keep c116 q28_0 (own_pS (own_plainE c35) (own_pS (own_plainE q19_2) own_p0)))
  have c118 : Sta Z T36.heap "java/lang/Throwable" "UNASSIGNED_STACK" "[Ljava/lang/StackTraceElement;" (.ref w_UNASSIGNED_STACK) := (own_Sta_keep c117 q36_0 own_p0)
  have c119 : Sta Z h39 "java/lang/Throwable" "UNASSIGNED_STACK" "[Ljava/lang/StackTraceElement;" (.ref w_UNASSIGNED_STACK) := (Sta.ext E39 c118)
  have c120 : Sta Z T43.heap "java/lang/Throwable" "UNASSIGNED_STACK" "[Ljava/lang/StackTraceElement;" (.ref w_UNASSIGNED_STACK) := (own_Sta_keep c119 q43_0 (own_pS (own_plainE A39) own_p0))
  have c121 : Sta Z h46 "java/lang/Throwable" "UNASSIGNED_STACK" "[Ljava/lang/StackTraceElement;" (.ref w_UNASSIGNED_STACK) := (Sta.ext E46 c120)
  have c122 : Sta Z T63.heap "java/lang/Throwable" "UNASSIGNED_STACK" "[Ljava/lang/StackTraceElement;" (.ref w_UNASSIGNED_STACK) := (own_Sta_keep c121 q63_0 (own_pS (own_plainE c71) (own_pS (own_plainE c70) own_p0)))
  have c123 : Sta Z T72.heap "java/lang/Throwable" "UNASSIGNED_STACK" "[Ljava/lang/StackTraceElement;" (.ref w_UNASSIGNED_STACK) := (own_Sta_keep c122 q72_0 (own_pS (own_plainE q63_2) (own_pS (own_plainE c80) own_p0)))
  have c124 : Sta Z T81.heap "java/lang/Throwable" "UNASSIGNED_STACK" "[Ljava/lang/StackTraceElement;" (.ref w_UNASSIGNED_STACK) := (own_Sta_keep c123 q81_0 own_p0)
  have c125 : Fld Z h9 ob1 "java/lang/Throwable" "stackTrace" "[Ljava/lang/StackTraceElement;" .null := (Fld.ext E9 f3)
  have c126 : Fld Z T13.heap ob1 "java/lang/Throwable" "stackTrace" "[Ljava/lang/StackTraceElement;" .null := (c125.keep q13_0 (ninS (Nat.ne_of_lt (Nat.lt_of_lt_of_le A1.lt (Nat.le_of_eq g9.symm))) nin0))
  have c127 : Fld Z h16 ob1 "java/lang/Throwable" "stackTrace" "[Ljava/lang/StackTraceElement;" .null := (Fld.ext E16 c126)
  have c128 : Fld Z T19.heap ob1 "java/lang/Throwable" "stackTrace" "[Ljava/lang/StackTraceElement;" .null := (c127.keep q19_0 (ninS (Nat.ne_of_lt (Nat.lt_of_lt_of_le c17.lt q13_5.1)) (ninS (Nat.ne_of_lt (Nat.lt_of_lt_of_le A1.lt (Nat.le_of_eq g9.symm))) nin0)))
  have c129 : Fld Z T28.heap ob1 "java/lang/Throwable" "stackTrace" "[Ljava/lang/StackTraceElement;" .null := (c128.keep q28_0 (ninS (Nat.ne_of_lt (Nat.lt_of_lt_of_le c17.lt q13_5.1)) (ninS (Nat.ne_of_lt (Nat.lt_of_lt_of_le A1.lt (Nat.le_of_eq g9.symm))) nin0)))
  have c130 : Fld Z T36.heap ob1 "java/lang/Throwable" "stackTrace" "[Ljava/lang/StackTraceElement;" .null := (c129.keep q36_0 nin0)
  have c131 : Fld Z h39 ob1 "java/lang/Throwable" "stackTrace" "[Ljava/lang/StackTraceElement;" .null := (Fld.ext E39 c130)
  have c132 : Fld Z T43.heap ob1 "java/lang/Throwable" "stackTrace" "[Ljava/lang/StackTraceElement;" .null := (c131.keep q43_0 (ninS (Nat.ne_of_lt (Nat.lt_of_lt_of_le c50.lt (Nat.le_of_eq g39.symm))) nin0))
  have c133 : Fld Z h46 ob1 "java/lang/Throwable" "stackTrace" "[Ljava/lang/StackTraceElement;" .null := (Fld.ext E46 c132)
  have c134 : Fld Z T63.heap ob1 "java/lang/Throwable" "stackTrace" "[Ljava/lang/StackTraceElement;" .null := (c133.keep q63_0 (ninS (Nat.ne_of_lt (Nat.lt_of_lt_of_le c51.lt q43_5.1)) (ninS (Nat.ne_of_lt (Nat.lt_of_lt_of_le c50.lt (Nat.le_of_eq g39.symm))) nin0)))
  have c135 : Fld Z T72.heap ob1 "java/lang/Throwable" "stackTrace" "[Ljava/lang/StackTraceElement;" .null := (c134.keep q72_0 (ninS (Nat.ne_of_lt (Nat.lt_of_lt_of_le c50.lt (Nat.le_of_eq g39.symm))) (ninS (Nat.ne_of_lt (Nat.lt_of_lt_of_le c51.lt q43_5.1)) nin0)))
  have c136 : Fld Z T81.heap ob1 "java/lang/Throwable" "stackTrace" "[Ljava/lang/StackTraceElement;" .null := (c135.keep q81_0 nin0)
  have c137 : Sta Z h1 "java/lang/Throwable" "SUPPRESSED_SENTINEL" "Ljava/util/List;" (.ref w_SUPPRESSED_SENTINEL) := (Sta.ext E1 S_SUPPRESSED_SENTINEL)
  have c138 : Sta Z h9 "java/lang/Throwable" "SUPPRESSED_SENTINEL" "Ljava/util/List;" (.ref w_SUPPRESSED_SENTINEL) := (Sta.ext E9 c137)
  have c139 : Sta Z T13.heap "java/lang/Throwable" "SUPPRESSED_SENTINEL" "Ljava/util/List;" (.ref w_SUPPRESSED_SENTINEL) := (own_Sta_keep c138 q13_0 (own_pS (own_plainE A9) own_p0))
  have c140 : Sta Z h16 "java/lang/Throwable" "SUPPRESSED_SENTINEL" "Ljava/util/List;" (.ref w_SUPPRESSED_SENTINEL) := (Sta.ext E16 c139)
  have c141 : Sta Z T19.heap "java/lang/Throwable" "SUPPRESSED_SENTINEL" "Ljava/util/List;" (.ref w_SUPPRESSED_SENTINEL) := (own_Sta_keep c140 q19_0 (own_pS (own_plainE c27) (own_pS (own_plainE c26) own_p0)))
  have c142 : Sta Z T28.heap "java/lang/Throwable" "SUPPRESSED_SENTINEL" "Ljava/util/List;" (.ref w_SUPPRESSED_SENTINEL) := (own_Sta_keep c141 q28_0 (own_pS (own_plainE c35) (own_pS (own_plainE q19_2) own_p0)))
  have c143 : Sta Z T36.heap "java/lang/Throwable" "SUPPRESSED_SENTINEL" "Ljava/util/List;" (.ref w_SUPPRESSED_SENTINEL) := (own_Sta_keep c142 q36_0 own_p0)
  have c144 : Sta Z h39 "java/lang/Throwable" "SUPPRESSED_SENTINEL" "Ljava/util/List;" (.ref w_SUPPRESSED_SENTINEL) := (Sta.ext E39 c143)
  have c145 : Sta Z T43.heap "java/lang/Throwable" "SUPPRESSED_SENTINEL" "Ljava/util/List;" (.ref w_SUPPRESSED_SENTINEL) := (own_Sta_keep c144 q43_0 (own_pS (own_plainE A39) own_p0))
  have c146 : Sta Z h46 "java/lang/Throwable" "SUPPRESSED_SENTINEL" "Ljava/util/List;" (.ref w_SUPPRESSED_SENTINEL) := (Sta.ext E46 c145)
  have c147 : Sta Z T63.heap "java/lang/Throwable" "SUPPRESSED_SENTINEL" "Ljava/util/List;" (.ref w_SUPPRESSED_SENTINEL) := (own_Sta_keep c146 q63_0 (own_pS (own_plainE c71) (own_pS (own_plainE c70) own_p0)))
  have c148 : Sta Z T72.heap "java/lang/Throwable" "SUPPRESSED_SENTINEL" "Ljava/util/List;" (.ref w_SUPPRESSED_SENTINEL) := (own_Sta_keep c147 q72_0 (own_pS (own_plainE q63_2) (own_pS (own_plainE c80) own_p0)))
  have c149 : Sta Z T81.heap "java/lang/Throwable" "SUPPRESSED_SENTINEL" "Ljava/util/List;" (.ref w_SUPPRESSED_SENTINEL) := (own_Sta_keep c148 q81_0 own_p0)
  have c150 : Fld Z h9 ob1 "java/lang/Throwable" "suppressedExceptions" "Ljava/util/List;" .null := (Fld.ext E9 f4)
  have c151 : Fld Z T13.heap ob1 "java/lang/Throwable" "suppressedExceptions" "Ljava/util/List;" .null := (c150.keep q13_0 (ninS (Nat.ne_of_lt (Nat.lt_of_lt_of_le A1.lt (Nat.le_of_eq g9.symm))) nin0))
  have c152 : Fld Z h16 ob1 "java/lang/Throwable" "suppressedExceptions" "Ljava/util/List;" .null := (Fld.ext E16 c151)
  have c153 : Fld Z T19.heap ob1 "java/lang/Throwable" "suppressedExceptions" "Ljava/util/List;" .null := (c152.keep q19_0 (ninS (Nat.ne_of_lt (Nat.lt_of_lt_of_le c17.lt q13_5.1)) (ninS (Nat.ne_of_lt (Nat.lt_of_lt_of_le A1.lt (Nat.le_of_eq g9.symm))) nin0)))
  have c154 : Fld Z T28.heap ob1 "java/lang/Throwable" "suppressedExceptions" "Ljava/util/List;" .null := (c153.keep q28_0 (ninS (Nat.ne_of_lt (Nat.lt_of_lt_of_le c17.lt q13_5.1)) (ninS (Nat.ne_of_lt (Nat.lt_of_lt_of_le A1.lt (Nat.le_of_eq g9.symm))) nin0)))
  have c155 : Fld Z T36.heap ob1 "java/lang/Throwable" "suppressedExceptions" "Ljava/util/List;" .null := (c154.keep q36_0 nin0)
  have c156 : Fld Z h39 ob1 "java/lang/Throwable" "suppressedExceptions" "Ljava/util/List;" .null := (Fld.ext E39 c155)
  have c157 : Fld Z T43.heap ob1 "java/lang/Throwable" "suppressedExceptions" "Ljava/util/List;" .null := (c156.keep q43_0 (ninS (Nat.ne_of_lt (Nat.lt_of_lt_of_le c50.lt (Nat.le_of_eq g39.symm))) nin0))
  have c158 : Fld Z h46 ob1 "java/lang/Throwable" "suppressedExceptions" "Ljava/util/List;" .null := (Fld.ext E46 c157)
  have c159 : Fld Z T63.heap ob1 "java/lang/Throwable" "suppressedExceptions" "Ljava/util/List;" .null := (c158.keep q63_0 (ninS (Nat.ne_of_lt (Nat.lt_of_lt_of_le c51.lt q43_5.1)) (ninS (Nat.ne_of_lt (Nat.lt_of_lt_of_le c50.lt (Nat.le_of_eq g39.symm))) nin0)))
  have c160 : Fld Z T72.heap ob1 "java/lang/Throwable" "suppressedExceptions" "Ljava/util/List;" .null := (c159.keep q72_0 (ninS (Nat.ne_of_lt (Nat.lt_of_lt_of_le c50.lt (Nat.le_of_eq g39.symm))) (ninS (Nat.ne_of_lt (Nat.lt_of_lt_of_le c51.lt q43_5.1)) nin0)))
  have c161 : Fld Z T81.heap ob1 "java/lang/Throwable" "suppressedExceptions" "Ljava/util/List;" .null := (c160.keep q81_0 nin0)
  have c162 : Unt h9 ob1 := (Unt.ext E9 Un1)
  have c163 : Unt T13.heap ob1 := (Unt.keep q13_0 (ninS (Nat.ne_of_lt (Nat.lt_of_lt_of_le A1.lt (Nat.le_of_eq g9.symm))) nin0) c162)
  have c164 : Unt h16 ob1 := (Unt.ext E16 c163)
  have c165 : Unt T19.heap ob1 := (Unt.keep q19_0 (ninS (Nat.ne_of_lt (Nat.lt_of_lt_of_le c17.lt q13_5.1)) (ninS (Nat.ne_of_lt (Nat.lt_of_lt_of_le A1.lt (Nat.le_of_eq g9.symm))) nin0)) c164)
  have c166 : Unt T28.heap ob1 := (Unt.keep q28_0 (ninS (Nat.ne_of_lt (Nat.lt_of_lt_of_le c17.lt q13_5.1)) (ninS (Nat.ne_of_lt (Nat.lt_of_lt_of_le A1.lt (Nat.le_of_eq g9.symm))) nin0)) c165)
  have c167 : Unt T36.heap ob1 := (Unt.keep q36_0 nin0 c166)
  have c168 : Unt h39 ob1 := (Unt.ext E39 c167)
  have c169 : Unt T43.heap ob1 := (Unt.keep q43_0 (ninS (Nat.ne_of_lt (Nat.lt_of_lt_of_le c50.lt (Nat.le_of_eq g39.symm))) nin0) c168)
  have c170 : Unt h46 ob1 := (Unt.ext E46 c169)
  have c171 : Unt T63.heap ob1 := (Unt.keep q63_0 (ninS (Nat.ne_of_lt (Nat.lt_of_lt_of_le c51.lt q43_5.1)) (ninS (Nat.ne_of_lt (Nat.lt_of_lt_of_le c50.lt (Nat.le_of_eq g39.symm))) nin0)) c170)
  have c172 : Unt T72.heap ob1 := (Unt.keep q72_0 (ninS (Nat.ne_of_lt (Nat.lt_of_lt_of_le c50.lt (Nat.le_of_eq g39.symm))) (ninS (Nat.ne_of_lt (Nat.lt_of_lt_of_le c51.lt q43_5.1)) nin0)) c171)
  have c173 : Unt T81.heap ob1 := (Unt.keep q81_0 nin0 c172)
  obtain ⟨_, _, ⟨T83, L83, k83, n83⟩, -, X83, ⟨Lc83, hQ83, l83, y83, z83⟩, st83⟩ := X81.specialBack hx (y := own_y_EngineException__init__29) rfl hown46 (mvT hZ46 (own_h hw 150 rfl)) (mvT hZ46 (own_h hw 151 rfl)) (mvT hZ46 (own_h hw 152 rfl)) (by decide) (backOfKL (W := 1) (rm28 l Z a0 hw [] ob1 r_36 r_81 .null w_UNASSIGNED_STACK .null w_SUPPRESSED_SENTINEL .null T81.heap n0 Z81 c95 c99 c111 g_ob1 c124 c136 c149 c161 hlt_1_1_83 c173) hZ46 (own_h hw 152 rfl) (own_h hw 2 rfl) (by decide) (by decide) (own_mk hS46.1 hTK) (own_fk hS46.1 hBelow)) (g := (mkF m 43 #[.val (.int p0)] [.null, (.ref r_81), (.ref r_36), (.ref ob1), (.ref ob1)])) rfl (by rw [hml]; rfl) (Steps.refl _) (a := ob1) (argsL := [(.ref r_36), (.ref r_81), .null]) (rest := [(.ref ob1)]) (lenOf pd_23 rfl) rfl (Nat.le_of_eq rfl) (hb hby d1_43) (fun _ _ => ⟨rfl, rfl, (by decide : 14 + 1 ≤ _), (by decide : 233 + 2752 ≤ _)⟩)
  dsimp only [Pt.U, Pt.locs, Pt.cells, Pt.slots] at X83 l83 y83 z83 st83 hQ83
  subst l83 y83 z83
  obtain ⟨rfl, Nq83, q83_0, q83_1, q83_2, q83_3, q83_4⟩ := hQ83
  have N83 := Fr.app N81 Nq83
  refine Go.tr st83 ?_
  have J83 : Keep h46 T83.heap [ob39, r0_43, ob1] := (J81).trans q83_0 (allS (Or.inl (List.mem_of_getElem? (i := 2) rfl)) all0)
  have K83 : Keep h0 T83.heap [] := (K81).trans q83_0 (allS (Or.inr sz_ob1) all0)
  have Z83 : n0 ≤ T83.heap.size := Nat.le_trans Z81 q83_0.1
  show Go p e below _ (T83.setTop (mkF m 46 #[.val (.int p0)] [(.ref ob1)]))
  have c175 : Exa Z h46 r_36 "java/lang/String" := (Exa.ext E46 c60)
  have c176 : Exa Z T63.heap r_36 "java/lang/String" := (c175.keep q63_0)
  have c177 : Exa Z T72.heap r_36 "java/lang/String" := (c176.keep q72_0)
  have c178 : Exa Z T81.heap r_36 "java/lang/String" := (c177.keep q81_0)
  have c179 : Exa Z T83.heap r_36 "java/lang/String" := (c178.keep q83_0)
  have c180 : Fld Z h39 r_36 "java/lang/String" "coder" "B" (.int (0 : Int32)) := (Fld.ext E39 q36_3)
  have c181 : Fld Z T43.heap r_36 "java/lang/String" "coder" "B" (.int (0 : Int32)) := (c180.keep q43_0 (ninS (Nat.ne_of_lt (Nat.lt_of_lt_of_le q36_2.lt (Nat.le_of_eq g39.symm))) nin0))
  have c182 : Fld Z h46 r_36 "java/lang/String" "coder" "B" (.int (0 : Int32)) := (Fld.ext E46 c181)
  have c183 : Fld Z T63.heap r_36 "java/lang/String" "coder" "B" (.int (0 : Int32)) := (c182.keep q63_0 (ninS (Nat.ne_of_lt (Nat.lt_of_lt_of_le c59.lt q43_5.1)) (ninS (Nat.ne_of_lt (Nat.lt_of_lt_of_le q36_2.lt (Nat.le_of_eq g39.symm))) nin0)))
  have c184 : Fld Z T72.heap r_36 "java/lang/String" "coder" "B" (.int (0 : Int32)) := (c183.keep q72_0 (ninS (Nat.ne_of_lt (Nat.lt_of_lt_of_le q36_2.lt (Nat.le_of_eq g39.symm))) (ninS (Nat.ne_of_lt (Nat.lt_of_lt_of_le c59.lt q43_5.1)) nin0)))
  have c185 : Fld Z T81.heap r_36 "java/lang/String" "coder" "B" (.int (0 : Int32)) := (c184.keep q81_0 nin0)
  have c186 : Fld Z T83.heap r_36 "java/lang/String" "coder" "B" (.int (0 : Int32)) := (c185.keep q83_0 (ninS (Ne.symm (Nat.ne_of_lt (Nat.lt_of_lt_of_le c49.lt q36_1.1))) nin0))
  have c187 : Fld Z h39 r_36 "java/lang/String" "value" "[B" (.ref r1_36) := (Fld.ext E39 q36_4)
  have c188 : Fld Z T43.heap r_36 "java/lang/String" "value" "[B" (.ref r1_36) := (c187.keep q43_0 (ninS (Nat.ne_of_lt (Nat.lt_of_lt_of_le q36_2.lt (Nat.le_of_eq g39.symm))) nin0))
  have c189 : Fld Z h46 r_36 "java/lang/String" "value" "[B" (.ref r1_36) := (Fld.ext E46 c188)
  have c190 : Fld Z T63.heap r_36 "java/lang/String" "value" "[B" (.ref r1_36) := (c189.keep q63_0 (ninS (Nat.ne_of_lt (Nat.lt_of_lt_of_le c59.lt q43_5.1)) (ninS (Nat.ne_of_lt (Nat.lt_of_lt_of_le q36_2.lt (Nat.le_of_eq g39.symm))) nin0)))
  have c191 : Fld Z T72.heap r_36 "java/lang/String" "value" "[B" (.ref r1_36) := (c190.keep q72_0 (ninS (Nat.ne_of_lt (Nat.lt_of_lt_of_le q36_2.lt (Nat.le_of_eq g39.symm))) (ninS (Nat.ne_of_lt (Nat.lt_of_lt_of_le c59.lt q43_5.1)) nin0)))
  have c192 : Fld Z T81.heap r_36 "java/lang/String" "value" "[B" (.ref r1_36) := (c191.keep q81_0 nin0)
  have c193 : Fld Z T83.heap r_36 "java/lang/String" "value" "[B" (.ref r1_36) := (c192.keep q83_0 (ninS (Ne.symm (Nat.ne_of_lt (Nat.lt_of_lt_of_le c49.lt q36_1.1))) nin0))
  have c194 : Arv Z h46 r1_36 rk2_36 .byte (own_sz 5 p0) rx0_28 (.int (0 : Int32)) := (c62.ext E46)
  have c195 : Arv Z T63.heap r1_36 rk2_36 .byte (own_sz 5 p0) rx0_28 (.int (0 : Int32)) := (c194.keep q63_0 (ninS (Nat.ne_of_lt (Nat.lt_of_lt_of_le c61.lt q43_5.1)) (ninS (Nat.ne_of_lt (Nat.lt_of_lt_of_le q36_6.lt (Nat.le_of_eq g39.symm))) nin0)))
  have c196 : Arv Z T72.heap r1_36 rk2_36 .byte (own_sz 5 p0) rx0_28 (.int (0 : Int32)) := (c195.keep q72_0 (ninS (Nat.ne_of_lt (Nat.lt_of_lt_of_le q36_6.lt (Nat.le_of_eq g39.symm))) (ninS (Nat.ne_of_lt (Nat.lt_of_lt_of_le c61.lt q43_5.1)) nin0)))
  have c197 : Arv Z T81.heap r1_36 rk2_36 .byte (own_sz 5 p0) rx0_28 (.int (0 : Int32)) := (c196.keep q81_0 nin0)
  have c198 : Arv Z T83.heap r1_36 rk2_36 .byte (own_sz 5 p0) rx0_28 (.int (0 : Int32)) := (c197.keep q83_0 (ninS (Ne.symm (Nat.ne_of_lt (Nat.lt_of_lt_of_le c49.lt q36_5.1))) nin0))
  obtain ⟨fs, hr, hrun, hended, hRW⟩ := X83.leaveW (s := s) hS46 (by exact Nat.le_trans hk46 (J83).1) (v := some (.ref ob1)) (fun h => by rw [Bd.returns] at h; cases h)
  have hC : CHr Z own_EL s.vm s.heap T83.vm T83.heap := by rw [hh]; exact ((CA16.trans CB16).trans ((CA46.trans CB46).trans ((CHr.keep (J83) (sfS sf46_ob39 (sfS sf46_r0_43 (sfS sf46_ob1 sf0))) CB46.1).trans (CHv.at (s := s) X83 hZ46 (own_ew hw) (CHr.keep (J83) (sfS sf46_ob39 (sfS sf46_r0_43 (sfS sf46_ob1 sf0))) CB46.1).1))))
  refine Go.mk _ _ ?_ hrun hended ⟨_, _, rfl, ?_, hC, ⟨hRW.1, hRW.2.1, hRW.2.2.1, hRW.2.2.2.mono (by decide) (by decide)⟩⟩
  · exact retOut X83 hx Bd.returns rfl (Or.inr (Or.inr (Or.inr (Or.inr ⟨rfl, rfl, rfl⟩)))) (hb hby d1_46) hr
  · show Q1 Z p0 w_COMPACT_STRINGS tst td1 td2 tD1 tD2 w_UNASSIGNED_STACK w_SUPPRESSED_SENTINEL h0 n0 _ T83.heap _
    exact ⟨ob1, r_36, r1_36, rk2_36, rx0_28, rfl, N83, K83, ⟨sz_ob1, g_ob1⟩, q83_1, q83_4, c179, c186, c193, c198, q28_6⟩
/-- 10 to the k-th -/
def own_pow (k : Int32) : Int64 := Int64.ofNat (10 ^ k.toNatClampNeg)
theorem own_powat {k : Int32} (h1 : ¬ (k < (0 : Int32))) (h2 : k < (10 : Int32)) : [(.long (1 : Int64)), (.long (10 : Int64)), (.long (100 : Int64)), (.long (1000 : Int64)), (.long (10000 : Int64)), (.long (100000 : Int64)), (.long (1000000 : Int64)), (.long (10000000 : Int64)), (.long (100000000 : Int64)), (.long (1000000000 : Int64))].getD (k).toNatClampNeg (.long (0 : Int64)) = Value.long (own_pow k) := by
  have hn : k.toNatClampNeg < 10 := by
    rw [Int32.lt_iff_toInt_lt] at h1 h2
    have e1 : (10 : Int32).toInt = 10 := rfl
    have e0 : (0 : Int32).toInt = 0 := rfl
    simp only [Int32.toNatClampNeg]; omega
  unfold own_pow
  generalize k.toNatClampNeg = n at hn
  match n, hn with
  | 0, _ => rfl
  | 1, _ => rfl
  | 2, _ => rfl
  | 3, _ => rfl
  | 4, _ => rfl
  | 5, _ => rfl
  | 6, _ => rfl
  | 7, _ => rfl
  | 8, _ => rfl
  | 9, _ => rfl
/-- the char of a Latin-1 byte, as charAt makes it -/
def own_cc (e : Int32) : Int32 := nar .char (nar .char (e &&& (255 : Int32)).toUInt32.toUInt16.toUInt32.toInt32)
/-- the char of the digit of v at 10 to the k-th, as the law makes it -/
def own_ch (v : Int64) (k : Int32) : Int32 := nar .char ((48 : Int32) + ((v / own_pow k) - ((v / own_pow k) / (10 : Int64)) * (10 : Int64)).toInt32).toUInt32.toUInt16.toUInt32.toInt32
def own_dig (v : Int64) : Int32 := if (lcmpW v (1000000000 : Int64)) < (0 : Int32) then if (lcmpW v (100000000 : Int64)) < (0 : Int32) then if (lcmpW v (10000000 : Int64)) < (0 : Int32) then if (lcmpW v (1000000 : Int64)) < (0 : Int32) then if (lcmpW v (100000 : Int64)) < (0 : Int32) then if (lcmpW v (10000 : Int64)) < (0 : Int32) then if (lcmpW v (1000 : Int64)) < (0 : Int32) then if (lcmpW v (100 : Int64)) < (0 : Int32) then if (lcmpW v (10 : Int64)) < (0 : Int32) then (1 : Int32) else (2 : Int32) else (3 : Int32) else (4 : Int32) else (5 : Int32) else (6 : Int32) else (7 : Int32) else (8 : Int32) else (9 : Int32) else (10 : Int32)
theorem d33_0 : decode prog_9_method_7_code 0 = .ok (.aload_n 0, 1) := by decide +kernel
theorem d33_1 : decode prog_9_method_7_code 1 = .ok (.getfield 7, 3) := by decide +kernel
theorem d33_4 : decode prog_9_method_7_code 4 = .ok (.areturn, 1) := by decide +kernel
theorem ef_33 (m : MethodId) (x0 : Addr) : entryFrame m #[(.ref x0)] 1 = mkF m 0 #[.val (.ref x0)] [] := by first | (simp [entryFrame, mkF, argsToLocals, Value.category]; done) | rfl
def Q33 (Z : State) (o0 : Addr) (f_o0_reason : Addr) (h0 : Heap) (n0 : Nat) (v : Option Value) (h : Heap) (L : List Loc) : Prop := v = some (.ref f_o0_reason) ∧ Fr n0 L ∧ h = h0
set_option maxRecDepth 65536 in
set_option maxHeartbeats 40000000 in
theorem rm33 (l : Launch) (Z : State) (a0 : Array Value) (hw : ∀ d ∈ tables_1, d.before a0 Z = true) (ws : List Jvm.Cond) (o0 : Addr) (f_o0_reason : Addr) (h0 : Heap) (n0 : Nat) (Z0 : n0 ≤ h0.size) (F_o0_reason : Fld Z h0 o0 "com/example/metasearchd/metasearchd/engine/EngineException" "reason" "Ljava/lang/String;" (.ref f_o0_reason)) :
    MetFree l (⟨"com/example/metasearchd/metasearchd/engine/EngineException", "reason", "()Ljava/lang/String;"⟩ : MethodName) (head1 (Jvm.Cond.code (⟨"com/example/metasearchd/metasearchd/engine/EngineException", "reason", "()Ljava/lang/String;"⟩ : MethodName) prog_9_method_7_code 1 (some (.object "java/lang/String")) :: ws) ({ frames := 0, cells := 0, slots := 0, locals := 0 } : Room)) (fun a U => a = #[(.ref o0)] ∧ Z.Warmed39 U.vm ∧ U.heap = h0) (fun _ _ _ _ _ => True) (fun _ U o U' => ∃ v L, o = .returned v ∧ Q33 Z o0 f_o0_reason h0 n0 v U'.heap L ∧ FrameEnd U o U' L ({ frames := 0, cells := 0, slots := 0, locals := 0 } : Room).cells ({ frames := 0, cells := 0, slots := 0, locals := 0 } : Room).slots) := by
  refine MetFree.of_bodySF (plainFor_of_name pn_com_example_metasearchd_metasearchd_engine_EngineException) hisR ?_
  intro p e s m args below meth c s₁ Bd hml0 hP hK
  obtain ⟨rfl, hZ, hh⟩ := hP
  have hx := Bd.exec
  have hby := Bd.bytes
  have hml : c.maxLocals = 1 := hml0
  have hown : s.vm.findClass "com/example/metasearchd/metasearchd/engine/EngineException" = some m.cls := findClass_of_methodNamed Bd.named
  have hnm := (name_of_methodNamed Bd.named Bd.method).1
  have X0 : Stand p l e ({ frames := 0, cells := 0, slots := 0, locals := 0 } : Room) s m #[(.ref o0)] below meth c s₁ [] 0 0 := Stand.of_body Bd
  have e0 : s₁.heap = h0 := by rw [← hh, Bd.state]; rfl
  have N0 := Fr.nil n0
  show Go p e below (fun o U' => ∃ v L, o = .returned v ∧ Q33 Z o0 f_o0_reason h0 n0 v U'.heap L ∧ FrameEnd s o U' L ({ frames := 0, cells := 0, slots := 0, locals := 0 } : Room).cells ({ frames := 0, cells := 0, slots := 0, locals := 0 } : Room).slots) (s₁.setTop (entryFrame m #[(.ref o0)] 1))
  refine Go.of (fun _ k => castTop (ef_33 m o0) k) ?_
  show Go p e below _ (s₁.setTop (mkF m 0 #[.val (.ref o0)] []))
  refine Go.of (fun _ k => XS.aloadN X0.here hx rfl (hb hby d33_0) rfl rfl k) ?_
  obtain ⟨T1, X1, e1, st1⟩ := getF X0 hx hZ hown (host := "") (Or.inl (own_h hw 201 rfl)) Via.refl e0 F_o0_reason (g := (mkF m 1 #[.val (.ref o0)] [(.ref o0)])) rfl rfl (hb hby d33_1)
  refine Go.of st1 ?_
  show Go p e below _ (T1.setTop (mkF m 4 #[.val (.ref o0)] [(.ref f_o0_reason)]))
  obtain ⟨fs, hr, hrun, hended, hW, hsame⟩ := X1.leave (v := some (.ref f_o0_reason)) (fun h => by rw [Bd.returns] at h; cases h)
  refine Go.mk _ _ ?_ hrun hended ⟨_, _, rfl, ?_, ⟨_, rfl⟩, hW, hsame.mono (by decide) (by decide)⟩
  · exact retOut X1 hx Bd.returns rfl (Or.inr (Or.inr (Or.inr (Or.inr ⟨rfl, rfl, rfl⟩)))) (hb hby d33_4) hr
  · show Q33 Z o0 f_o0_reason h0 n0 _ T1.heap _
    rw [e1]
    exact ⟨rfl, N0, rfl⟩
theorem d34_0 : decode jdk_29_method_61_code 0 = .ok (.lload_n 0, 1) := by decide +kernel
theorem d34_1 : decode jdk_29_method_61_code 1 = .ok (.lconst 0, 1) := by decide +kernel
theorem d34_2 : decode jdk_29_method_61_code 2 = .ok (.lcmp, 1) := by decide +kernel
theorem d34_3 : decode jdk_29_method_61_code 3 = .ok (.ifCond .ge 8, 3) := by decide +kernel
theorem d34_11 : decode jdk_29_method_61_code 11 = .ok (.lload_n 0, 1) := by decide +kernel
theorem d34_12 : decode jdk_29_method_61_code 12 = .ok (.lreturn, 1) := by decide +kernel
theorem ef_34 (m : MethodId) (x0 : Int64) : entryFrame m #[(.long x0)] 2 = mkF m 0 #[.val (.long x0), .second] [] := by first | (simp [entryFrame, mkF, argsToLocals, Value.category]; done) | rfl
def Q34_p (Z : State) (q0 : Int64) (h0 : Heap) (n0 : Nat) (v : Option Value) (h : Heap) (L : List Loc) : Prop := v = some (.long q0) ∧ Fr n0 L ∧ h = h0
set_option maxRecDepth 65536 in
set_option maxHeartbeats 40000000 in
theorem rm34_p (l : Launch) (Z : State) (a0 : Array Value) (hw : ∀ d ∈ tables_1, d.before a0 Z = true) (ws : List Jvm.Cond) (q0 : Int64) (h0 : Heap) (n0 : Nat) (Z0 : n0 ≤ h0.size) (hc3 : ¬ ((lcmpW q0 (0 : Int64)) < (0 : Int32))) :
    MetFree l (⟨"java/lang/Math", "abs", "(J)J"⟩ : MethodName) (head1 (Jvm.Cond.code (⟨"java/lang/Math", "abs", "(J)J"⟩ : MethodName) jdk_29_method_61_code 2 (some .long) :: ws) ({ frames := 0, cells := 0, slots := 0, locals := 0 } : Room)) (fun a U => a = #[(.long q0)] ∧ Z.Warmed39 U.vm ∧ U.heap = h0) (fun _ _ _ _ _ => True) (fun _ U o U' => ∃ v L, o = .returned v ∧ Q34_p Z q0 h0 n0 v U'.heap L ∧ FrameEnd U o U' L ({ frames := 0, cells := 0, slots := 0, locals := 0 } : Room).cells ({ frames := 0, cells := 0, slots := 0, locals := 0 } : Room).slots) := by
  refine MetFree.of_bodySF (Jvm.Free.JP.mathPlain rfl (by decide +kernel)) hisR ?_
  intro p e s m args below meth c s₁ Bd hml0 hP hK
  obtain ⟨rfl, hZ, hh⟩ := hP
  have hx := Bd.exec
  have hby := Bd.bytes
  have hml : c.maxLocals = 2 := hml0
  have hown : s.vm.findClass "java/lang/Math" = some m.cls := findClass_of_methodNamed Bd.named
  have hnm := (name_of_methodNamed Bd.named Bd.method).1
  have X0 : Stand p l e ({ frames := 0, cells := 0, slots := 0, locals := 0 } : Room) s m #[(.long q0)] below meth c s₁ [] 0 0 := Stand.of_body Bd
  have e0 : s₁.heap = h0 := by rw [← hh, Bd.state]; rfl
  have N0 := Fr.nil n0
  show Go p e below (fun o U' => ∃ v L, o = .returned v ∧ Q34_p Z q0 h0 n0 v U'.heap L ∧ FrameEnd s o U' L ({ frames := 0, cells := 0, slots := 0, locals := 0 } : Room).cells ({ frames := 0, cells := 0, slots := 0, locals := 0 } : Room).slots) (s₁.setTop (entryFrame m #[(.long q0)] 2))
  refine Go.of (fun _ k => castTop (ef_34 m q0) k) ?_
  show Go p e below _ (s₁.setTop (mkF m 0 #[.val (.long q0), .second] []))
  refine Go.of (fun _ k => XS.lloadN X0.here hx rfl (hb hby d34_0) rfl  k) ?_
  refine Go.of (fun _ k => XS.lconst X0.here hx rfl (hb hby d34_1) k) ?_
  refine Go.of (fun _ k => XS.lcmp X0.here hx rfl (hb hby d34_2) rfl k) ?_
  show Go p e below _ (s₁.setTop (mkF m 3 #[.val (.long q0), .second] [(.int (lcmpW q0 (0 : Int64)))]))
  refine Go.of (fun _ k => XS.ifYes X0.here hx rfl (pc0 := 3) (pc' := 11) rfl (hb hby d34_3) rfl ((if0 _ _).trans (flt hc3).2.1) (by decide) (by decide) k) ?_
  show Go p e below _ (s₁.setTop (mkF m 11 #[.val (.long q0), .second] []))
  refine Go.of (fun _ k => XS.lloadN X0.here hx rfl (hb hby d34_11) rfl  k) ?_
  obtain ⟨fs, hr, hrun, hended, hW, hsame⟩ := X0.leave (v := some (.long q0)) (fun h => by rw [Bd.returns] at h; cases h)
  refine Go.mk _ _ ?_ hrun hended ⟨_, _, rfl, ?_, ⟨_, rfl⟩, hW, hsame.mono (by decide) (by decide)⟩
  · exact retOut X0 hx Bd.returns rfl (Or.inr (Or.inl ⟨rfl, rfl, _, rfl⟩)) (hb hby d34_12) hr
  · show Q34_p Z q0 h0 n0 _ s₁.heap _
    rw [e0]
    exact ⟨rfl, N0, rfl⟩
theorem d34_6 : decode jdk_29_method_61_code 6 = .ok (.lload_n 0, 1) := by decide +kernel
theorem d34_7 : decode jdk_29_method_61_code 7 = .ok (.lneg, 1) := by decide +kernel
theorem d34_8 : decode jdk_29_method_61_code 8 = .ok (.goto 4, 3) := by decide +kernel
def Q34_m (Z : State) (q0 : Int64) (h0 : Heap) (n0 : Nat) (v : Option Value) (h : Heap) (L : List Loc) : Prop := v = some (.long (-q0)) ∧ Fr n0 L ∧ h = h0
set_option maxRecDepth 65536 in
set_option maxHeartbeats 40000000 in
theorem rm34_m (l : Launch) (Z : State) (a0 : Array Value) (hw : ∀ d ∈ tables_1, d.before a0 Z = true) (ws : List Jvm.Cond) (q0 : Int64) (h0 : Heap) (n0 : Nat) (Z0 : n0 ≤ h0.size) (hc3 : (lcmpW q0 (0 : Int64)) < (0 : Int32)) :
    MetFree l (⟨"java/lang/Math", "abs", "(J)J"⟩ : MethodName) (head1 (Jvm.Cond.code (⟨"java/lang/Math", "abs", "(J)J"⟩ : MethodName) jdk_29_method_61_code 2 (some .long) :: ws) ({ frames := 0, cells := 0, slots := 0, locals := 0 } : Room)) (fun a U => a = #[(.long q0)] ∧ Z.Warmed39 U.vm ∧ U.heap = h0) (fun _ _ _ _ _ => True) (fun _ U o U' => ∃ v L, o = .returned v ∧ Q34_m Z q0 h0 n0 v U'.heap L ∧ FrameEnd U o U' L ({ frames := 0, cells := 0, slots := 0, locals := 0 } : Room).cells ({ frames := 0, cells := 0, slots := 0, locals := 0 } : Room).slots) := by
  refine MetFree.of_bodySF (Jvm.Free.JP.mathPlain rfl (by decide +kernel)) hisR ?_
  intro p e s m args below meth c s₁ Bd hml0 hP hK
  obtain ⟨rfl, hZ, hh⟩ := hP
  have hx := Bd.exec
  have hby := Bd.bytes
  have hml : c.maxLocals = 2 := hml0
  have hown : s.vm.findClass "java/lang/Math" = some m.cls := findClass_of_methodNamed Bd.named
  have hnm := (name_of_methodNamed Bd.named Bd.method).1
  have X0 : Stand p l e ({ frames := 0, cells := 0, slots := 0, locals := 0 } : Room) s m #[(.long q0)] below meth c s₁ [] 0 0 := Stand.of_body Bd
  have e0 : s₁.heap = h0 := by rw [← hh, Bd.state]; rfl
  have N0 := Fr.nil n0
  show Go p e below (fun o U' => ∃ v L, o = .returned v ∧ Q34_m Z q0 h0 n0 v U'.heap L ∧ FrameEnd s o U' L ({ frames := 0, cells := 0, slots := 0, locals := 0 } : Room).cells ({ frames := 0, cells := 0, slots := 0, locals := 0 } : Room).slots) (s₁.setTop (entryFrame m #[(.long q0)] 2))
  refine Go.of (fun _ k => castTop (ef_34 m q0) k) ?_
  show Go p e below _ (s₁.setTop (mkF m 0 #[.val (.long q0), .second] []))
  refine Go.of (fun _ k => XS.lloadN X0.here hx rfl (hb hby d34_0) rfl  k) ?_
  refine Go.of (fun _ k => XS.lconst X0.here hx rfl (hb hby d34_1) k) ?_
  refine Go.of (fun _ k => XS.lcmp X0.here hx rfl (hb hby d34_2) rfl k) ?_
  show Go p e below _ (s₁.setTop (mkF m 3 #[.val (.long q0), .second] [(.int (lcmpW q0 (0 : Int64)))]))
  refine Go.of (fun _ k => XS.ifNo X0.here hx rfl (hb hby d34_3) rfl ((if0 _ _).trans (tlt hc3).2.1) k) ?_
  show Go p e below _ (s₁.setTop (mkF m 6 #[.val (.long q0), .second] []))
  refine Go.of (fun _ k => XS.lloadN X0.here hx rfl (hb hby d34_6) rfl  k) ?_
  refine Go.of (fun _ k => XS.lneg X0.here hx rfl (hb hby d34_7) rfl k) ?_
  show Go p e below _ (s₁.setTop (mkF m 8 #[.val (.long q0), .second] [(.long (-q0))]))
  refine Go.of (fun _ k => XS.goto X0.here hx rfl (pc0 := 8) (pc' := 12) rfl (hb hby d34_8) (by decide) (by decide) k) ?_
  show Go p e below _ (s₁.setTop (mkF m 12 #[.val (.long q0), .second] [(.long (-q0))]))
  obtain ⟨fs, hr, hrun, hended, hW, hsame⟩ := X0.leave (v := some (.long (-q0))) (fun h => by rw [Bd.returns] at h; cases h)
  refine Go.mk _ _ ?_ hrun hended ⟨_, _, rfl, ?_, ⟨_, rfl⟩, hW, hsame.mono (by decide) (by decide)⟩
  · exact retOut X0 hx Bd.returns rfl (Or.inr (Or.inl ⟨rfl, rfl, _, rfl⟩)) (hb hby d34_12) hr
  · show Q34_m Z q0 h0 n0 _ s₁.heap _
    rw [e0]
    exact ⟨rfl, N0, rfl⟩
theorem d35_0 : decode method_3_code 0 = .ok (.lload_n 0, 1) := by decide +kernel
theorem d35_1 : decode method_3_code 1 = .ok (.ldc2_w 39, 3) := by decide +kernel
theorem d35_4 : decode method_3_code 4 = .ok (.lcmp, 1) := by decide +kernel
theorem d35_5 : decode method_3_code 5 = .ok (.ifCond .lt 6, 3) := by decide +kernel
theorem d35_11 : decode method_3_code 11 = .ok (.lload_n 0, 1) := by decide +kernel
theorem d35_12 : decode method_3_code 12 = .ok (.ldc2_w 41, 3) := by decide +kernel
theorem d35_15 : decode method_3_code 15 = .ok (.lcmp, 1) := by decide +kernel
theorem d35_16 : decode method_3_code 16 = .ok (.ifCond .lt 6, 3) := by decide +kernel
theorem d35_22 : decode method_3_code 22 = .ok (.lload_n 0, 1) := by decide +kernel
theorem d35_23 : decode method_3_code 23 = .ok (.ldc2_w 43, 3) := by decide +kernel
theorem d35_26 : decode method_3_code 26 = .ok (.lcmp, 1) := by decide +kernel
theorem d35_27 : decode method_3_code 27 = .ok (.ifCond .lt 6, 3) := by decide +kernel
theorem d35_33 : decode method_3_code 33 = .ok (.lload_n 0, 1) := by decide +kernel
theorem d35_34 : decode method_3_code 34 = .ok (.ldc2_w 45, 3) := by decide +kernel
theorem d35_37 : decode method_3_code 37 = .ok (.lcmp, 1) := by decide +kernel
theorem d35_38 : decode method_3_code 38 = .ok (.ifCond .lt 6, 3) := by decide +kernel
theorem d35_44 : decode method_3_code 44 = .ok (.lload_n 0, 1) := by decide +kernel
theorem d35_45 : decode method_3_code 45 = .ok (.ldc2_w 47, 3) := by decide +kernel
theorem d35_48 : decode method_3_code 48 = .ok (.lcmp, 1) := by decide +kernel
theorem d35_49 : decode method_3_code 49 = .ok (.ifCond .lt 6, 3) := by decide +kernel
theorem d35_55 : decode method_3_code 55 = .ok (.lload_n 0, 1) := by decide +kernel
theorem d35_56 : decode method_3_code 56 = .ok (.ldc2_w 49, 3) := by decide +kernel
theorem d35_59 : decode method_3_code 59 = .ok (.lcmp, 1) := by decide +kernel
theorem d35_60 : decode method_3_code 60 = .ok (.ifCond .lt 5, 3) := by decide +kernel
theorem d35_65 : decode method_3_code 65 = .ok (.lload_n 0, 1) := by decide +kernel
theorem d35_66 : decode method_3_code 66 = .ok (.ldc2_w 51, 3) := by decide +kernel
theorem d35_69 : decode method_3_code 69 = .ok (.lcmp, 1) := by decide +kernel
theorem d35_70 : decode method_3_code 70 = .ok (.ifCond .lt 5, 3) := by decide +kernel
theorem d35_75 : decode method_3_code 75 = .ok (.lload_n 0, 1) := by decide +kernel
theorem d35_76 : decode method_3_code 76 = .ok (.ldc2_w 53, 3) := by decide +kernel
theorem d35_79 : decode method_3_code 79 = .ok (.lcmp, 1) := by decide +kernel
theorem d35_80 : decode method_3_code 80 = .ok (.ifCond .lt 5, 3) := by decide +kernel
theorem d35_85 : decode method_3_code 85 = .ok (.lload_n 0, 1) := by decide +kernel
theorem d35_86 : decode method_3_code 86 = .ok (.ldc2_w 55, 3) := by decide +kernel
theorem d35_89 : decode method_3_code 89 = .ok (.lcmp, 1) := by decide +kernel
theorem d35_90 : decode method_3_code 90 = .ok (.ifCond .lt 5, 3) := by decide +kernel
theorem d35_95 : decode method_3_code 95 = .ok (.iconst 1, 1) := by decide +kernel
theorem d35_96 : decode method_3_code 96 = .ok (.ireturn, 1) := by decide +kernel
theorem d35_93 : decode method_3_code 93 = .ok (.iconst 2, 1) := by decide +kernel
theorem d35_94 : decode method_3_code 94 = .ok (.ireturn, 1) := by decide +kernel
theorem d35_83 : decode method_3_code 83 = .ok (.iconst 3, 1) := by decide +kernel
theorem d35_84 : decode method_3_code 84 = .ok (.ireturn, 1) := by decide +kernel
theorem d35_73 : decode method_3_code 73 = .ok (.iconst 4, 1) := by decide +kernel
theorem d35_74 : decode method_3_code 74 = .ok (.ireturn, 1) := by decide +kernel
theorem d35_63 : decode method_3_code 63 = .ok (.iconst 5, 1) := by decide +kernel
theorem d35_64 : decode method_3_code 64 = .ok (.ireturn, 1) := by decide +kernel
theorem d35_52 : decode method_3_code 52 = .ok (.bipush 6, 2) := by decide +kernel
theorem d35_54 : decode method_3_code 54 = .ok (.ireturn, 1) := by decide +kernel
theorem d35_41 : decode method_3_code 41 = .ok (.bipush 7, 2) := by decide +kernel
theorem d35_43 : decode method_3_code 43 = .ok (.ireturn, 1) := by decide +kernel
theorem d35_30 : decode method_3_code 30 = .ok (.bipush 8, 2) := by decide +kernel
theorem d35_32 : decode method_3_code 32 = .ok (.ireturn, 1) := by decide +kernel
theorem d35_19 : decode method_3_code 19 = .ok (.bipush 9, 2) := by decide +kernel
theorem d35_21 : decode method_3_code 21 = .ok (.ireturn, 1) := by decide +kernel
theorem d35_8 : decode method_3_code 8 = .ok (.bipush 10, 2) := by decide +kernel
theorem d35_10 : decode method_3_code 10 = .ok (.ireturn, 1) := by decide +kernel
theorem pn_com_example_metasearchd_metasearchd_engine_EngineExceptionHttpStatusPinLaw : plainName "com/example/metasearchd/metasearchd/engine/EngineExceptionHttpStatusPinLaw" = true := by first | (simp [plainName, overriddenIn]; done) | decide +kernel
theorem ef_35 (m : MethodId) (x0 : Int64) : entryFrame m #[(.long x0)] 2 = mkF m 0 #[.val (.long x0), .second] [] := by first | (simp [entryFrame, mkF, argsToLocals, Value.category]; done) | rfl
def Q35 (Z : State) (q0 : Int64) (h0 : Heap) (n0 : Nat) (v : Option Value) (h : Heap) (L : List Loc) : Prop := v = some (.int (own_dig q0)) ∧ Fr n0 L ∧ h = h0
set_option maxRecDepth 65536 in
set_option maxHeartbeats 40000000 in
theorem rm35 (l : Launch) (Z : State) (a0 : Array Value) (hw : ∀ d ∈ tables_1, d.before a0 Z = true) (ws : List Jvm.Cond) (q0 : Int64) (h0 : Heap) (n0 : Nat) (Z0 : n0 ≤ h0.size) :
    MetFree l (⟨"com/example/metasearchd/metasearchd/engine/EngineExceptionHttpStatusPinLaw", "digits", "(J)I"⟩ : MethodName) (head1 (Jvm.Cond.code (⟨"com/example/metasearchd/metasearchd/engine/EngineExceptionHttpStatusPinLaw", "digits", "(J)I"⟩ : MethodName) method_3_code 2 (some .int) :: ws) ({ frames := 0, cells := 0, slots := 0, locals := 0 } : Room)) (fun a U => a = #[(.long q0)] ∧ Z.Warmed39 U.vm ∧ U.heap = h0) (fun _ _ _ _ _ => True) (fun _ U o U' => ∃ v L, o = .returned v ∧ Q35 Z q0 h0 n0 v U'.heap L ∧ FrameEnd U o U' L ({ frames := 0, cells := 0, slots := 0, locals := 0 } : Room).cells ({ frames := 0, cells := 0, slots := 0, locals := 0 } : Room).slots) := by
  refine MetFree.of_bodySF (plainFor_of_name pn_com_example_metasearchd_metasearchd_engine_EngineExceptionHttpStatusPinLaw) hisR ?_
  intro p e s m args below meth c s₁ Bd hml0 hP hK
  obtain ⟨rfl, hZ, hh⟩ := hP
  have hx := Bd.exec
  have hby := Bd.bytes
  have hml : c.maxLocals = 2 := hml0
  have hown : s.vm.findClass "com/example/metasearchd/metasearchd/engine/EngineExceptionHttpStatusPinLaw" = some m.cls := findClass_of_methodNamed Bd.named
  have hnm := (name_of_methodNamed Bd.named Bd.method).1
  have X0 : Stand p l e ({ frames := 0, cells := 0, slots := 0, locals := 0 } : Room) s m #[(.long q0)] below meth c s₁ [] 0 0 := Stand.of_body Bd
  have e0 : s₁.heap = h0 := by rw [← hh, Bd.state]; rfl
  have N0 := Fr.nil n0
  show Go p e below (fun o U' => ∃ v L, o = .returned v ∧ Q35 Z q0 h0 n0 v U'.heap L ∧ FrameEnd s o U' L ({ frames := 0, cells := 0, slots := 0, locals := 0 } : Room).cells ({ frames := 0, cells := 0, slots := 0, locals := 0 } : Room).slots) (s₁.setTop (entryFrame m #[(.long q0)] 2))
  refine Go.of (fun _ k => castTop (ef_35 m q0) k) ?_
  show Go p e below _ (s₁.setTop (mkF m 0 #[.val (.long q0), .second] []))
  refine Go.of (fun _ k => XS.lloadN X0.here hx rfl (hb hby d35_0) rfl  k) ?_
  refine Go.of (fun _ k => X0.ldc2Long hx hown (mvT hZ (own_h hw 215 rfl)) (g := (mkF m 1 #[.val (.long q0), .second] [(.long q0)])) rfl (hb hby d35_1) _ k) ?_
  show Go p e below _ (s₁.setTop (mkF m 4 #[.val (.long q0), .second] [(.long (1000000000 : Int64)), (.long q0)]))
  refine Go.of (fun _ k => XS.lcmp X0.here hx rfl (hb hby d35_4) rfl k) ?_
  show Go p e below _ (s₁.setTop (mkF m 5 #[.val (.long q0), .second] [(.int (lcmpW q0 (1000000000 : Int64)))]))
  by_cases hc1 : (lcmpW q0 (1000000000 : Int64)) < (0 : Int32)
  ·
    refine Go.of (fun _ k => XS.ifYes X0.here hx rfl (pc0 := 5) (pc' := 11) rfl (hb hby d35_5) rfl ((if0 _ _).trans (tlt hc1).1) (by decide) (by decide) k) ?_
    show Go p e below _ (s₁.setTop (mkF m 11 #[.val (.long q0), .second] []))
    refine Go.of (fun _ k => XS.lloadN X0.here hx rfl (hb hby d35_11) rfl  k) ?_
    refine Go.of (fun _ k => X0.ldc2Long hx hown (mvT hZ (own_h hw 216 rfl)) (g := (mkF m 12 #[.val (.long q0), .second] [(.long q0)])) rfl (hb hby d35_12) _ k) ?_
    show Go p e below _ (s₁.setTop (mkF m 15 #[.val (.long q0), .second] [(.long (100000000 : Int64)), (.long q0)]))
    refine Go.of (fun _ k => XS.lcmp X0.here hx rfl (hb hby d35_15) rfl k) ?_
    show Go p e below _ (s₁.setTop (mkF m 16 #[.val (.long q0), .second] [(.int (lcmpW q0 (100000000 : Int64)))]))
    by_cases hc2 : (lcmpW q0 (100000000 : Int64)) < (0 : Int32)
    ·
      refine Go.of (fun _ k => XS.ifYes X0.here hx rfl (pc0 := 16) (pc' := 22) rfl (hb hby d35_16) rfl ((if0 _ _).trans (tlt hc2).1) (by decide) (by decide) k) ?_
      show Go p e below _ (s₁.setTop (mkF m 22 #[.val (.long q0), .second] []))
      refine Go.of (fun _ k => XS.lloadN X0.here hx rfl (hb hby d35_22) rfl  k) ?_
      refine Go.of (fun _ k => X0.ldc2Long hx hown (mvT hZ (own_h hw 217 rfl)) (g := (mkF m 23 #[.val (.long q0), .second] [(.long q0)])) rfl (hb hby d35_23) _ k) ?_
      show Go p e below _ (s₁.setTop (mkF m 26 #[.val (.long q0), .second] [(.long (10000000 : Int64)), (.long q0)]))
      refine Go.of (fun _ k => XS.lcmp X0.here hx rfl (hb hby d35_26) rfl k) ?_
      show Go p e below _ (s₁.setTop (mkF m 27 #[.val (.long q0), .second] [(.int (lcmpW q0 (10000000 : Int64)))]))
      by_cases hc3 : (lcmpW q0 (10000000 : Int64)) < (0 : Int32)
      ·
        refine Go.of (fun _ k => XS.ifYes X0.here hx rfl (pc0 := 27) (pc' := 33) rfl (hb hby d35_27) rfl ((if0 _ _).trans (tlt hc3).1) (by decide) (by decide) k) ?_
        show Go p e below _ (s₁.setTop (mkF m 33 #[.val (.long q0), .second] []))
        refine Go.of (fun _ k => XS.lloadN X0.here hx rfl (hb hby d35_33) rfl  k) ?_
        refine Go.of (fun _ k => X0.ldc2Long hx hown (mvT hZ (own_h hw 218 rfl)) (g := (mkF m 34 #[.val (.long q0), .second] [(.long q0)])) rfl (hb hby d35_34) _ k) ?_
        show Go p e below _ (s₁.setTop (mkF m 37 #[.val (.long q0), .second] [(.long (1000000 : Int64)), (.long q0)]))
        refine Go.of (fun _ k => XS.lcmp X0.here hx rfl (hb hby d35_37) rfl k) ?_
        show Go p e below _ (s₁.setTop (mkF m 38 #[.val (.long q0), .second] [(.int (lcmpW q0 (1000000 : Int64)))]))
        by_cases hc4 : (lcmpW q0 (1000000 : Int64)) < (0 : Int32)
        ·
          refine Go.of (fun _ k => XS.ifYes X0.here hx rfl (pc0 := 38) (pc' := 44) rfl (hb hby d35_38) rfl ((if0 _ _).trans (tlt hc4).1) (by decide) (by decide) k) ?_
          show Go p e below _ (s₁.setTop (mkF m 44 #[.val (.long q0), .second] []))
          refine Go.of (fun _ k => XS.lloadN X0.here hx rfl (hb hby d35_44) rfl  k) ?_
          refine Go.of (fun _ k => X0.ldc2Long hx hown (mvT hZ (own_h hw 219 rfl)) (g := (mkF m 45 #[.val (.long q0), .second] [(.long q0)])) rfl (hb hby d35_45) _ k) ?_
          show Go p e below _ (s₁.setTop (mkF m 48 #[.val (.long q0), .second] [(.long (100000 : Int64)), (.long q0)]))
          refine Go.of (fun _ k => XS.lcmp X0.here hx rfl (hb hby d35_48) rfl k) ?_
          show Go p e below _ (s₁.setTop (mkF m 49 #[.val (.long q0), .second] [(.int (lcmpW q0 (100000 : Int64)))]))
          by_cases hc5 : (lcmpW q0 (100000 : Int64)) < (0 : Int32)
          ·
            refine Go.of (fun _ k => XS.ifYes X0.here hx rfl (pc0 := 49) (pc' := 55) rfl (hb hby d35_49) rfl ((if0 _ _).trans (tlt hc5).1) (by decide) (by decide) k) ?_
            show Go p e below _ (s₁.setTop (mkF m 55 #[.val (.long q0), .second] []))
            refine Go.of (fun _ k => XS.lloadN X0.here hx rfl (hb hby d35_55) rfl  k) ?_
            refine Go.of (fun _ k => X0.ldc2Long hx hown (mvT hZ (own_h hw 220 rfl)) (g := (mkF m 56 #[.val (.long q0), .second] [(.long q0)])) rfl (hb hby d35_56) _ k) ?_
            show Go p e below _ (s₁.setTop (mkF m 59 #[.val (.long q0), .second] [(.long (10000 : Int64)), (.long q0)]))
            refine Go.of (fun _ k => XS.lcmp X0.here hx rfl (hb hby d35_59) rfl k) ?_
            show Go p e below _ (s₁.setTop (mkF m 60 #[.val (.long q0), .second] [(.int (lcmpW q0 (10000 : Int64)))]))
            by_cases hc6 : (lcmpW q0 (10000 : Int64)) < (0 : Int32)
            ·
              refine Go.of (fun _ k => XS.ifYes X0.here hx rfl (pc0 := 60) (pc' := 65) rfl (hb hby d35_60) rfl ((if0 _ _).trans (tlt hc6).1) (by decide) (by decide) k) ?_
              show Go p e below _ (s₁.setTop (mkF m 65 #[.val (.long q0), .second] []))
              refine Go.of (fun _ k => XS.lloadN X0.here hx rfl (hb hby d35_65) rfl  k) ?_
              refine Go.of (fun _ k => X0.ldc2Long hx hown (mvT hZ (own_h hw 221 rfl)) (g := (mkF m 66 #[.val (.long q0), .second] [(.long q0)])) rfl (hb hby d35_66) _ k) ?_
              show Go p e below _ (s₁.setTop (mkF m 69 #[.val (.long q0), .second] [(.long (1000 : Int64)), (.long q0)]))
              refine Go.of (fun _ k => XS.lcmp X0.here hx rfl (hb hby d35_69) rfl k) ?_
              show Go p e below _ (s₁.setTop (mkF m 70 #[.val (.long q0), .second] [(.int (lcmpW q0 (1000 : Int64)))]))
              by_cases hc7 : (lcmpW q0 (1000 : Int64)) < (0 : Int32)
              ·
                refine Go.of (fun _ k => XS.ifYes X0.here hx rfl (pc0 := 70) (pc' := 75) rfl (hb hby d35_70) rfl ((if0 _ _).trans (tlt hc7).1) (by decide) (by decide) k) ?_
                show Go p e below _ (s₁.setTop (mkF m 75 #[.val (.long q0), .second] []))
                refine Go.of (fun _ k => XS.lloadN X0.here hx rfl (hb hby d35_75) rfl  k) ?_
                refine Go.of (fun _ k => X0.ldc2Long hx hown (mvT hZ (own_h hw 222 rfl)) (g := (mkF m 76 #[.val (.long q0), .second] [(.long q0)])) rfl (hb hby d35_76) _ k) ?_
                show Go p e below _ (s₁.setTop (mkF m 79 #[.val (.long q0), .second] [(.long (100 : Int64)), (.long q0)]))
                refine Go.of (fun _ k => XS.lcmp X0.here hx rfl (hb hby d35_79) rfl k) ?_
                show Go p e below _ (s₁.setTop (mkF m 80 #[.val (.long q0), .second] [(.int (lcmpW q0 (100 : Int64)))]))
                by_cases hc8 : (lcmpW q0 (100 : Int64)) < (0 : Int32)
                ·
                  refine Go.of (fun _ k => XS.ifYes X0.here hx rfl (pc0 := 80) (pc' := 85) rfl (hb hby d35_80) rfl ((if0 _ _).trans (tlt hc8).1) (by decide) (by decide) k) ?_
                  show Go p e below _ (s₁.setTop (mkF m 85 #[.val (.long q0), .second] []))
                  refine Go.of (fun _ k => XS.lloadN X0.here hx rfl (hb hby d35_85) rfl  k) ?_
                  refine Go.of (fun _ k => X0.ldc2Long hx hown (mvT hZ (own_h hw 223 rfl)) (g := (mkF m 86 #[.val (.long q0), .second] [(.long q0)])) rfl (hb hby d35_86) _ k) ?_
                  show Go p e below _ (s₁.setTop (mkF m 89 #[.val (.long q0), .second] [(.long (10 : Int64)), (.long q0)]))
                  refine Go.of (fun _ k => XS.lcmp X0.here hx rfl (hb hby d35_89) rfl k) ?_
                  show Go p e below _ (s₁.setTop (mkF m 90 #[.val (.long q0), .second] [(.int (lcmpW q0 (10 : Int64)))]))
                  by_cases hc9 : (lcmpW q0 (10 : Int64)) < (0 : Int32)
                  ·
                    refine Go.of (fun _ k => XS.ifYes X0.here hx rfl (pc0 := 90) (pc' := 95) rfl (hb hby d35_90) rfl ((if0 _ _).trans (tlt hc9).1) (by decide) (by decide) k) ?_
                    show Go p e below _ (s₁.setTop (mkF m 95 #[.val (.long q0), .second] []))
                    refine Go.of (fun _ k => XS.iconst X0.here hx rfl (hb hby d35_95) k) ?_
                    obtain ⟨fs, hr, hrun, hended, hW, hsame⟩ := X0.leave (v := some (.int (1 : Int32))) (fun h => by rw [Bd.returns] at h; cases h)
                    refine Go.mk _ _ ?_ hrun hended ⟨_, _, rfl, ?_, ⟨_, rfl⟩, hW, hsame.mono (by decide) (by decide)⟩
                    · exact retI X0 hx Bd.returns (hb hby d35_96) hr
                    · show Q35 Z q0 h0 n0 _ s₁.heap _
                      rw [e0]
                      exact ⟨(by unfold own_dig; rw [if_pos hc1, if_pos hc2, if_pos hc3, if_pos hc4, if_pos hc5, if_pos hc6, if_pos hc7, if_pos hc8, if_pos hc9]), N0, rfl⟩
                  ·
                    refine Go.of (fun _ k => XS.ifNo X0.here hx rfl (hb hby d35_90) rfl ((if0 _ _).trans (flt hc9).1) k) ?_
                    show Go p e below _ (s₁.setTop (mkF m 93 #[.val (.long q0), .second] []))
                    refine Go.of (fun _ k => XS.iconst X0.here hx rfl (hb hby d35_93) k) ?_
                    obtain ⟨fs, hr, hrun, hended, hW, hsame⟩ := X0.leave (v := some (.int (2 : Int32))) (fun h => by rw [Bd.returns] at h; cases h)
                    refine Go.mk _ _ ?_ hrun hended ⟨_, _, rfl, ?_, ⟨_, rfl⟩, hW, hsame.mono (by decide) (by decide)⟩
                    · exact retI X0 hx Bd.returns (hb hby d35_94) hr
                    · show Q35 Z q0 h0 n0 _ s₁.heap _
                      rw [e0]
                      exact ⟨(by unfold own_dig; rw [if_pos hc1, if_pos hc2, if_pos hc3, if_pos hc4, if_pos hc5, if_pos hc6, if_pos hc7, if_pos hc8, if_neg hc9]), N0, rfl⟩
                ·
                  refine Go.of (fun _ k => XS.ifNo X0.here hx rfl (hb hby d35_80) rfl ((if0 _ _).trans (flt hc8).1) k) ?_
                  show Go p e below _ (s₁.setTop (mkF m 83 #[.val (.long q0), .second] []))
                  refine Go.of (fun _ k => XS.iconst X0.here hx rfl (hb hby d35_83) k) ?_
                  obtain ⟨fs, hr, hrun, hended, hW, hsame⟩ := X0.leave (v := some (.int (3 : Int32))) (fun h => by rw [Bd.returns] at h; cases h)
                  refine Go.mk _ _ ?_ hrun hended ⟨_, _, rfl, ?_, ⟨_, rfl⟩, hW, hsame.mono (by decide) (by decide)⟩
                  · exact retI X0 hx Bd.returns (hb hby d35_84) hr
                  · show Q35 Z q0 h0 n0 _ s₁.heap _
                    rw [e0]
                    exact ⟨(by unfold own_dig; rw [if_pos hc1, if_pos hc2, if_pos hc3, if_pos hc4, if_pos hc5, if_pos hc6, if_pos hc7, if_neg hc8]), N0, rfl⟩
              ·
                refine Go.of (fun _ k => XS.ifNo X0.here hx rfl (hb hby d35_70) rfl ((if0 _ _).trans (flt hc7).1) k) ?_
                show Go p e below _ (s₁.setTop (mkF m 73 #[.val (.long q0), .second] []))
                refine Go.of (fun _ k => XS.iconst X0.here hx rfl (hb hby d35_73) k) ?_
                obtain ⟨fs, hr, hrun, hended, hW, hsame⟩ := X0.leave (v := some (.int (4 : Int32))) (fun h => by rw [Bd.returns] at h; cases h)
                refine Go.mk _ _ ?_ hrun hended ⟨_, _, rfl, ?_, ⟨_, rfl⟩, hW, hsame.mono (by decide) (by decide)⟩
                · exact retI X0 hx Bd.returns (hb hby d35_74) hr
                · show Q35 Z q0 h0 n0 _ s₁.heap _
                  rw [e0]
                  exact ⟨(by unfold own_dig; rw [if_pos hc1, if_pos hc2, if_pos hc3, if_pos hc4, if_pos hc5, if_pos hc6, if_neg hc7]), N0, rfl⟩
            ·
              refine Go.of (fun _ k => XS.ifNo X0.here hx rfl (hb hby d35_60) rfl ((if0 _ _).trans (flt hc6).1) k) ?_
              show Go p e below _ (s₁.setTop (mkF m 63 #[.val (.long q0), .second] []))
              refine Go.of (fun _ k => XS.iconst X0.here hx rfl (hb hby d35_63) k) ?_
              obtain ⟨fs, hr, hrun, hended, hW, hsame⟩ := X0.leave (v := some (.int (5 : Int32))) (fun h => by rw [Bd.returns] at h; cases h)
              refine Go.mk _ _ ?_ hrun hended ⟨_, _, rfl, ?_, ⟨_, rfl⟩, hW, hsame.mono (by decide) (by decide)⟩
              · exact retI X0 hx Bd.returns (hb hby d35_64) hr
              · show Q35 Z q0 h0 n0 _ s₁.heap _
                rw [e0]
                exact ⟨(by unfold own_dig; rw [if_pos hc1, if_pos hc2, if_pos hc3, if_pos hc4, if_pos hc5, if_neg hc6]), N0, rfl⟩
          ·
            refine Go.of (fun _ k => XS.ifNo X0.here hx rfl (hb hby d35_49) rfl ((if0 _ _).trans (flt hc5).1) k) ?_
            show Go p e below _ (s₁.setTop (mkF m 52 #[.val (.long q0), .second] []))
            refine Go.of (fun _ k => XS.bipush X0.here hx rfl (hb hby d35_52) k) ?_
            obtain ⟨fs, hr, hrun, hended, hW, hsame⟩ := X0.leave (v := some (.int (6 : Int32))) (fun h => by rw [Bd.returns] at h; cases h)
            refine Go.mk _ _ ?_ hrun hended ⟨_, _, rfl, ?_, ⟨_, rfl⟩, hW, hsame.mono (by decide) (by decide)⟩
            · exact retI X0 hx Bd.returns (hb hby d35_54) hr
            · show Q35 Z q0 h0 n0 _ s₁.heap _
              rw [e0]
              exact ⟨(by unfold own_dig; rw [if_pos hc1, if_pos hc2, if_pos hc3, if_pos hc4, if_neg hc5]), N0, rfl⟩
        ·
          refine Go.of (fun _ k => XS.ifNo X0.here hx rfl (hb hby d35_38) rfl ((if0 _ _).trans (flt hc4).1) k) ?_
          show Go p e below _ (s₁.setTop (mkF m 41 #[.val (.long q0), .second] []))
          refine Go.of (fun _ k => XS.bipush X0.here hx rfl (hb hby d35_41) k) ?_
          obtain ⟨fs, hr, hrun, hended, hW, hsame⟩ := X0.leave (v := some (.int (7 : Int32))) (fun h => by rw [Bd.returns] at h; cases h)
          refine Go.mk _ _ ?_ hrun hended ⟨_, _, rfl, ?_, ⟨_, rfl⟩, hW, hsame.mono (by decide) (by decide)⟩
          · exact retI X0 hx Bd.returns (hb hby d35_43) hr
          · show Q35 Z q0 h0 n0 _ s₁.heap _
            rw [e0]
            exact ⟨(by unfold own_dig; rw [if_pos hc1, if_pos hc2, if_pos hc3, if_neg hc4]), N0, rfl⟩
      ·
        refine Go.of (fun _ k => XS.ifNo X0.here hx rfl (hb hby d35_27) rfl ((if0 _ _).trans (flt hc3).1) k) ?_
        show Go p e below _ (s₁.setTop (mkF m 30 #[.val (.long q0), .second] []))
        refine Go.of (fun _ k => XS.bipush X0.here hx rfl (hb hby d35_30) k) ?_
        obtain ⟨fs, hr, hrun, hended, hW, hsame⟩ := X0.leave (v := some (.int (8 : Int32))) (fun h => by rw [Bd.returns] at h; cases h)
        refine Go.mk _ _ ?_ hrun hended ⟨_, _, rfl, ?_, ⟨_, rfl⟩, hW, hsame.mono (by decide) (by decide)⟩
        · exact retI X0 hx Bd.returns (hb hby d35_32) hr
        · show Q35 Z q0 h0 n0 _ s₁.heap _
          rw [e0]
          exact ⟨(by unfold own_dig; rw [if_pos hc1, if_pos hc2, if_neg hc3]), N0, rfl⟩
    ·
      refine Go.of (fun _ k => XS.ifNo X0.here hx rfl (hb hby d35_16) rfl ((if0 _ _).trans (flt hc2).1) k) ?_
      show Go p e below _ (s₁.setTop (mkF m 19 #[.val (.long q0), .second] []))
      refine Go.of (fun _ k => XS.bipush X0.here hx rfl (hb hby d35_19) k) ?_
      obtain ⟨fs, hr, hrun, hended, hW, hsame⟩ := X0.leave (v := some (.int (9 : Int32))) (fun h => by rw [Bd.returns] at h; cases h)
      refine Go.mk _ _ ?_ hrun hended ⟨_, _, rfl, ?_, ⟨_, rfl⟩, hW, hsame.mono (by decide) (by decide)⟩
      · exact retI X0 hx Bd.returns (hb hby d35_21) hr
      · show Q35 Z q0 h0 n0 _ s₁.heap _
        rw [e0]
        exact ⟨(by unfold own_dig; rw [if_pos hc1, if_neg hc2]), N0, rfl⟩
  ·
    refine Go.of (fun _ k => XS.ifNo X0.here hx rfl (hb hby d35_5) rfl ((if0 _ _).trans (flt hc1).1) k) ?_
    show Go p e below _ (s₁.setTop (mkF m 8 #[.val (.long q0), .second] []))
    refine Go.of (fun _ k => XS.bipush X0.here hx rfl (hb hby d35_8) k) ?_
    obtain ⟨fs, hr, hrun, hended, hW, hsame⟩ := X0.leave (v := some (.int (10 : Int32))) (fun h => by rw [Bd.returns] at h; cases h)
    refine Go.mk _ _ ?_ hrun hended ⟨_, _, rfl, ?_, ⟨_, rfl⟩, hW, hsame.mono (by decide) (by decide)⟩
    · exact retI X0 hx Bd.returns (hb hby d35_10) hr
    · show Q35 Z q0 h0 n0 _ s₁.heap _
      rw [e0]
      exact ⟨(by unfold own_dig; rw [if_neg hc1]), N0, rfl⟩
theorem d43_0 : decode method_4_code 0 = .ok (.bipush 10, 2) := by decide +kernel
theorem d43_2 : decode method_4_code 2 = .ok (.newarray .long, 2) := by decide +kernel
theorem d43_4 : decode method_4_code 4 = .ok (.dup, 1) := by decide +kernel
theorem d43_5 : decode method_4_code 5 = .ok (.iconst 0, 1) := by decide +kernel
theorem d43_6 : decode method_4_code 6 = .ok (.lconst 1, 1) := by decide +kernel
theorem d43_7 : decode method_4_code 7 = .ok (.lastore, 1) := by decide +kernel
theorem d43_8 : decode method_4_code 8 = .ok (.dup, 1) := by decide +kernel
theorem d43_9 : decode method_4_code 9 = .ok (.iconst 1, 1) := by decide +kernel
theorem d43_10 : decode method_4_code 10 = .ok (.ldc2_w 55, 3) := by decide +kernel
theorem d43_13 : decode method_4_code 13 = .ok (.lastore, 1) := by decide +kernel
theorem d43_14 : decode method_4_code 14 = .ok (.dup, 1) := by decide +kernel
theorem d43_15 : decode method_4_code 15 = .ok (.iconst 2, 1) := by decide +kernel
theorem d43_16 : decode method_4_code 16 = .ok (.ldc2_w 53, 3) := by decide +kernel
theorem d43_19 : decode method_4_code 19 = .ok (.lastore, 1) := by decide +kernel
theorem d43_20 : decode method_4_code 20 = .ok (.dup, 1) := by decide +kernel
theorem d43_21 : decode method_4_code 21 = .ok (.iconst 3, 1) := by decide +kernel
theorem d43_22 : decode method_4_code 22 = .ok (.ldc2_w 51, 3) := by decide +kernel
theorem d43_25 : decode method_4_code 25 = .ok (.lastore, 1) := by decide +kernel
theorem d43_26 : decode method_4_code 26 = .ok (.dup, 1) := by decide +kernel
theorem d43_27 : decode method_4_code 27 = .ok (.iconst 4, 1) := by decide +kernel
theorem d43_28 : decode method_4_code 28 = .ok (.ldc2_w 49, 3) := by decide +kernel
theorem d43_31 : decode method_4_code 31 = .ok (.lastore, 1) := by decide +kernel
theorem d43_32 : decode method_4_code 32 = .ok (.dup, 1) := by decide +kernel
theorem d43_33 : decode method_4_code 33 = .ok (.iconst 5, 1) := by decide +kernel
theorem d43_34 : decode method_4_code 34 = .ok (.ldc2_w 47, 3) := by decide +kernel
theorem d43_37 : decode method_4_code 37 = .ok (.lastore, 1) := by decide +kernel
theorem d43_38 : decode method_4_code 38 = .ok (.dup, 1) := by decide +kernel
theorem d43_39 : decode method_4_code 39 = .ok (.bipush 6, 2) := by decide +kernel
theorem d43_41 : decode method_4_code 41 = .ok (.ldc2_w 45, 3) := by decide +kernel
theorem d43_44 : decode method_4_code 44 = .ok (.lastore, 1) := by decide +kernel
theorem d43_45 : decode method_4_code 45 = .ok (.dup, 1) := by decide +kernel
theorem d43_46 : decode method_4_code 46 = .ok (.bipush 7, 2) := by decide +kernel
theorem d43_48 : decode method_4_code 48 = .ok (.ldc2_w 43, 3) := by decide +kernel
theorem d43_51 : decode method_4_code 51 = .ok (.lastore, 1) := by decide +kernel
theorem d43_52 : decode method_4_code 52 = .ok (.dup, 1) := by decide +kernel
theorem d43_53 : decode method_4_code 53 = .ok (.bipush 8, 2) := by decide +kernel
theorem d43_55 : decode method_4_code 55 = .ok (.ldc2_w 41, 3) := by decide +kernel
theorem d43_58 : decode method_4_code 58 = .ok (.lastore, 1) := by decide +kernel
theorem d43_59 : decode method_4_code 59 = .ok (.dup, 1) := by decide +kernel
theorem d43_60 : decode method_4_code 60 = .ok (.bipush 9, 2) := by decide +kernel
theorem d43_62 : decode method_4_code 62 = .ok (.ldc2_w 39, 3) := by decide +kernel
theorem d43_65 : decode method_4_code 65 = .ok (.lastore, 1) := by decide +kernel
theorem d43_66 : decode method_4_code 66 = .ok (.astore_n 1, 1) := by decide +kernel
theorem d43_67 : decode method_4_code 67 = .ok (.aload_n 1, 1) := by decide +kernel
theorem d43_68 : decode method_4_code 68 = .ok (.iload_n 0, 1) := by decide +kernel
theorem d43_69 : decode method_4_code 69 = .ok (.laload, 1) := by decide +kernel
theorem d43_70 : decode method_4_code 70 = .ok (.lreturn, 1) := by decide +kernel
theorem ef_43 (m : MethodId) (x0 : Int32) : entryFrame m #[(.int x0)] 2 = mkF m 0 #[.val (.int x0), .unset] [] := by first | (simp [entryFrame, mkF, argsToLocals, Value.category]; done) | rfl
def Q43 (Z : State) (p0 : Int32) (h0 : Heap) (n0 : Nat) (v : Option Value) (h : Heap) (L : List Loc) : Prop := v = some (.long (own_pow p0)) ∧ Fr n0 L ∧ Keep h0 h []
set_option maxRecDepth 65536 in
set_option maxHeartbeats 40000000 in
theorem rm43 (l : Launch) (Z : State) (a0 : Array Value) (hw : ∀ d ∈ tables_1, d.before a0 Z = true) (ws : List Jvm.Cond) (p0 : Int32) (h0 : Heap) (n0 : Nat) (Z0 : n0 ≤ h0.size) (hlo69 : ¬ (p0 < (0 : Int32))) (hup69 : p0 < (10 : Int32)) :
    MetFree l (⟨"com/example/metasearchd/metasearchd/engine/EngineExceptionHttpStatusPinLaw", "pow10", "(I)J"⟩ : MethodName) (head1 (Jvm.Cond.code (⟨"com/example/metasearchd/metasearchd/engine/EngineExceptionHttpStatusPinLaw", "pow10", "(I)J"⟩ : MethodName) method_4_code 2 (some .long) :: ws) ({ frames := 0, cells := 1, slots := 10, locals := 0 } : Room)) (fun a U => a = #[(.int p0)] ∧ Z.Warmed39 U.vm ∧ U.heap = h0) (fun _ _ _ _ _ => True) (fun _ U o U' => ∃ v L, o = .returned v ∧ Q43 Z p0 h0 n0 v U'.heap L ∧ FrameEnd U o U' L ({ frames := 0, cells := 1, slots := 10, locals := 0 } : Room).cells ({ frames := 0, cells := 1, slots := 10, locals := 0 } : Room).slots) := by
  refine MetFree.of_bodySF (plainFor_of_name pn_com_example_metasearchd_metasearchd_engine_EngineExceptionHttpStatusPinLaw) hisR ?_
  intro p e s m args below meth c s₁ Bd hml0 hP hK
  obtain ⟨rfl, hZ, hh⟩ := hP
  have hx := Bd.exec
  have hby := Bd.bytes
  have hml : c.maxLocals = 2 := hml0
  have hown : s.vm.findClass "com/example/metasearchd/metasearchd/engine/EngineExceptionHttpStatusPinLaw" = some m.cls := findClass_of_methodNamed Bd.named
  have hnm := (name_of_methodNamed Bd.named Bd.method).1
  have X0 : Stand p l e ({ frames := 0, cells := 1, slots := 10, locals := 0 } : Room) s m #[(.int p0)] below meth c s₁ [] 0 0 := Stand.of_body Bd
  have e0 : s₁.heap = h0 := by rw [← hh, Bd.state]; rfl
  have N0 := Fr.nil n0
  show Go p e below (fun o U' => ∃ v L, o = .returned v ∧ Q43 Z p0 h0 n0 v U'.heap L ∧ FrameEnd s o U' L ({ frames := 0, cells := 1, slots := 10, locals := 0 } : Room).cells ({ frames := 0, cells := 1, slots := 10, locals := 0 } : Room).slots) (s₁.setTop (entryFrame m #[(.int p0)] 2))
  refine Go.of (fun _ k => castTop (ef_43 m p0) k) ?_
  show Go p e below _ (s₁.setTop (mkF m 0 #[.val (.int p0), .unset] []))
  refine Go.of (fun _ k => XS.bipush X0.here hx rfl (hb hby d43_0) k) ?_
  obtain ⟨T1, h1, k1, X1, e1, E1, A1, st1⟩ := newP X0 hx hZ (own_h hw 256 rfl) e0 (g := (mkF m 2 #[.val (.int p0), .unset] [(.int (10 : Int32))])) rfl (hb hby d43_2) rfl (by decide) (cap := 10) (by decide) (by decide) (by decide) (by decide)
  obtain ⟨ob1, g1⟩ : ∃ z, z = h0.size := ⟨_, rfl⟩
  rw [← g1] at A1 st1
  refine Go.of st1 ?_
  have g_ob1 : n0 ≤ ob1 := Nat.le_trans Z0 (Nat.le_of_eq g1.symm)
  have sz_ob1 : h0.size ≤ ob1 := Nat.le_trans ((Keep.refl h0 [])).1 (Nat.le_of_eq g1.symm)
  have K1 : Keep h0 h1 [] := ((Keep.refl h0 [])).ext E1
  have Z1 : n0 ≤ h1.size := Nat.le_trans Z0 E1.1
  have V1 : Arv Z h1 ob1 k1 .long (10 : Int32) [(.long (0 : Int64)), (.long (0 : Int64)), (.long (0 : Int64)), (.long (0 : Int64)), (.long (0 : Int64)), (.long (0 : Int64)), (.long (0 : Int64)), (.long (0 : Int64)), (.long (0 : Int64)), (.long (0 : Int64))] (.long (0 : Int64)) := (Arv.new A1 (by decide)).pad (pad_rep [] (.long (0 : Int64)) 10)
  show Go p e below _ (T1.setTop (mkF m 4 #[.val (.int p0), .unset] [(.ref ob1)]))
  refine Go.of (fun _ k => XS.dup X1.here hx rfl (hb hby d43_4) rfl rfl k) ?_
  refine Go.of (fun _ k => XS.iconst X1.here hx rfl (hb hby d43_5) k) ?_
  refine Go.of (fun _ k => XS.lconst X1.here hx rfl (hb hby d43_6) k) ?_
  obtain ⟨clt2, Art2, qt2, st2, nt2, Ht2, Gt2⟩ := id V1
  have hint2 : ¬ ((0 : Int32) < 0 ∨ clt2.slots.size ≤ ((0 : Int32)).toNatClampNeg) := inb_of st2 ⟨by decide, by decide⟩
  obtain ⟨T3, h3, X3, e3, W3, st3⟩ := stJ X1 hx hZ e1 Art2 (j := (0 : Int32)) hint2 (g := (mkF m 7 #[.val (.int p0), .unset] [(.long (1 : Int64)), (.int (0 : Int32)), (.ref ob1), (.ref ob1)])) rfl rfl (hb hby d43_7)
  refine Go.of st3 ?_
  have N3 := Fr.snoc X3 N0 g_ob1
  have K3 : Keep h0 h3 [] := (K1).wr W3 (Or.inr sz_ob1)
  have Z3 : n0 ≤ h3.size := Nat.le_trans Z1 (Keep.of_wr W3).1
  have V3 : Arv Z h3 ob1 k1 .long (10 : Int32) [(.long (1 : Int64)), (.long (0 : Int64)), (.long (0 : Int64)), (.long (0 : Int64)), (.long (0 : Int64)), (.long (0 : Int64)), (.long (0 : Int64)), (.long (0 : Int64)), (.long (0 : Int64)), (.long (0 : Int64))] (.long (0 : Int64)) := Arv.set Art2 qt2 st2 nt2 Ht2 Gt2 rfl W3 0 rfl (Nat.le_of_ble_eq_true rfl)
  show Go p e below _ (T3.setTop (mkF m 8 #[.val (.int p0), .unset] [(.ref ob1)]))
  refine Go.of (fun _ k => XS.dup X3.here hx rfl (hb hby d43_8) rfl rfl k) ?_
  refine Go.of (fun _ k => XS.iconst X3.here hx rfl (hb hby d43_9) k) ?_
  refine Go.of (fun _ k => X3.ldc2Long hx hown (mvT hZ (own_h hw 223 rfl)) (g := (mkF m 10 #[.val (.int p0), .unset] [(.int (1 : Int32)), (.ref ob1), (.ref ob1)])) rfl (hb hby d43_10) _ k) ?_
  show Go p e below _ (T3.setTop (mkF m 13 #[.val (.int p0), .unset] [(.long (10 : Int64)), (.int (1 : Int32)), (.ref ob1), (.ref ob1)]))
  obtain ⟨clt4, Art4, qt4, st4, nt4, Ht4, Gt4⟩ := id V3
  have hint4 : ¬ ((1 : Int32) < 0 ∨ clt4.slots.size ≤ ((1 : Int32)).toNatClampNeg) := inb_of st4 ⟨by decide, by decide⟩
  obtain ⟨T5, h5, X5, e5, W5, st5⟩ := stJ X3 hx hZ e3 Art4 (j := (1 : Int32)) hint4 (g := (mkF m 13 #[.val (.int p0), .unset] [(.long (10 : Int64)), (.int (1 : Int32)), (.ref ob1), (.ref ob1)])) rfl rfl (hb hby d43_13)
  refine Go.of st5 ?_
  have N5 := Fr.snoc X5 N3 g_ob1
  have K5 : Keep h0 h5 [] := (K3).wr W5 (Or.inr sz_ob1)
  have Z5 : n0 ≤ h5.size := Nat.le_trans Z3 (Keep.of_wr W5).1
  have V5 : Arv Z h5 ob1 k1 .long (10 : Int32) [(.long (1 : Int64)), (.long (10 : Int64)), (.long (0 : Int64)), (.long (0 : Int64)), (.long (0 : Int64)), (.long (0 : Int64)), (.long (0 : Int64)), (.long (0 : Int64)), (.long (0 : Int64)), (.long (0 : Int64))] (.long (0 : Int64)) := Arv.set Art4 qt4 st4 nt4 Ht4 Gt4 rfl W5 1 rfl (Nat.le_of_ble_eq_true rfl)
  show Go p e below _ (T5.setTop (mkF m 14 #[.val (.int p0), .unset] [(.ref ob1)]))
  refine Go.of (fun _ k => XS.dup X5.here hx rfl (hb hby d43_14) rfl rfl k) ?_
  refine Go.of (fun _ k => XS.iconst X5.here hx rfl (hb hby d43_15) k) ?_
  refine Go.of (fun _ k => X5.ldc2Long hx hown (mvT hZ (own_h hw 222 rfl)) (g := (mkF m 16 #[.val (.int p0), .unset] [(.int (2 : Int32)), (.ref ob1), (.ref ob1)])) rfl (hb hby d43_16) _ k) ?_
  show Go p e below _ (T5.setTop (mkF m 19 #[.val (.int p0), .unset] [(.long (100 : Int64)), (.int (2 : Int32)), (.ref ob1), (.ref ob1)]))
  obtain ⟨clt6, Art6, qt6, st6, nt6, Ht6, Gt6⟩ := id V5
  have hint6 : ¬ ((2 : Int32) < 0 ∨ clt6.slots.size ≤ ((2 : Int32)).toNatClampNeg) := inb_of st6 ⟨by decide, by decide⟩
  obtain ⟨T7, h7, X7, e7, W7, st7⟩ := stJ X5 hx hZ e5 Art6 (j := (2 : Int32)) hint6 (g := (mkF m 19 #[.val (.int p0), .unset] [(.long (100 : Int64)), (.int (2 : Int32)), (.ref ob1), (.ref ob1)])) rfl rfl (hb hby d43_19)
  refine Go.of st7 ?_
  have N7 := Fr.snoc X7 N5 g_ob1
  have K7 : Keep h0 h7 [] := (K5).wr W7 (Or.inr sz_ob1)
  have Z7 : n0 ≤ h7.size := Nat.le_trans Z5 (Keep.of_wr W7).1
  have V7 : Arv Z h7 ob1 k1 .long (10 : Int32) [(.long (1 : Int64)), (.long (10 : Int64)), (.long (100 : Int64)), (.long (0 : Int64)), (.long (0 : Int64)), (.long (0 : Int64)), (.long (0 : Int64)), (.long (0 : Int64)), (.long (0 : Int64)), (.long (0 : Int64))] (.long (0 : Int64)) := Arv.set Art6 qt6 st6 nt6 Ht6 Gt6 rfl W7 2 rfl (Nat.le_of_ble_eq_true rfl)
  show Go p e below _ (T7.setTop (mkF m 20 #[.val (.int p0), .unset] [(.ref ob1)]))
  refine Go.of (fun _ k => XS.dup X7.here hx rfl (hb hby d43_20) rfl rfl k) ?_
  refine Go.of (fun _ k => XS.iconst X7.here hx rfl (hb hby d43_21) k) ?_
  refine Go.of (fun _ k => X7.ldc2Long hx hown (mvT hZ (own_h hw 221 rfl)) (g := (mkF m 22 #[.val (.int p0), .unset] [(.int (3 : Int32)), (.ref ob1), (.ref ob1)])) rfl (hb hby d43_22) _ k) ?_
  show Go p e below _ (T7.setTop (mkF m 25 #[.val (.int p0), .unset] [(.long (1000 : Int64)), (.int (3 : Int32)), (.ref ob1), (.ref ob1)]))
  obtain ⟨clt8, Art8, qt8, st8, nt8, Ht8, Gt8⟩ := id V7
  have hint8 : ¬ ((3 : Int32) < 0 ∨ clt8.slots.size ≤ ((3 : Int32)).toNatClampNeg) := inb_of st8 ⟨by decide, by decide⟩
  obtain ⟨T9, h9, X9, e9, W9, st9⟩ := stJ X7 hx hZ e7 Art8 (j := (3 : Int32)) hint8 (g := (mkF m 25 #[.val (.int p0), .unset] [(.long (1000 : Int64)), (.int (3 : Int32)), (.ref ob1), (.ref ob1)])) rfl rfl (hb hby d43_25)
  refine Go.of st9 ?_
  have N9 := Fr.snoc X9 N7 g_ob1
  have K9 : Keep h0 h9 [] := (K7).wr W9 (Or.inr sz_ob1)
  have Z9 : n0 ≤ h9.size := Nat.le_trans Z7 (Keep.of_wr W9).1
  have V9 : Arv Z h9 ob1 k1 .long (10 : Int32) [(.long (1 : Int64)), (.long (10 : Int64)), (.long (100 : Int64)), (.long (1000 : Int64)), (.long (0 : Int64)), (.long (0 : Int64)), (.long (0 : Int64)), (.long (0 : Int64)), (.long (0 : Int64)), (.long (0 : Int64))] (.long (0 : Int64)) := Arv.set Art8 qt8 st8 nt8 Ht8 Gt8 rfl W9 3 rfl (Nat.le_of_ble_eq_true rfl)
  show Go p e below _ (T9.setTop (mkF m 26 #[.val (.int p0), .unset] [(.ref ob1)]))
  refine Go.of (fun _ k => XS.dup X9.here hx rfl (hb hby d43_26) rfl rfl k) ?_
  refine Go.of (fun _ k => XS.iconst X9.here hx rfl (hb hby d43_27) k) ?_
  refine Go.of (fun _ k => X9.ldc2Long hx hown (mvT hZ (own_h hw 220 rfl)) (g := (mkF m 28 #[.val (.int p0), .unset] [(.int (4 : Int32)), (.ref ob1), (.ref ob1)])) rfl (hb hby d43_28) _ k) ?_
  show Go p e below _ (T9.setTop (mkF m 31 #[.val (.int p0), .unset] [(.long (10000 : Int64)), (.int (4 : Int32)), (.ref ob1), (.ref ob1)]))
  obtain ⟨clt10, Art10, qt10, st10, nt10, Ht10, Gt10⟩ := id V9
  have hint10 : ¬ ((4 : Int32) < 0 ∨ clt10.slots.size ≤ ((4 : Int32)).toNatClampNeg) := inb_of st10 ⟨by decide, by decide⟩
  obtain ⟨T11, h11, X11, e11, W11, st11⟩ := stJ X9 hx hZ e9 Art10 (j := (4 : Int32)) hint10 (g := (mkF m 31 #[.val (.int p0), .unset] [(.long (10000 : Int64)), (.int (4 : Int32)), (.ref ob1), (.ref ob1)])) rfl rfl (hb hby d43_31)
  refine Go.of st11 ?_
  have N11 := Fr.snoc X11 N9 g_ob1
  have K11 : Keep h0 h11 [] := (K9).wr W11 (Or.inr sz_ob1)
  have Z11 : n0 ≤ h11.size := Nat.le_trans Z9 (Keep.of_wr W11).1
  have V11 : Arv Z h11 ob1 k1 .long (10 : Int32) [(.long (1 : Int64)), (.long (10 : Int64)), (.long (100 : Int64)), (.long (1000 : Int64)), (.long (10000 : Int64)), (.long (0 : Int64)), (.long (0 : Int64)), (.long (0 : Int64)), (.long (0 : Int64)), (.long (0 : Int64))] (.long (0 : Int64)) := Arv.set Art10 qt10 st10 nt10 Ht10 Gt10 rfl W11 4 rfl (Nat.le_of_ble_eq_true rfl)
  show Go p e below _ (T11.setTop (mkF m 32 #[.val (.int p0), .unset] [(.ref ob1)]))
  refine Go.of (fun _ k => XS.dup X11.here hx rfl (hb hby d43_32) rfl rfl k) ?_
  refine Go.of (fun _ k => XS.iconst X11.here hx rfl (hb hby d43_33) k) ?_
  refine Go.of (fun _ k => X11.ldc2Long hx hown (mvT hZ (own_h hw 219 rfl)) (g := (mkF m 34 #[.val (.int p0), .unset] [(.int (5 : Int32)), (.ref ob1), (.ref ob1)])) rfl (hb hby d43_34) _ k) ?_
  show Go p e below _ (T11.setTop (mkF m 37 #[.val (.int p0), .unset] [(.long (100000 : Int64)), (.int (5 : Int32)), (.ref ob1), (.ref ob1)]))
  obtain ⟨clt12, Art12, qt12, st12, nt12, Ht12, Gt12⟩ := id V11
  have hint12 : ¬ ((5 : Int32) < 0 ∨ clt12.slots.size ≤ ((5 : Int32)).toNatClampNeg) := inb_of st12 ⟨by decide, by decide⟩
  obtain ⟨T13, h13, X13, e13, W13, st13⟩ := stJ X11 hx hZ e11 Art12 (j := (5 : Int32)) hint12 (g := (mkF m 37 #[.val (.int p0), .unset] [(.long (100000 : Int64)), (.int (5 : Int32)), (.ref ob1), (.ref ob1)])) rfl rfl (hb hby d43_37)
  refine Go.of st13 ?_
  have N13 := Fr.snoc X13 N11 g_ob1
  have K13 : Keep h0 h13 [] := (K11).wr W13 (Or.inr sz_ob1)
  have Z13 : n0 ≤ h13.size := Nat.le_trans Z11 (Keep.of_wr W13).1
  have V13 : Arv Z h13 ob1 k1 .long (10 : Int32) [(.long (1 : Int64)), (.long (10 : Int64)), (.long (100 : Int64)), (.long (1000 : Int64)), (.long (10000 : Int64)), (.long (100000 : Int64)), (.long (0 : Int64)), (.long (0 : Int64)), (.long (0 : Int64)), (.long (0 : Int64))] (.long (0 : Int64)) := Arv.set Art12 qt12 st12 nt12 Ht12 Gt12 rfl W13 5 rfl (Nat.le_of_ble_eq_true rfl)
  show Go p e below _ (T13.setTop (mkF m 38 #[.val (.int p0), .unset] [(.ref ob1)]))
  refine Go.of (fun _ k => XS.dup X13.here hx rfl (hb hby d43_38) rfl rfl k) ?_
  refine Go.of (fun _ k => XS.bipush X13.here hx rfl (hb hby d43_39) k) ?_
  refine Go.of (fun _ k => X13.ldc2Long hx hown (mvT hZ (own_h hw 218 rfl)) (g := (mkF m 41 #[.val (.int p0), .unset] [(.int (6 : Int32)), (.ref ob1), (.ref ob1)])) rfl (hb hby d43_41) _ k) ?_
  show Go p e below _ (T13.setTop (mkF m 44 #[.val (.int p0), .unset] [(.long (1000000 : Int64)), (.int (6 : Int32)), (.ref ob1), (.ref ob1)]))
  obtain ⟨clt14, Art14, qt14, st14, nt14, Ht14, Gt14⟩ := id V13
  have hint14 : ¬ ((6 : Int32) < 0 ∨ clt14.slots.size ≤ ((6 : Int32)).toNatClampNeg) := inb_of st14 ⟨by decide, by decide⟩
  obtain ⟨T15, h15, X15, e15, W15, st15⟩ := stJ X13 hx hZ e13 Art14 (j := (6 : Int32)) hint14 (g := (mkF m 44 #[.val (.int p0), .unset] [(.long (1000000 : Int64)), (.int (6 : Int32)), (.ref ob1), (.ref ob1)])) rfl rfl (hb hby d43_44)
  refine Go.of st15 ?_
  have N15 := Fr.snoc X15 N13 g_ob1
  have K15 : Keep h0 h15 [] := (K13).wr W15 (Or.inr sz_ob1)
  have Z15 : n0 ≤ h15.size := Nat.le_trans Z13 (Keep.of_wr W15).1
  have V15 : Arv Z h15 ob1 k1 .long (10 : Int32) [(.long (1 : Int64)), (.long (10 : Int64)), (.long (100 : Int64)), (.long (1000 : Int64)), (.long (10000 : Int64)), (.long (100000 : Int64)), (.long (1000000 : Int64)), (.long (0 : Int64)), (.long (0 : Int64)), (.long (0 : Int64))] (.long (0 : Int64)) := Arv.set Art14 qt14 st14 nt14 Ht14 Gt14 rfl W15 6 rfl (Nat.le_of_ble_eq_true rfl)
  show Go p e below _ (T15.setTop (mkF m 45 #[.val (.int p0), .unset] [(.ref ob1)]))
  refine Go.of (fun _ k => XS.dup X15.here hx rfl (hb hby d43_45) rfl rfl k) ?_
  refine Go.of (fun _ k => XS.bipush X15.here hx rfl (hb hby d43_46) k) ?_
  refine Go.of (fun _ k => X15.ldc2Long hx hown (mvT hZ (own_h hw 217 rfl)) (g := (mkF m 48 #[.val (.int p0), .unset] [(.int (7 : Int32)), (.ref ob1), (.ref ob1)])) rfl (hb hby d43_48) _ k) ?_
  show Go p e below _ (T15.setTop (mkF m 51 #[.val (.int p0), .unset] [(.long (10000000 : Int64)), (.int (7 : Int32)), (.ref ob1), (.ref ob1)]))
  obtain ⟨clt16, Art16, qt16, st16, nt16, Ht16, Gt16⟩ := id V15
  have hint16 : ¬ ((7 : Int32) < 0 ∨ clt16.slots.size ≤ ((7 : Int32)).toNatClampNeg) := inb_of st16 ⟨by decide, by decide⟩
  obtain ⟨T17, h17, X17, e17, W17, st17⟩ := stJ X15 hx hZ e15 Art16 (j := (7 : Int32)) hint16 (g := (mkF m 51 #[.val (.int p0), .unset] [(.long (10000000 : Int64)), (.int (7 : Int32)), (.ref ob1), (.ref ob1)])) rfl rfl (hb hby d43_51)
  refine Go.of st17 ?_
  have N17 := Fr.snoc X17 N15 g_ob1
  have K17 : Keep h0 h17 [] := (K15).wr W17 (Or.inr sz_ob1)
  have Z17 : n0 ≤ h17.size := Nat.le_trans Z15 (Keep.of_wr W17).1
  have V17 : Arv Z h17 ob1 k1 .long (10 : Int32) [(.long (1 : Int64)), (.long (10 : Int64)), (.long (100 : Int64)), (.long (1000 : Int64)), (.long (10000 : Int64)), (.long (100000 : Int64)), (.long (1000000 : Int64)), (.long (10000000 : Int64)), (.long (0 : Int64)), (.long (0 : Int64))] (.long (0 : Int64)) := Arv.set Art16 qt16 st16 nt16 Ht16 Gt16 rfl W17 7 rfl (Nat.le_of_ble_eq_true rfl)
  show Go p e below _ (T17.setTop (mkF m 52 #[.val (.int p0), .unset] [(.ref ob1)]))
  refine Go.of (fun _ k => XS.dup X17.here hx rfl (hb hby d43_52) rfl rfl k) ?_
  refine Go.of (fun _ k => XS.bipush X17.here hx rfl (hb hby d43_53) k) ?_
  refine Go.of (fun _ k => X17.ldc2Long hx hown (mvT hZ (own_h hw 216 rfl)) (g := (mkF m 55 #[.val (.int p0), .unset] [(.int (8 : Int32)), (.ref ob1), (.ref ob1)])) rfl (hb hby d43_55) _ k) ?_
  show Go p e below _ (T17.setTop (mkF m 58 #[.val (.int p0), .unset] [(.long (100000000 : Int64)), (.int (8 : Int32)), (.ref ob1), (.ref ob1)]))
  obtain ⟨clt18, Art18, qt18, st18, nt18, Ht18, Gt18⟩ := id V17
  have hint18 : ¬ ((8 : Int32) < 0 ∨ clt18.slots.size ≤ ((8 : Int32)).toNatClampNeg) := inb_of st18 ⟨by decide, by decide⟩
  obtain ⟨T19, h19, X19, e19, W19, st19⟩ := stJ X17 hx hZ e17 Art18 (j := (8 : Int32)) hint18 (g := (mkF m 58 #[.val (.int p0), .unset] [(.long (100000000 : Int64)), (.int (8 : Int32)), (.ref ob1), (.ref ob1)])) rfl rfl (hb hby d43_58)
  refine Go.of st19 ?_
  have N19 := Fr.snoc X19 N17 g_ob1
  have K19 : Keep h0 h19 [] := (K17).wr W19 (Or.inr sz_ob1)
  have Z19 : n0 ≤ h19.size := Nat.le_trans Z17 (Keep.of_wr W19).1
  have V19 : Arv Z h19 ob1 k1 .long (10 : Int32) [(.long (1 : Int64)), (.long (10 : Int64)), (.long (100 : Int64)), (.long (1000 : Int64)), (.long (10000 : Int64)), (.long (100000 : Int64)), (.long (1000000 : Int64)), (.long (10000000 : Int64)), (.long (100000000 : Int64)), (.long (0 : Int64))] (.long (0 : Int64)) := Arv.set Art18 qt18 st18 nt18 Ht18 Gt18 rfl W19 8 rfl (Nat.le_of_ble_eq_true rfl)
  show Go p e below _ (T19.setTop (mkF m 59 #[.val (.int p0), .unset] [(.ref ob1)]))
  refine Go.of (fun _ k => XS.dup X19.here hx rfl (hb hby d43_59) rfl rfl k) ?_
  refine Go.of (fun _ k => XS.bipush X19.here hx rfl (hb hby d43_60) k) ?_
  refine Go.of (fun _ k => X19.ldc2Long hx hown (mvT hZ (own_h hw 215 rfl)) (g := (mkF m 62 #[.val (.int p0), .unset] [(.int (9 : Int32)), (.ref ob1), (.ref ob1)])) rfl (hb hby d43_62) _ k) ?_
  show Go p e below _ (T19.setTop (mkF m 65 #[.val (.int p0), .unset] [(.long (1000000000 : Int64)), (.int (9 : Int32)), (.ref ob1), (.ref ob1)]))
  obtain ⟨clt20, Art20, qt20, st20, nt20, Ht20, Gt20⟩ := id V19
  have hint20 : ¬ ((9 : Int32) < 0 ∨ clt20.slots.size ≤ ((9 : Int32)).toNatClampNeg) := inb_of st20 ⟨by decide, by decide⟩
  obtain ⟨T21, h21, X21, e21, W21, st21⟩ := stJ X19 hx hZ e19 Art20 (j := (9 : Int32)) hint20 (g := (mkF m 65 #[.val (.int p0), .unset] [(.long (1000000000 : Int64)), (.int (9 : Int32)), (.ref ob1), (.ref ob1)])) rfl rfl (hb hby d43_65)
  refine Go.of st21 ?_
  have N21 := Fr.snoc X21 N19 g_ob1
  have K21 : Keep h0 h21 [] := (K19).wr W21 (Or.inr sz_ob1)
  have Z21 : n0 ≤ h21.size := Nat.le_trans Z19 (Keep.of_wr W21).1
  have V21 : Arv Z h21 ob1 k1 .long (10 : Int32) [(.long (1 : Int64)), (.long (10 : Int64)), (.long (100 : Int64)), (.long (1000 : Int64)), (.long (10000 : Int64)), (.long (100000 : Int64)), (.long (1000000 : Int64)), (.long (10000000 : Int64)), (.long (100000000 : Int64)), (.long (1000000000 : Int64))] (.long (0 : Int64)) := Arv.set Art20 qt20 st20 nt20 Ht20 Gt20 rfl W21 9 rfl (Nat.le_of_ble_eq_true rfl)
  show Go p e below _ (T21.setTop (mkF m 66 #[.val (.int p0), .unset] [(.ref ob1)]))
  refine Go.of (fun _ k => XS.astoreN X21.here hx rfl (hb hby d43_66) rfl rfl (l' := #[.val (.int p0), .val (.ref ob1)]) rfl k) ?_
  show Go p e below _ (T21.setTop (mkF m 67 #[.val (.int p0), .val (.ref ob1)] []))
  refine Go.of (fun _ k => XS.aloadN X21.here hx rfl (hb hby d43_67) rfl rfl k) ?_
  refine Go.of (fun _ k => XS.iloadN X21.here hx rfl (hb hby d43_68) rfl  k) ?_
  obtain ⟨clt22, Art22, qt22, st22, nt22, Ht22, Gt22⟩ := id V21
  have hint22 : ¬ (p0 < 0 ∨ clt22.slots.size ≤ (p0).toNatClampNeg) := inb_of st22 ⟨hlo69, hup69⟩
  refine Go.of (fun _ k => X21.laload hx (j := p0) (v := (.long (own_pow p0))) (by rw [e21]; exact Art22.1) (State.isArrayOf_alike hZ.alike Art22.2.1) Art22.2.2 hint22 (Ht22.at hint22 (own_powat hlo69 hup69)) (g := (mkF m 69 #[.val (.int p0), .val (.ref ob1)] [(.int p0), (.ref ob1)])) rfl rfl (hb hby d43_69) _ k) ?_
  show Go p e below _ (T21.setTop (mkF m 70 #[.val (.int p0), .val (.ref ob1)] [(.long (own_pow p0))]))
  obtain ⟨fs, hr, hrun, hended, hW, hsame⟩ := X21.leave (v := some (.long (own_pow p0))) (fun h => by rw [Bd.returns] at h; cases h)
  refine Go.mk _ _ ?_ hrun hended ⟨_, _, rfl, ?_, ⟨_, rfl⟩, hW, hsame.mono (by decide) (by decide)⟩
  · exact retOut X21 hx Bd.returns rfl (Or.inr (Or.inl ⟨rfl, rfl, _, rfl⟩)) (hb hby d43_70) hr
  · show Q43 Z p0 h0 n0 _ T21.heap _
    rw [e21]
    exact ⟨rfl, N21, K21⟩
def Q7 (Z : State) (o0 : Addr) (z0 : Int32) (vs0 : List Value) (f_o0_value : Addr) (kv : ClassId) (w_COMPACT_STRINGS : Int32) (h0 : Heap) (n0 : Nat) (v : Option Value) (h : Heap) (L : List Loc) : Prop := v = some (.int z0) ∧ Fr n0 L ∧ h = h0
set_option maxRecDepth 65536 in
set_option maxHeartbeats 40000000 in
theorem rm7 (l : Launch) (Z : State) (a0 : Array Value) (hw : ∀ d ∈ tables_1, d.before a0 Z = true) (ws : List Jvm.Cond) (o0 : Addr) (z0 : Int32) (vs0 : List Value) (f_o0_value : Addr) (kv : ClassId) (w_COMPACT_STRINGS : Int32) (h0 : Heap) (n0 : Nat) (Z0 : n0 ≤ h0.size) (F_o0_value : Fld Z h0 o0 "java/lang/String" "value" "[B" (.ref f_o0_value)) (V_f_o0_value : Arv Z h0 f_o0_value kv .byte z0 vs0 (.int (0 : Int32))) (S_COMPACT_STRINGS : Sta Z h0 "java/lang/String" "COMPACT_STRINGS" "Z" (.int w_COMPACT_STRINGS)) (hc3_3 : ¬ (w_COMPACT_STRINGS = (0 : Int32))) (F_o0_coder : Fld Z h0 o0 "java/lang/String" "coder" "B" (.int (0 : Int32))) (E_o0 : Exa Z h0 o0 "java/lang/String") :
    MetFree l (⟨"java/lang/String", "length", "()I"⟩ : MethodName) (head1 (Jvm.Cond.code (⟨"java/lang/String", "length", "()I"⟩ : MethodName) jdk_42_method_54_code 1 (some .int) :: ws) ({ frames := 1, cells := 0, slots := 0, locals := 13 } : Room)) (fun a U => a = #[(.ref o0)] ∧ Z.Warmed39 U.vm ∧ U.heap = h0) (fun _ _ _ _ _ => True) (fun _ U o U' => ∃ v L, o = .returned v ∧ Q7 Z o0 z0 vs0 f_o0_value kv w_COMPACT_STRINGS h0 n0 v U'.heap L ∧ FrameEnd U o U' L ({ frames := 1, cells := 0, slots := 0, locals := 13 } : Room).cells ({ frames := 1, cells := 0, slots := 0, locals := 13 } : Room).slots) := by
  refine MetFree.of_bodySF (plainFor_of_name pn_java_lang_String) hisR ?_
  intro p e s m args below meth c s₁ Bd hml0 hP hK
  obtain ⟨rfl, hZ, hh⟩ := hP
  have hx := Bd.exec
  have hby := Bd.bytes
  have hml : c.maxLocals = 1 := hml0
  have hown : s.vm.findClass "java/lang/String" = some m.cls := findClass_of_methodNamed Bd.named
  have hnm := (name_of_methodNamed Bd.named Bd.method).1
  have X0 : Stand p l e ({ frames := 1, cells := 0, slots := 0, locals := 13 } : Room) s m #[(.ref o0)] below meth c s₁ [] 0 0 := Stand.of_body Bd
  have e0 : s₁.heap = h0 := by rw [← hh, Bd.state]; rfl
  have N0 := Fr.nil n0
  show Go p e below (fun o U' => ∃ v L, o = .returned v ∧ Q7 Z o0 z0 vs0 f_o0_value kv w_COMPACT_STRINGS h0 n0 v U'.heap L ∧ FrameEnd s o U' L ({ frames := 1, cells := 0, slots := 0, locals := 13 } : Room).cells ({ frames := 1, cells := 0, slots := 0, locals := 13 } : Room).slots) (s₁.setTop (entryFrame m #[(.ref o0)] 1))
  refine Go.of (fun _ k => castTop (ef_7 m o0) k) ?_
  show Go p e below _ (s₁.setTop (mkF m 0 #[.val (.ref o0)] []))
  refine Go.of (fun _ k => XS.aloadN X0.here hx rfl (hb hby d7_0) rfl rfl k) ?_
  obtain ⟨T1, X1, e1, st1⟩ := getF X0 hx hZ hown (host := "") (Or.inl (own_h hw 49 rfl)) Via.refl e0 F_o0_value (g := (mkF m 1 #[.val (.ref o0)] [(.ref o0)])) rfl rfl (hb hby d7_1)
  refine Go.of st1 ?_
  show Go p e below _ (T1.setTop (mkF m 4 #[.val (.ref o0)] [(.ref f_o0_value)]))
  obtain ⟨clt2, Art2, qt2, st2, nt2, Ht2, Gt2⟩ := id V_f_o0_value
  refine Go.of (fun _ k => X1.arraylength hx (by rw [e1]; exact Art2.1) (State.isArrayOf_alike hZ.alike Art2.2.1) (g := (mkF m 4 #[.val (.ref o0)] [(.ref f_o0_value)])) rfl rfl (hb hby d7_4) _ k) ?_
  rw [len_of st2 nt2]
  show Go p e below _ (T1.setTop (mkF m 5 #[.val (.ref o0)] [(.int z0)]))
  refine Go.of (fun _ k => XS.aloadN X1.here hx rfl (hb hby d7_5) rfl rfl k) ?_
  obtain ⟨cq3, kq3, q3a, q3b, q3c⟩ := isOf hZ e1 E_o0
  obtain ⟨_, _, ⟨T3, L3, k3, n3⟩, -, X3, ⟨Lc3, hQ3, l3, y3, z3⟩, st3⟩ := X1.virtualBack hx (y := own_y_String_coder_1) (z := own_y_String_coder_1) hown (mvT hZ (own_h hw 50 rfl)) (mvT hZ (own_h hw 51 rfl)) (notFace_of_selects (args := #[]) (mvT hZ (own_h hw 53 rfl))) (mvT hZ (own_h hw 53 rfl)) (mvT hZ (own_h hw 52 rfl)) (by decide) (backOf (W := 1) (rm8 l Z a0 hw [] o0 w_COMPACT_STRINGS h0 n0 Z0 S_COMPACT_STRINGS hc3_3 F_o0_coder) hZ (own_h hw 54 rfl) (own_h hw 22 rfl) (by decide) (by decide)) q3a q3c (g := (mkF m 6 #[.val (.ref o0)] [(.ref o0), (.int z0)])) rfl (by rw [hml]; rfl) (Steps.refl _) (argsL := []) (rest := [(.int z0)]) (lenOf pd_1 rfl) rfl (Nat.le_of_eq rfl) (hb hby d7_6) (fun _ _ => ⟨rfl, e1, (by decide : 0 + 0 ≤ _), (by decide : 0 + 0 ≤ _)⟩)
  dsimp only [Pt.U, Pt.locs, Pt.cells, Pt.slots] at X3 l3 y3 z3 st3 hQ3
  subst l3 y3 z3
  obtain ⟨rfl, Nq3, q3_0⟩ := hQ3
  have N3 := Fr.app N0 Nq3
  refine Go.tr st3 ?_
  show Go p e below _ (T3.setTop (mkF m 9 #[.val (.ref o0)] [(.int (0 : Int32)), (.int z0)]))
  refine Go.of (fun _ k => XS.ishr X3.here hx rfl (hb hby d7_9) rfl k) ?_
  show Go p e below _ (T3.setTop (mkF m 10 #[.val (.ref o0)] [(.int (z0 >>> ((0 : Int32) &&& 31)))]))
  rw [own_ishr0]
  show Go p e below _ (T3.setTop (mkF m 10 #[.val (.ref o0)] [(.int z0)]))
  obtain ⟨fs, hr, hrun, hended, hW, hsame⟩ := X3.leave (v := some (.int z0)) (fun h => by rw [Bd.returns] at h; cases h)
  refine Go.mk _ _ ?_ hrun hended ⟨_, _, rfl, ?_, ⟨_, rfl⟩, hW, hsame.mono (by decide) (by decide)⟩
  · exact retI X3 hx Bd.returns (hb hby d7_10) hr
  · show Q7 Z o0 z0 vs0 f_o0_value kv w_COMPACT_STRINGS h0 n0 _ T3.heap _
    rw [q3_0]
    exact ⟨rfl, N3, rfl⟩
theorem d41_0 : decode jdk_41_method_11_code 0 = .ok (.iload_n 0, 1) := by decide +kernel
theorem d41_1 : decode jdk_41_method_11_code 1 = .ok (.ifCond .lt 8, 3) := by decide +kernel
theorem d41_4 : decode jdk_41_method_11_code 4 = .ok (.iload_n 0, 1) := by decide +kernel
theorem d41_5 : decode jdk_41_method_11_code 5 = .ok (.iload_n 1, 1) := by decide +kernel
theorem d41_6 : decode jdk_41_method_11_code 6 = .ok (.if_icmp .lt 10, 3) := by decide +kernel
theorem d41_16 : decode jdk_41_method_11_code 16 = .ok (.iload_n 0, 1) := by decide +kernel
theorem d41_17 : decode jdk_41_method_11_code 17 = .ok (.ireturn, 1) := by decide +kernel
theorem pn_jdk_internal_util_Preconditions : plainName "jdk/internal/util/Preconditions" = true := by first | (simp [plainName, overriddenIn]; done) | decide +kernel
theorem ef_41 (m : MethodId) (x0 : Int32) (x1 : Int32) (x2 : Addr) : entryFrame m #[(.int x0), (.int x1), (.ref x2)] 3 = mkF m 0 #[.val (.int x0), .val (.int x1), .val (.ref x2)] [] := by first | (simp [entryFrame, mkF, argsToLocals, Value.category]; done) | rfl
def Q41_r (Z : State) (p0 : Int32) (p1 : Int32) (o2 : Addr) (h0 : Heap) (n0 : Nat) (v : Option Value) (h : Heap) (L : List Loc) : Prop := v = some (.int p0) ∧ Fr n0 L ∧ h = h0
set_option maxRecDepth 65536 in
set_option maxHeartbeats 40000000 in
theorem rm41_r (l : Launch) (Z : State) (a0 : Array Value) (hw : ∀ d ∈ tables_1, d.before a0 Z = true) (ws : List Jvm.Cond) (p0 : Int32) (p1 : Int32) (o2 : Addr) (h0 : Heap) (n0 : Nat) (Z0 : n0 ≤ h0.size) (hc1 : ¬ (p0 < (0 : Int32))) (hc6 : p0 < p1) :
    MetFree l (⟨"jdk/internal/util/Preconditions", "checkIndex", "(IILjava/util/function/BiFunction;)I"⟩ : MethodName) (head1 (Jvm.Cond.code (⟨"jdk/internal/util/Preconditions", "checkIndex", "(IILjava/util/function/BiFunction;)I"⟩ : MethodName) jdk_41_method_11_code 3 (some .int) :: ws) ({ frames := 0, cells := 0, slots := 0, locals := 0 } : Room)) (fun a U => a = #[(.int p0), (.int p1), (.ref o2)] ∧ Z.Warmed39 U.vm ∧ U.heap = h0) (fun _ _ _ _ _ => True) (fun _ U o U' => ∃ v L, o = .returned v ∧ Q41_r Z p0 p1 o2 h0 n0 v U'.heap L ∧ FrameEnd U o U' L ({ frames := 0, cells := 0, slots := 0, locals := 0 } : Room).cells ({ frames := 0, cells := 0, slots := 0, locals := 0 } : Room).slots) := by
  refine MetFree.of_bodySF (plainFor_of_name pn_jdk_internal_util_Preconditions) hisR ?_
  intro p e s m args below meth c s₁ Bd hml0 hP hK
  obtain ⟨rfl, hZ, hh⟩ := hP
  have hx := Bd.exec
  have hby := Bd.bytes
  have hml : c.maxLocals = 3 := hml0
  have hown : s.vm.findClass "jdk/internal/util/Preconditions" = some m.cls := findClass_of_methodNamed Bd.named
  have hnm := (name_of_methodNamed Bd.named Bd.method).1
  have X0 : Stand p l e ({ frames := 0, cells := 0, slots := 0, locals := 0 } : Room) s m #[(.int p0), (.int p1), (.ref o2)] below meth c s₁ [] 0 0 := Stand.of_body Bd
  have e0 : s₁.heap = h0 := by rw [← hh, Bd.state]; rfl
  have N0 := Fr.nil n0
  show Go p e below (fun o U' => ∃ v L, o = .returned v ∧ Q41_r Z p0 p1 o2 h0 n0 v U'.heap L ∧ FrameEnd s o U' L ({ frames := 0, cells := 0, slots := 0, locals := 0 } : Room).cells ({ frames := 0, cells := 0, slots := 0, locals := 0 } : Room).slots) (s₁.setTop (entryFrame m #[(.int p0), (.int p1), (.ref o2)] 3))
  refine Go.of (fun _ k => castTop (ef_41 m p0 p1 o2) k) ?_
  show Go p e below _ (s₁.setTop (mkF m 0 #[.val (.int p0), .val (.int p1), .val (.ref o2)] []))
  refine Go.of (fun _ k => XS.iloadN X0.here hx rfl (hb hby d41_0) rfl  k) ?_
  refine Go.of (fun _ k => XS.ifNo X0.here hx rfl (hb hby d41_1) rfl ((if0 _ _).trans (flt hc1).1) k) ?_
  show Go p e below _ (s₁.setTop (mkF m 4 #[.val (.int p0), .val (.int p1), .val (.ref o2)] []))
  refine Go.of (fun _ k => XS.iloadN X0.here hx rfl (hb hby d41_4) rfl  k) ?_
  refine Go.of (fun _ k => XS.iloadN X0.here hx rfl (hb hby d41_5) rfl  k) ?_
  refine Go.of (fun _ k => XS.icmpYes X0.here hx rfl (pc0 := 6) (pc' := 16) rfl (hb hby d41_6) rfl (tlt hc6).1 (by decide) (by decide) k) ?_
  show Go p e below _ (s₁.setTop (mkF m 16 #[.val (.int p0), .val (.int p1), .val (.ref o2)] []))
  refine Go.of (fun _ k => XS.iloadN X0.here hx rfl (hb hby d41_16) rfl  k) ?_
  obtain ⟨fs, hr, hrun, hended, hW, hsame⟩ := X0.leave (v := some (.int p0)) (fun h => by rw [Bd.returns] at h; cases h)
  refine Go.mk _ _ ?_ hrun hended ⟨_, _, rfl, ?_, ⟨_, rfl⟩, hW, hsame.mono (by decide) (by decide)⟩
  · exact retI X0 hx Bd.returns (hb hby d41_17) hr
  · show Q41_r Z p0 p1 o2 h0 n0 _ s₁.heap _
    rw [e0]
    exact ⟨rfl, N0, rfl⟩
theorem ef_41n3 (m : MethodId) (x0 : Int32) (x1 : Int32) : entryFrame m #[(.int x0), (.int x1), .null] 3 = mkF m 0 #[.val (.int x0), .val (.int x1), .val .null] [] := by first | (simp [entryFrame, mkF, argsToLocals, Value.category]; done) | rfl
def Q41_n (Z : State) (p0 : Int32) (p1 : Int32) (h0 : Heap) (n0 : Nat) (v : Option Value) (h : Heap) (L : List Loc) : Prop := v = some (.int p0) ∧ Fr n0 L ∧ h = h0
set_option maxRecDepth 65536 in
set_option maxHeartbeats 40000000 in
theorem rm41_n (l : Launch) (Z : State) (a0 : Array Value) (hw : ∀ d ∈ tables_1, d.before a0 Z = true) (ws : List Jvm.Cond) (p0 : Int32) (p1 : Int32) (h0 : Heap) (n0 : Nat) (Z0 : n0 ≤ h0.size) (hc1 : ¬ (p0 < (0 : Int32))) (hc6 : p0 < p1) :
    MetFree l (⟨"jdk/internal/util/Preconditions", "checkIndex", "(IILjava/util/function/BiFunction;)I"⟩ : MethodName) (head1 (Jvm.Cond.code (⟨"jdk/internal/util/Preconditions", "checkIndex", "(IILjava/util/function/BiFunction;)I"⟩ : MethodName) jdk_41_method_11_code 3 (some .int) :: ws) ({ frames := 0, cells := 0, slots := 0, locals := 0 } : Room)) (fun a U => a = #[(.int p0), (.int p1), .null] ∧ Z.Warmed39 U.vm ∧ U.heap = h0) (fun _ _ _ _ _ => True) (fun _ U o U' => ∃ v L, o = .returned v ∧ Q41_n Z p0 p1 h0 n0 v U'.heap L ∧ FrameEnd U o U' L ({ frames := 0, cells := 0, slots := 0, locals := 0 } : Room).cells ({ frames := 0, cells := 0, slots := 0, locals := 0 } : Room).slots) := by
  refine MetFree.of_bodySF (plainFor_of_name pn_jdk_internal_util_Preconditions) hisR ?_
  intro p e s m args below meth c s₁ Bd hml0 hP hK
  obtain ⟨rfl, hZ, hh⟩ := hP
  have hx := Bd.exec
  have hby := Bd.bytes
  have hml : c.maxLocals = 3 := hml0
  have hown : s.vm.findClass "jdk/internal/util/Preconditions" = some m.cls := findClass_of_methodNamed Bd.named
  have hnm := (name_of_methodNamed Bd.named Bd.method).1
  have X0 : Stand p l e ({ frames := 0, cells := 0, slots := 0, locals := 0 } : Room) s m #[(.int p0), (.int p1), .null] below meth c s₁ [] 0 0 := Stand.of_body Bd
  have e0 : s₁.heap = h0 := by rw [← hh, Bd.state]; rfl
  have N0 := Fr.nil n0
  show Go p e below (fun o U' => ∃ v L, o = .returned v ∧ Q41_n Z p0 p1 h0 n0 v U'.heap L ∧ FrameEnd s o U' L ({ frames := 0, cells := 0, slots := 0, locals := 0 } : Room).cells ({ frames := 0, cells := 0, slots := 0, locals := 0 } : Room).slots) (s₁.setTop (entryFrame m #[(.int p0), (.int p1), .null] 3))
  refine Go.of (fun _ k => castTop (ef_41n3 m p0 p1) k) ?_
  show Go p e below _ (s₁.setTop (mkF m 0 #[.val (.int p0), .val (.int p1), .val .null] []))
  refine Go.of (fun _ k => XS.iloadN X0.here hx rfl (hb hby d41_0) rfl  k) ?_
  refine Go.of (fun _ k => XS.ifNo X0.here hx rfl (hb hby d41_1) rfl ((if0 _ _).trans (flt hc1).1) k) ?_
  show Go p e below _ (s₁.setTop (mkF m 4 #[.val (.int p0), .val (.int p1), .val .null] []))
  refine Go.of (fun _ k => XS.iloadN X0.here hx rfl (hb hby d41_4) rfl  k) ?_
  refine Go.of (fun _ k => XS.iloadN X0.here hx rfl (hb hby d41_5) rfl  k) ?_
  refine Go.of (fun _ k => XS.icmpYes X0.here hx rfl (pc0 := 6) (pc' := 16) rfl (hb hby d41_6) rfl (tlt hc6).1 (by decide) (by decide) k) ?_
  show Go p e below _ (s₁.setTop (mkF m 16 #[.val (.int p0), .val (.int p1), .val .null] []))
  refine Go.of (fun _ k => XS.iloadN X0.here hx rfl (hb hby d41_16) rfl  k) ?_
  obtain ⟨fs, hr, hrun, hended, hW, hsame⟩ := X0.leave (v := some (.int p0)) (fun h => by rw [Bd.returns] at h; cases h)
  refine Go.mk _ _ ?_ hrun hended ⟨_, _, rfl, ?_, ⟨_, rfl⟩, hW, hsame.mono (by decide) (by decide)⟩
  · exact retI X0 hx Bd.returns (hb hby d41_17) hr
  · show Q41_n Z p0 p1 h0 n0 _ s₁.heap _
    rw [e0]
    exact ⟨rfl, N0, rfl⟩
theorem d40_0 : decode jdk_42_method_155_code 0 = .ok (.iload_n 0, 1) := by decide +kernel
theorem d40_1 : decode jdk_42_method_155_code 1 = .ok (.iload_n 1, 1) := by decide +kernel
theorem d40_2 : decode jdk_42_method_155_code 2 = .ok (.getstatic 1053, 3) := by decide +kernel
theorem d40_5 : decode jdk_42_method_155_code 5 = .ok (.invokestatic 1059, 3) := by decide +kernel
theorem pd_24 : parseMethodDescriptor "(IILjava/util/function/BiFunction;)I" = some ⟨[.int, .int, (.object "java/util/function/BiFunction")], some .int⟩ := by decide +kernel
abbrev own_y_Preconditions_checkIndex_30 : MethodName := ⟨"jdk/internal/util/Preconditions", "checkIndex", "(IILjava/util/function/BiFunction;)I"⟩
theorem d40_8 : decode jdk_42_method_155_code 8 = .ok (.pop, 1) := by decide +kernel
theorem d40_9 : decode jdk_42_method_155_code 9 = .ok (.return_, 1) := by decide +kernel
theorem ef_40 (m : MethodId) (x0 : Int32) (x1 : Int32) : entryFrame m #[(.int x0), (.int x1)] 2 = mkF m 0 #[.val (.int x0), .val (.int x1)] [] := by first | (simp [entryFrame, mkF, argsToLocals, Value.category]; done) | rfl
def Q40 (Z : State) (p0 : Int32) (p1 : Int32) (v_SIOOBE_FORMATTER : Value) (h0 : Heap) (n0 : Nat) (v : Option Value) (h : Heap) (L : List Loc) : Prop := v = none ∧ Fr n0 L ∧ h = h0
set_option maxRecDepth 65536 in
set_option maxHeartbeats 40000000 in
theorem rm40 (l : Launch) (Z : State) (a0 : Array Value) (hw : ∀ d ∈ tables_1, d.before a0 Z = true) (ws : List Jvm.Cond) (p0 : Int32) (p1 : Int32) (v_SIOOBE_FORMATTER : Value) (h0 : Heap) (n0 : Nat) (Z0 : n0 ≤ h0.size) (S_SIOOBE_FORMATTER : Sta Z h0 "jdk/internal/util/Preconditions" "SIOOBE_FORMATTER" "Ljava/util/function/BiFunction;" v_SIOOBE_FORMATTER) (hr_v_SIOOBE_FORMATTER : v_SIOOBE_FORMATTER.isRef = true) (hc1_4 : ¬ (p0 < (0 : Int32))) (hc6_4 : p0 < p1) :
    MetFree l (⟨"java/lang/String", "checkIndex", "(II)V"⟩ : MethodName) (head1 (Jvm.Cond.code (⟨"java/lang/String", "checkIndex", "(II)V"⟩ : MethodName) jdk_42_method_155_code 2 none :: ws) ({ frames := 1, cells := 0, slots := 0, locals := 14 } : Room)) (fun a U => a = #[(.int p0), (.int p1)] ∧ Z.Warmed39 U.vm ∧ U.heap = h0) (fun _ _ _ _ _ => True) (fun _ U o U' => ∃ v L, o = .returned v ∧ Q40 Z p0 p1 v_SIOOBE_FORMATTER h0 n0 v U'.heap L ∧ FrameEnd U o U' L ({ frames := 1, cells := 0, slots := 0, locals := 14 } : Room).cells ({ frames := 1, cells := 0, slots := 0, locals := 14 } : Room).slots) := by
  refine MetFree.of_bodySF (plainFor_of_name pn_java_lang_String) hisR ?_
  intro p e s m args below meth c s₁ Bd hml0 hP hK
  obtain ⟨rfl, hZ, hh⟩ := hP
  have hx := Bd.exec
  have hby := Bd.bytes
  have hml : c.maxLocals = 2 := hml0
  have hown : s.vm.findClass "java/lang/String" = some m.cls := findClass_of_methodNamed Bd.named
  have hnm := (name_of_methodNamed Bd.named Bd.method).1
  have X0 : Stand p l e ({ frames := 1, cells := 0, slots := 0, locals := 14 } : Room) s m #[(.int p0), (.int p1)] below meth c s₁ [] 0 0 := Stand.of_body Bd
  have e0 : s₁.heap = h0 := by rw [← hh, Bd.state]; rfl
  have N0 := Fr.nil n0
  show Go p e below (fun o U' => ∃ v L, o = .returned v ∧ Q40 Z p0 p1 v_SIOOBE_FORMATTER h0 n0 v U'.heap L ∧ FrameEnd s o U' L ({ frames := 1, cells := 0, slots := 0, locals := 14 } : Room).cells ({ frames := 1, cells := 0, slots := 0, locals := 14 } : Room).slots) (s₁.setTop (entryFrame m #[(.int p0), (.int p1)] 2))
  refine Go.of (fun _ k => castTop (ef_40 m p0 p1) k) ?_
  show Go p e below _ (s₁.setTop (mkF m 0 #[.val (.int p0), .val (.int p1)] []))
  refine Go.of (fun _ k => XS.iloadN X0.here hx rfl (hb hby d40_0) rfl  k) ?_
  refine Go.of (fun _ k => XS.iloadN X0.here hx rfl (hb hby d40_1) rfl  k) ?_
  rcases ref_cases hr_v_SIOOBE_FORMATTER with hv1 | ⟨w_hv1, hv1⟩
  ·
    have S2 : Sta Z h0 "jdk/internal/util/Preconditions" "SIOOBE_FORMATTER" "Ljava/util/function/BiFunction;" .null := hv1 ▸ S_SIOOBE_FORMATTER
    show Go p e below _ (s₁.setTop (mkF m 2 #[.val (.int p0), .val (.int p1)] [(.int p1), (.int p0)]))
    obtain ⟨T3, X3, e3, st3⟩ := getS2 X0 hx hZ hown (host := "") (Or.inl (own_h hw 245 rfl)) Via.refl e0 S2 (g := (mkF m 2 #[.val (.int p0), .val (.int p1)] [(.int p1), (.int p0)])) rfl (hb hby d40_2)
    refine Go.of st3 ?_
    show Go p e below _ (T3.setTop (mkF m 5 #[.val (.int p0), .val (.int p1)] [.null, (.int p1), (.int p0)]))
    obtain ⟨_, _, ⟨T4, L4, k4, n4⟩, -, X4, ⟨Lc4, hQ4, l4, y4, z4⟩, st4⟩ := Jvm.LawKit.callS X3 hx (y := own_y_Preconditions_checkIndex_30) hown (mvT hZ (own_h hw 247 rfl)) (mvT hZ (own_h hw 248 rfl)) (mvT hZ (own_h hw 246 rfl)) (mvT hZ (own_h hw 249 rfl)) (by decide) (backOf (W := 0) (rm41_n l Z a0 hw [] p0 p1 h0 n0 Z0 hc1_4 hc6_4) hZ (own_h hw 249 rfl) (own_h hw 246 rfl) (by decide) (by decide)) (g := (mkF m 5 #[.val (.int p0), .val (.int p1)] [.null, (.int p1), (.int p0)])) rfl (by rw [hml]; rfl) (argsL := [(.int p0), (.int p1), .null]) (rest := []) (lenOf pd_24 rfl) rfl (Nat.le_of_eq rfl) (hb hby d40_5) (fun _ _ => ⟨rfl, e3, (by decide : 0 + 0 ≤ _), (by decide : 0 + 0 ≤ _)⟩)
    dsimp only [Pt.U, Pt.locs, Pt.cells, Pt.slots] at X4 l4 y4 z4 st4 hQ4
    subst l4 y4 z4
    obtain ⟨rfl, Nq4, q4_0⟩ := hQ4
    have N4 := Fr.app N0 Nq4
    refine Go.of st4 ?_
    show Go p e below _ (T4.setTop (mkF m 8 #[.val (.int p0), .val (.int p1)] [(.int p0)]))
    refine Go.of (fun _ k => XS.pop X4.here hx rfl (hb hby d40_8) rfl rfl k) ?_
    show Go p e below _ (T4.setTop (mkF m 9 #[.val (.int p0), .val (.int p1)] []))
    obtain ⟨fs, hr, hrun, hended, hW, hsame⟩ := X4.leave (v := none) (fun _ => rfl)
    refine Go.mk _ _ ?_ hrun hended ⟨_, _, rfl, ?_, ⟨_, rfl⟩, hW, hsame.mono (by decide) (by decide)⟩
    · exact X4.returnOut hx Bd.returns (hb hby d40_9) hr
    · show Q40 Z p0 p1 v_SIOOBE_FORMATTER h0 n0 _ T4.heap _
      rw [q4_0]
      exact ⟨rfl, N4, rfl⟩
  ·
    have S6 : Sta Z h0 "jdk/internal/util/Preconditions" "SIOOBE_FORMATTER" "Ljava/util/function/BiFunction;" (.ref w_hv1) := hv1 ▸ S_SIOOBE_FORMATTER
    show Go p e below _ (s₁.setTop (mkF m 2 #[.val (.int p0), .val (.int p1)] [(.int p1), (.int p0)]))
    obtain ⟨T7, X7, e7, st7⟩ := getS2 X0 hx hZ hown (host := "") (Or.inl (own_h hw 245 rfl)) Via.refl e0 S6 (g := (mkF m 2 #[.val (.int p0), .val (.int p1)] [(.int p1), (.int p0)])) rfl (hb hby d40_2)
    refine Go.of st7 ?_
    show Go p e below _ (T7.setTop (mkF m 5 #[.val (.int p0), .val (.int p1)] [(.ref w_hv1), (.int p1), (.int p0)]))
    obtain ⟨_, _, ⟨T8, L8, k8, n8⟩, -, X8, ⟨Lc8, hQ8, l8, y8, z8⟩, st8⟩ := Jvm.LawKit.callS X7 hx (y := own_y_Preconditions_checkIndex_30) hown (mvT hZ (own_h hw 247 rfl)) (mvT hZ (own_h hw 248 rfl)) (mvT hZ (own_h hw 246 rfl)) (mvT hZ (own_h hw 249 rfl)) (by decide) (backOf (W := 0) (rm41_r l Z a0 hw [] p0 p1 w_hv1 h0 n0 Z0 hc1_4 hc6_4) hZ (own_h hw 249 rfl) (own_h hw 246 rfl) (by decide) (by decide)) (g := (mkF m 5 #[.val (.int p0), .val (.int p1)] [(.ref w_hv1), (.int p1), (.int p0)])) rfl (by rw [hml]; rfl) (argsL := [(.int p0), (.int p1), (.ref w_hv1)]) (rest := []) (lenOf pd_24 rfl) rfl (Nat.le_of_eq rfl) (hb hby d40_5) (fun _ _ => ⟨rfl, e7, (by decide : 0 + 0 ≤ _), (by decide : 0 + 0 ≤ _)⟩)
    dsimp only [Pt.U, Pt.locs, Pt.cells, Pt.slots] at X8 l8 y8 z8 st8 hQ8
    subst l8 y8 z8
    obtain ⟨rfl, Nq8, q8_0⟩ := hQ8
    have N8 := Fr.app N0 Nq8
    refine Go.of st8 ?_
    show Go p e below _ (T8.setTop (mkF m 8 #[.val (.int p0), .val (.int p1)] [(.int p0)]))
    refine Go.of (fun _ k => XS.pop X8.here hx rfl (hb hby d40_8) rfl rfl k) ?_
    show Go p e below _ (T8.setTop (mkF m 9 #[.val (.int p0), .val (.int p1)] []))
    obtain ⟨fs, hr, hrun, hended, hW, hsame⟩ := X8.leave (v := none) (fun _ => rfl)
    refine Go.mk _ _ ?_ hrun hended ⟨_, _, rfl, ?_, ⟨_, rfl⟩, hW, hsame.mono (by decide) (by decide)⟩
    · exact X8.returnOut hx Bd.returns (hb hby d40_9) hr
    · show Q40 Z p0 p1 v_SIOOBE_FORMATTER h0 n0 _ T8.heap _
      rw [q8_0]
      exact ⟨rfl, N8, rfl⟩
theorem d38_0 : decode jdk_42_method_154_code 0 = .ok (.getstatic 38, 3) := by decide +kernel
theorem d38_3 : decode jdk_42_method_154_code 3 = .ok (.ifCond .eq 14, 3) := by decide +kernel
theorem d38_6 : decode jdk_42_method_154_code 6 = .ok (.aload_n 0, 1) := by decide +kernel
theorem d38_7 : decode jdk_42_method_154_code 7 = .ok (.getfield 15, 3) := by decide +kernel
theorem d38_10 : decode jdk_42_method_154_code 10 = .ok (.ifCond .ne 7, 3) := by decide +kernel
theorem d38_13 : decode jdk_42_method_154_code 13 = .ok (.iconst 1, 1) := by decide +kernel
theorem d38_14 : decode jdk_42_method_154_code 14 = .ok (.goto 4, 3) := by decide +kernel
theorem d38_18 : decode jdk_42_method_154_code 18 = .ok (.ireturn, 1) := by decide +kernel
theorem ef_38 (m : MethodId) (x0 : Addr) : entryFrame m #[(.ref x0)] 1 = mkF m 0 #[.val (.ref x0)] [] := by first | (simp [entryFrame, mkF, argsToLocals, Value.category]; done) | rfl
def Q38 (Z : State) (o0 : Addr) (w_COMPACT_STRINGS : Int32) (h0 : Heap) (n0 : Nat) (v : Option Value) (h : Heap) (L : List Loc) : Prop := v = some (.int (1 : Int32)) ∧ Fr n0 L ∧ h = h0
set_option maxRecDepth 65536 in
set_option maxHeartbeats 40000000 in
theorem rm38 (l : Launch) (Z : State) (a0 : Array Value) (hw : ∀ d ∈ tables_1, d.before a0 Z = true) (ws : List Jvm.Cond) (o0 : Addr) (w_COMPACT_STRINGS : Int32) (h0 : Heap) (n0 : Nat) (Z0 : n0 ≤ h0.size) (S_COMPACT_STRINGS : Sta Z h0 "java/lang/String" "COMPACT_STRINGS" "Z" (.int w_COMPACT_STRINGS)) (hc3 : ¬ (w_COMPACT_STRINGS = (0 : Int32))) (F_o0_coder : Fld Z h0 o0 "java/lang/String" "coder" "B" (.int (0 : Int32))) :
    MetFree l (⟨"java/lang/String", "isLatin1", "()Z"⟩ : MethodName) (head1 (Jvm.Cond.code (⟨"java/lang/String", "isLatin1", "()Z"⟩ : MethodName) jdk_42_method_154_code 1 (some .boolean) :: ws) ({ frames := 0, cells := 0, slots := 0, locals := 0 } : Room)) (fun a U => a = #[(.ref o0)] ∧ Z.Warmed39 U.vm ∧ U.heap = h0) (fun _ _ _ _ _ => True) (fun _ U o U' => ∃ v L, o = .returned v ∧ Q38 Z o0 w_COMPACT_STRINGS h0 n0 v U'.heap L ∧ FrameEnd U o U' L ({ frames := 0, cells := 0, slots := 0, locals := 0 } : Room).cells ({ frames := 0, cells := 0, slots := 0, locals := 0 } : Room).slots) := by
  refine MetFree.of_bodySF (plainFor_of_name pn_java_lang_String) hisR ?_
  intro p e s m args below meth c s₁ Bd hml0 hP hK
  obtain ⟨rfl, hZ, hh⟩ := hP
  have hx := Bd.exec
  have hby := Bd.bytes
  have hml : c.maxLocals = 1 := hml0
  have hown : s.vm.findClass "java/lang/String" = some m.cls := findClass_of_methodNamed Bd.named
  have hnm := (name_of_methodNamed Bd.named Bd.method).1
  have X0 : Stand p l e ({ frames := 0, cells := 0, slots := 0, locals := 0 } : Room) s m #[(.ref o0)] below meth c s₁ [] 0 0 := Stand.of_body Bd
  have e0 : s₁.heap = h0 := by rw [← hh, Bd.state]; rfl
  have N0 := Fr.nil n0
  show Go p e below (fun o U' => ∃ v L, o = .returned v ∧ Q38 Z o0 w_COMPACT_STRINGS h0 n0 v U'.heap L ∧ FrameEnd s o U' L ({ frames := 0, cells := 0, slots := 0, locals := 0 } : Room).cells ({ frames := 0, cells := 0, slots := 0, locals := 0 } : Room).slots) (s₁.setTop (entryFrame m #[(.ref o0)] 1))
  refine Go.of (fun _ k => castTop (ef_38 m o0) k) ?_
  show Go p e below _ (s₁.setTop (mkF m 0 #[.val (.ref o0)] []))
  obtain ⟨T1, X1, e1, st1⟩ := getS2 X0 hx hZ hown (host := "") (Or.inl (own_h hw 55 rfl)) Via.refl e0 S_COMPACT_STRINGS (g := (mkF m 0 #[.val (.ref o0)] [])) rfl (hb hby d38_0)
  refine Go.of st1 ?_
  show Go p e below _ (T1.setTop (mkF m 3 #[.val (.ref o0)] [(.int w_COMPACT_STRINGS)]))
  refine Go.of (fun _ k => XS.ifNo X1.here hx rfl (hb hby d38_3) rfl ((if0 _ _).trans (feq hc3).1) k) ?_
  show Go p e below _ (T1.setTop (mkF m 6 #[.val (.ref o0)] []))
  refine Go.of (fun _ k => XS.aloadN X1.here hx rfl (hb hby d38_6) rfl rfl k) ?_
  obtain ⟨T2, X2, e2, st2⟩ := getF X1 hx hZ hown (host := "") (Or.inl (own_h hw 56 rfl)) Via.refl e1 F_o0_coder (g := (mkF m 7 #[.val (.ref o0)] [(.ref o0)])) rfl rfl (hb hby d38_7)
  refine Go.of st2 ?_
  show Go p e below _ (T2.setTop (mkF m 10 #[.val (.ref o0)] [(.int (0 : Int32))]))
  refine Go.of (fun _ k => XS.ifNo X2.here hx rfl (hb hby d38_10) rfl ((if0 _ _).trans (teq (by decide : (0 : Int32) = (0 : Int32))).2) k) ?_
  show Go p e below _ (T2.setTop (mkF m 13 #[.val (.ref o0)] []))
  refine Go.of (fun _ k => XS.iconst X2.here hx rfl (hb hby d38_13) k) ?_
  refine Go.of (fun _ k => XS.goto X2.here hx rfl (pc0 := 14) (pc' := 18) rfl (hb hby d38_14) (by decide) (by decide) k) ?_
  show Go p e below _ (T2.setTop (mkF m 18 #[.val (.ref o0)] [(.int (1 : Int32))]))
  obtain ⟨fs, hr, hrun, hended, hW, hsame⟩ := X2.leave (v := some (.int (1 : Int32))) (fun h => by rw [Bd.returns] at h; cases h)
  refine Go.mk _ _ ?_ hrun hended ⟨_, _, rfl, ?_, ⟨_, rfl⟩, hW, hsame.mono (by decide) (by decide)⟩
  · exact retN X2 hx (t := .boolean) Bd.returns (by simp) (hb hby d38_18) hr
  · show Q38 Z o0 w_COMPACT_STRINGS h0 n0 _ T2.heap _
    rw [e2]
    exact ⟨rfl, N0, rfl⟩
theorem d39_0 : decode jdk_43_method_2_code 0 = .ok (.iload_n 1, 1) := by decide +kernel
theorem d39_1 : decode jdk_43_method_2_code 1 = .ok (.aload_n 0, 1) := by decide +kernel
theorem d39_2 : decode jdk_43_method_2_code 2 = .ok (.arraylength, 1) := by decide +kernel
theorem d39_3 : decode jdk_43_method_2_code 3 = .ok (.invokestatic 9, 3) := by decide +kernel
abbrev own_y_String_checkIndex_31 : MethodName := ⟨"java/lang/String", "checkIndex", "(II)V"⟩
theorem d39_6 : decode jdk_43_method_2_code 6 = .ok (.aload_n 0, 1) := by decide +kernel
theorem d39_7 : decode jdk_43_method_2_code 7 = .ok (.iload_n 1, 1) := by decide +kernel
theorem d39_8 : decode jdk_43_method_2_code 8 = .ok (.baload, 1) := by decide +kernel
theorem d39_9 : decode jdk_43_method_2_code 9 = .ok (.sipush 255, 3) := by decide +kernel
theorem d39_12 : decode jdk_43_method_2_code 12 = .ok (.iand, 1) := by decide +kernel
theorem d39_13 : decode jdk_43_method_2_code 13 = .ok (.i2c, 1) := by decide +kernel
theorem d39_14 : decode jdk_43_method_2_code 14 = .ok (.ireturn, 1) := by decide +kernel
theorem pn_java_lang_StringLatin1 : plainName "java/lang/StringLatin1" = true := by first | (simp [plainName, overriddenIn]; done) | decide +kernel
theorem ef_39 (m : MethodId) (x0 : Addr) (x1 : Int32) : entryFrame m #[(.ref x0), (.int x1)] 2 = mkF m 0 #[.val (.ref x0), .val (.int x1)] [] := by first | (simp [entryFrame, mkF, argsToLocals, Value.category]; done) | rfl
def Q39 (Z : State) (o0 : Addr) (p1 : Int32) (z0 : Int32) (vs0 : List Value) (kv : ClassId) (v_SIOOBE_FORMATTER : Value) (e8 : Int32) (h0 : Heap) (n0 : Nat) (v : Option Value) (h : Heap) (L : List Loc) : Prop := v = some (.int (nar .char ((e8 &&& (255 : Int32)).toUInt32.toUInt16.toUInt32.toInt32))) ∧ Fr n0 L ∧ h = h0
set_option maxRecDepth 65536 in
set_option maxHeartbeats 40000000 in
theorem rm39 (l : Launch) (Z : State) (a0 : Array Value) (hw : ∀ d ∈ tables_1, d.before a0 Z = true) (ws : List Jvm.Cond) (o0 : Addr) (p1 : Int32) (z0 : Int32) (vs0 : List Value) (kv : ClassId) (v_SIOOBE_FORMATTER : Value) (e8 : Int32) (h0 : Heap) (n0 : Nat) (Z0 : n0 ≤ h0.size) (V_o0 : Arv Z h0 o0 kv .byte z0 vs0 (.int (0 : Int32))) (S_SIOOBE_FORMATTER : Sta Z h0 "jdk/internal/util/Preconditions" "SIOOBE_FORMATTER" "Ljava/util/function/BiFunction;" v_SIOOBE_FORMATTER) (hr_v_SIOOBE_FORMATTER : v_SIOOBE_FORMATTER.isRef = true) (hc1_4_2 : ¬ (p1 < (0 : Int32))) (hc6_4_2 : p1 < z0) (hat8 : vs0.getD (p1).toNatClampNeg (.int (0 : Int32)) = (.int e8)) :
    MetFree l (⟨"java/lang/StringLatin1", "charAt", "([BI)C"⟩ : MethodName) (head1 (Jvm.Cond.code (⟨"java/lang/StringLatin1", "charAt", "([BI)C"⟩ : MethodName) jdk_43_method_2_code 2 (some .char) :: ws) ({ frames := 2, cells := 0, slots := 0, locals := 27 } : Room)) (fun a U => a = #[(.ref o0), (.int p1)] ∧ Z.Warmed39 U.vm ∧ U.heap = h0) (fun _ _ _ _ _ => True) (fun _ U o U' => ∃ v L, o = .returned v ∧ Q39 Z o0 p1 z0 vs0 kv v_SIOOBE_FORMATTER e8 h0 n0 v U'.heap L ∧ FrameEnd U o U' L ({ frames := 2, cells := 0, slots := 0, locals := 27 } : Room).cells ({ frames := 2, cells := 0, slots := 0, locals := 27 } : Room).slots) := by
  refine MetFree.of_bodySF (plainFor_of_name pn_java_lang_StringLatin1) hisR ?_
  intro p e s m args below meth c s₁ Bd hml0 hP hK
  obtain ⟨rfl, hZ, hh⟩ := hP
  have hx := Bd.exec
  have hby := Bd.bytes
  have hml : c.maxLocals = 2 := hml0
  have hown : s.vm.findClass "java/lang/StringLatin1" = some m.cls := findClass_of_methodNamed Bd.named
  have hnm := (name_of_methodNamed Bd.named Bd.method).1
  have X0 : Stand p l e ({ frames := 2, cells := 0, slots := 0, locals := 27 } : Room) s m #[(.ref o0), (.int p1)] below meth c s₁ [] 0 0 := Stand.of_body Bd
  have e0 : s₁.heap = h0 := by rw [← hh, Bd.state]; rfl
  have N0 := Fr.nil n0
  show Go p e below (fun o U' => ∃ v L, o = .returned v ∧ Q39 Z o0 p1 z0 vs0 kv v_SIOOBE_FORMATTER e8 h0 n0 v U'.heap L ∧ FrameEnd s o U' L ({ frames := 2, cells := 0, slots := 0, locals := 27 } : Room).cells ({ frames := 2, cells := 0, slots := 0, locals := 27 } : Room).slots) (s₁.setTop (entryFrame m #[(.ref o0), (.int p1)] 2))
  refine Go.of (fun _ k => castTop (ef_39 m o0 p1) k) ?_
  show Go p e below _ (s₁.setTop (mkF m 0 #[.val (.ref o0), .val (.int p1)] []))
  refine Go.of (fun _ k => XS.iloadN X0.here hx rfl (hb hby d39_0) rfl  k) ?_
  refine Go.of (fun _ k => XS.aloadN X0.here hx rfl (hb hby d39_1) rfl rfl k) ?_
  obtain ⟨clt1, Art1, qt1, st1, nt1, Ht1, Gt1⟩ := id V_o0
  refine Go.of (fun _ k => X0.arraylength hx (by rw [e0]; exact Art1.1) (State.isArrayOf_alike hZ.alike Art1.2.1) (g := (mkF m 2 #[.val (.ref o0), .val (.int p1)] [(.ref o0), (.int p1)])) rfl rfl (hb hby d39_2) _ k) ?_
  rw [len_of st1 nt1]
  show Go p e below _ (s₁.setTop (mkF m 3 #[.val (.ref o0), .val (.int p1)] [(.int z0), (.int p1)]))
  obtain ⟨_, _, ⟨T2, L2, k2, n2⟩, -, X2, ⟨Lc2, hQ2, l2, y2, z2⟩, st2⟩ := Jvm.LawKit.callS X0 hx (y := own_y_String_checkIndex_31) hown (mvT hZ (own_h hw 242 rfl)) (mvT hZ (own_h hw 243 rfl)) (mvT hZ (own_h hw 22 rfl)) (mvT hZ (own_h hw 244 rfl)) (by decide) (backOf (W := 0) (rm40 l Z a0 hw [] p1 z0 v_SIOOBE_FORMATTER h0 n0 Z0 S_SIOOBE_FORMATTER hr_v_SIOOBE_FORMATTER hc1_4_2 hc6_4_2) hZ (own_h hw 244 rfl) (own_h hw 22 rfl) (by decide) (by decide)) (g := (mkF m 3 #[.val (.ref o0), .val (.int p1)] [(.int z0), (.int p1)])) rfl (by rw [hml]; rfl) (argsL := [(.int p1), (.int z0)]) (rest := []) (lenOf pd_13 rfl) rfl (Nat.le_of_eq rfl) (hb hby d39_3) (fun _ _ => ⟨rfl, e0, (by decide : 0 + 0 ≤ _), (by decide : 0 + 0 ≤ _)⟩)
  dsimp only [Pt.U, Pt.locs, Pt.cells, Pt.slots] at X2 l2 y2 z2 st2 hQ2
  subst l2 y2 z2
  obtain ⟨rfl, Nq2, q2_0⟩ := hQ2
  have N2 := Fr.app N0 Nq2
  refine Go.of st2 ?_
  show Go p e below _ (T2.setTop (mkF m 6 #[.val (.ref o0), .val (.int p1)] []))
  refine Go.of (fun _ k => XS.aloadN X2.here hx rfl (hb hby d39_6) rfl rfl k) ?_
  refine Go.of (fun _ k => XS.iloadN X2.here hx rfl (hb hby d39_7) rfl  k) ?_
  obtain ⟨clt3, Art3, qt3, st3, nt3, Ht3, Gt3⟩ := id V_o0
  have hint3 : ¬ (p1 < 0 ∨ clt3.slots.size ≤ (p1).toNatClampNeg) := inb_of st3 ⟨hc1_4_2, hc6_4_2⟩
  refine Go.of (fun _ k => X2.baloadBytes hx (j := p1) (v := (.int e8)) (by rw [q2_0]; exact Art3.1) (State.isArrayOf_alike hZ.alike Art3.2.1) Art3.2.2 hint3 (Ht3.at hint3 hat8) (g := (mkF m 8 #[.val (.ref o0), .val (.int p1)] [(.int p1), (.ref o0)])) rfl rfl (hb hby d39_8) _ k) ?_
  show Go p e below _ (T2.setTop (mkF m 9 #[.val (.ref o0), .val (.int p1)] [(.int e8)]))
  refine Go.of (fun _ k => XS.sipush X2.here hx rfl (hb hby d39_9) k) ?_
  refine Go.of (fun _ k => XS.iand X2.here hx rfl (hb hby d39_12) rfl k) ?_
  show Go p e below _ (T2.setTop (mkF m 13 #[.val (.ref o0), .val (.int p1)] [(.int (e8 &&& (255 : Int32)))]))
  refine Go.of (fun _ k => XS.i2c X2.here hx rfl (hb hby d39_13) rfl k) ?_
  show Go p e below _ (T2.setTop (mkF m 14 #[.val (.ref o0), .val (.int p1)] [(.int ((e8 &&& (255 : Int32)).toUInt32.toUInt16.toUInt32.toInt32))]))
  obtain ⟨fs, hr, hrun, hended, hW, hsame⟩ := X2.leave (v := some (.int (nar .char ((e8 &&& (255 : Int32)).toUInt32.toUInt16.toUInt32.toInt32)))) (fun h => by rw [Bd.returns] at h; cases h)
  refine Go.mk _ _ ?_ hrun hended ⟨_, _, rfl, ?_, ⟨_, rfl⟩, hW, hsame.mono (by decide) (by decide)⟩
  · exact retN X2 hx (t := .char) Bd.returns (by simp) (hb hby d39_14) hr
  · show Q39 Z o0 p1 z0 vs0 kv v_SIOOBE_FORMATTER e8 h0 n0 _ T2.heap _
    rw [q2_0]
    exact ⟨rfl, N2, rfl⟩
theorem d37_0 : decode jdk_42_method_56_code 0 = .ok (.aload_n 0, 1) := by decide +kernel
theorem d37_1 : decode jdk_42_method_56_code 1 = .ok (.invokevirtual 492, 3) := by decide +kernel
abbrev own_y_String_isLatin1_32 : MethodName := ⟨"java/lang/String", "isLatin1", "()Z"⟩
theorem d37_4 : decode jdk_42_method_56_code 4 = .ok (.ifCond .eq 12, 3) := by decide +kernel
theorem d37_7 : decode jdk_42_method_56_code 7 = .ok (.aload_n 0, 1) := by decide +kernel
theorem d37_8 : decode jdk_42_method_56_code 8 = .ok (.getfield 9, 3) := by decide +kernel
theorem d37_11 : decode jdk_42_method_56_code 11 = .ok (.iload_n 1, 1) := by decide +kernel
theorem d37_12 : decode jdk_42_method_56_code 12 = .ok (.invokestatic 495, 3) := by decide +kernel
theorem pd_25 : parseMethodDescriptor "([BI)C" = some ⟨[(.array .byte), .int], some .char⟩ := by decide +kernel
abbrev own_y_StringLatin1_charAt_33 : MethodName := ⟨"java/lang/StringLatin1", "charAt", "([BI)C"⟩
theorem d37_15 : decode jdk_42_method_56_code 15 = .ok (.ireturn, 1) := by decide +kernel
theorem ef_37 (m : MethodId) (x0 : Addr) (x1 : Int32) : entryFrame m #[(.ref x0), (.int x1)] 2 = mkF m 0 #[.val (.ref x0), .val (.int x1)] [] := by first | (simp [entryFrame, mkF, argsToLocals, Value.category]; done) | rfl
def Q37 (Z : State) (o0 : Addr) (p1 : Int32) (z0 : Int32) (vs0 : List Value) (w_COMPACT_STRINGS : Int32) (f_o0_value : Addr) (e8_12 : Int32) (kv : ClassId) (v_SIOOBE_FORMATTER : Value) (h0 : Heap) (n0 : Nat) (v : Option Value) (h : Heap) (L : List Loc) : Prop := v = some (.int (own_cc e8_12)) ∧ Fr n0 L ∧ h = h0
set_option maxRecDepth 65536 in
set_option maxHeartbeats 40000000 in
theorem rm37 (l : Launch) (Z : State) (a0 : Array Value) (hw : ∀ d ∈ tables_1, d.before a0 Z = true) (ws : List Jvm.Cond) (o0 : Addr) (p1 : Int32) (z0 : Int32) (vs0 : List Value) (w_COMPACT_STRINGS : Int32) (f_o0_value : Addr) (e8_12 : Int32) (kv : ClassId) (v_SIOOBE_FORMATTER : Value) (h0 : Heap) (n0 : Nat) (Z0 : n0 ≤ h0.size) (S_COMPACT_STRINGS : Sta Z h0 "java/lang/String" "COMPACT_STRINGS" "Z" (.int w_COMPACT_STRINGS)) (hc3_1 : ¬ (w_COMPACT_STRINGS = (0 : Int32))) (F_o0_coder : Fld Z h0 o0 "java/lang/String" "coder" "B" (.int (0 : Int32))) (E_o0 : Exa Z h0 o0 "java/lang/String") (F_o0_value : Fld Z h0 o0 "java/lang/String" "value" "[B" (.ref f_o0_value)) (V_f_o0_value : Arv Z h0 f_o0_value kv .byte z0 vs0 (.int (0 : Int32))) (S_SIOOBE_FORMATTER : Sta Z h0 "jdk/internal/util/Preconditions" "SIOOBE_FORMATTER" "Ljava/util/function/BiFunction;" v_SIOOBE_FORMATTER) (hr_v_SIOOBE_FORMATTER : v_SIOOBE_FORMATTER.isRef = true) (hc1_4_2_3 : ¬ (p1 < (0 : Int32))) (hc6_4_2_3 : p1 < z0) (hat8_3 : vs0.getD (p1).toNatClampNeg (.int (0 : Int32)) = (.int e8_12)) :
    MetFree l (⟨"java/lang/String", "charAt", "(I)C"⟩ : MethodName) (head1 (Jvm.Cond.code (⟨"java/lang/String", "charAt", "(I)C"⟩ : MethodName) jdk_42_method_56_code 2 (some .char) :: ws) ({ frames := 3, cells := 0, slots := 0, locals := 40 } : Room)) (fun a U => a = #[(.ref o0), (.int p1)] ∧ Z.Warmed39 U.vm ∧ U.heap = h0) (fun _ _ _ _ _ => True) (fun _ U o U' => ∃ v L, o = .returned v ∧ Q37 Z o0 p1 z0 vs0 w_COMPACT_STRINGS f_o0_value e8_12 kv v_SIOOBE_FORMATTER h0 n0 v U'.heap L ∧ FrameEnd U o U' L ({ frames := 3, cells := 0, slots := 0, locals := 40 } : Room).cells ({ frames := 3, cells := 0, slots := 0, locals := 40 } : Room).slots) := by
  refine MetFree.of_bodySF (plainFor_of_name pn_java_lang_String) hisR ?_
  intro p e s m args below meth c s₁ Bd hml0 hP hK
  obtain ⟨rfl, hZ, hh⟩ := hP
  have hx := Bd.exec
  have hby := Bd.bytes
  have hml : c.maxLocals = 2 := hml0
  have hown : s.vm.findClass "java/lang/String" = some m.cls := findClass_of_methodNamed Bd.named
  have hnm := (name_of_methodNamed Bd.named Bd.method).1
  have X0 : Stand p l e ({ frames := 3, cells := 0, slots := 0, locals := 40 } : Room) s m #[(.ref o0), (.int p1)] below meth c s₁ [] 0 0 := Stand.of_body Bd
  have e0 : s₁.heap = h0 := by rw [← hh, Bd.state]; rfl
  have N0 := Fr.nil n0
  show Go p e below (fun o U' => ∃ v L, o = .returned v ∧ Q37 Z o0 p1 z0 vs0 w_COMPACT_STRINGS f_o0_value e8_12 kv v_SIOOBE_FORMATTER h0 n0 v U'.heap L ∧ FrameEnd s o U' L ({ frames := 3, cells := 0, slots := 0, locals := 40 } : Room).cells ({ frames := 3, cells := 0, slots := 0, locals := 40 } : Room).slots) (s₁.setTop (entryFrame m #[(.ref o0), (.int p1)] 2))
  refine Go.of (fun _ k => castTop (ef_37 m o0 p1) k) ?_
  show Go p e below _ (s₁.setTop (mkF m 0 #[.val (.ref o0), .val (.int p1)] []))
  refine Go.of (fun _ k => XS.aloadN X0.here hx rfl (hb hby d37_0) rfl rfl k) ?_
  obtain ⟨cq1, kq1, q1a, q1b, q1c⟩ := isOf hZ e0 E_o0
  obtain ⟨_, _, ⟨T1, L1, k1, n1⟩, -, X1, ⟨Lc1, hQ1, l1, y1, z1⟩, st1⟩ := X0.virtualBack hx (y := own_y_String_isLatin1_32) (z := own_y_String_isLatin1_32) hown (mvT hZ (own_h hw 233 rfl)) (mvT hZ (own_h hw 234 rfl)) (notFace_of_selects (args := #[]) (mvT hZ (own_h hw 236 rfl))) (mvT hZ (own_h hw 236 rfl)) (mvT hZ (own_h hw 235 rfl)) (by decide) (backOf (W := 0) (rm38 l Z a0 hw [] o0 w_COMPACT_STRINGS h0 n0 Z0 S_COMPACT_STRINGS hc3_1 F_o0_coder) hZ (own_h hw 237 rfl) (own_h hw 22 rfl) (by decide) (by decide)) q1a q1c (g := (mkF m 1 #[.val (.ref o0), .val (.int p1)] [(.ref o0)])) rfl (by rw [hml]; rfl) (Steps.refl _) (argsL := []) (rest := []) (lenOf pd_11 rfl) rfl (Nat.le_of_eq rfl) (hb hby d37_1) (fun _ _ => ⟨rfl, e0, (by decide : 0 + 0 ≤ _), (by decide : 0 + 0 ≤ _)⟩)
  dsimp only [Pt.U, Pt.locs, Pt.cells, Pt.slots] at X1 l1 y1 z1 st1 hQ1
  subst l1 y1 z1
  obtain ⟨rfl, Nq1, q1_0⟩ := hQ1
  have N1 := Fr.app N0 Nq1
  refine Go.tr st1 ?_
  show Go p e below _ (T1.setTop (mkF m 4 #[.val (.ref o0), .val (.int p1)] [(.int (1 : Int32))]))
  refine Go.of (fun _ k => XS.ifNo X1.here hx rfl (hb hby d37_4) rfl ((if0 _ _).trans (feq (by decide : ¬ ((1 : Int32) = (0 : Int32)))).1) k) ?_
  show Go p e below _ (T1.setTop (mkF m 7 #[.val (.ref o0), .val (.int p1)] []))
  refine Go.of (fun _ k => XS.aloadN X1.here hx rfl (hb hby d37_7) rfl rfl k) ?_
  obtain ⟨T2, X2, e2, st2⟩ := getF X1 hx hZ hown (host := "") (Or.inl (own_h hw 49 rfl)) Via.refl q1_0 F_o0_value (g := (mkF m 8 #[.val (.ref o0), .val (.int p1)] [(.ref o0)])) rfl rfl (hb hby d37_8)
  refine Go.of st2 ?_
  show Go p e below _ (T2.setTop (mkF m 11 #[.val (.ref o0), .val (.int p1)] [(.ref f_o0_value)]))
  refine Go.of (fun _ k => XS.iloadN X2.here hx rfl (hb hby d37_11) rfl  k) ?_
  obtain ⟨_, _, ⟨T3, L3, k3, n3⟩, -, X3, ⟨Lc3, hQ3, l3, y3, z3⟩, st3⟩ := Jvm.LawKit.callS X2 hx (y := own_y_StringLatin1_charAt_33) hown (mvT hZ (own_h hw 238 rfl)) (mvT hZ (own_h hw 239 rfl)) (mvT hZ (own_h hw 240 rfl)) (mvT hZ (own_h hw 241 rfl)) (by decide) (backOf (W := 0) (rm39 l Z a0 hw [] f_o0_value p1 z0 vs0 kv v_SIOOBE_FORMATTER e8_12 h0 n0 Z0 V_f_o0_value S_SIOOBE_FORMATTER hr_v_SIOOBE_FORMATTER hc1_4_2_3 hc6_4_2_3 hat8_3) hZ (own_h hw 241 rfl) (own_h hw 240 rfl) (by decide) (by decide)) (g := (mkF m 12 #[.val (.ref o0), .val (.int p1)] [(.int p1), (.ref f_o0_value)])) rfl (by rw [hml]; rfl) (argsL := [(.ref f_o0_value), (.int p1)]) (rest := []) (lenOf pd_25 rfl) rfl (Nat.le_of_eq rfl) (hb hby d37_12) (fun _ _ => ⟨rfl, e2, (by decide : 0 + 0 ≤ _), (by decide : 0 + 0 ≤ _)⟩)
  dsimp only [Pt.U, Pt.locs, Pt.cells, Pt.slots] at X3 l3 y3 z3 st3 hQ3
  subst l3 y3 z3
  obtain ⟨rfl, Nq3, q3_0⟩ := hQ3
  have N3 := Fr.app N1 Nq3
  refine Go.of st3 ?_
  show Go p e below _ (T3.setTop (mkF m 15 #[.val (.ref o0), .val (.int p1)] [(.int (nar .char ((e8_12 &&& (255 : Int32)).toUInt32.toUInt16.toUInt32.toInt32)))]))
  obtain ⟨fs, hr, hrun, hended, hW, hsame⟩ := X3.leave (v := some (.int (nar .char (nar .char ((e8_12 &&& (255 : Int32)).toUInt32.toUInt16.toUInt32.toInt32))))) (fun h => by rw [Bd.returns] at h; cases h)
  refine Go.mk _ _ ?_ hrun hended ⟨_, _, rfl, ?_, ⟨_, rfl⟩, hW, hsame.mono (by decide) (by decide)⟩
  · exact retN X3 hx (t := .char) Bd.returns (by simp) (hb hby d37_15) hr
  · show Q37 Z o0 p1 z0 vs0 w_COMPACT_STRINGS f_o0_value e8_12 kv v_SIOOBE_FORMATTER h0 n0 _ T3.heap _
    rw [q3_0]
    exact ⟨rfl, N3, rfl⟩
/-- what the law's 'expected' answers -/
def own_exp (i neg : Int32) (v : Int64) (n : Int32) : Int32 := if i = (0 : Int32) then (104 : Int32) else if i = (1 : Int32) then (116 : Int32) else if i = (2 : Int32) then (116 : Int32) else if i = (3 : Int32) then (112 : Int32) else if i = (4 : Int32) then (45 : Int32) else
  if neg = (0 : Int32) then own_ch v ((n - (1 : Int32)) - (i - (5 : Int32))) else if (i - (5 : Int32)) = (0 : Int32) then (45 : Int32) else own_ch v ((n - (1 : Int32)) - ((i - (5 : Int32)) - (1 : Int32)))
/-- its places in the table of powers are there -/
def own_in (k : Int32) : Prop := ¬ (k < (0 : Int32)) ∧ k < (10 : Int32)
def own_ok (i neg n : Int32) : Prop := ¬ (i = (0 : Int32)) → ¬ (i = (1 : Int32)) → ¬ (i = (2 : Int32)) → ¬ (i = (3 : Int32)) → ¬ (i = (4 : Int32)) → (neg = (0 : Int32) → own_in ((n - (1 : Int32)) - (i - (5 : Int32)))) ∧ (¬ (neg = (0 : Int32)) → ¬ ((i - (5 : Int32)) = (0 : Int32)) → own_in ((n - (1 : Int32)) - ((i - (5 : Int32)) - (1 : Int32))))
theorem own_pownz {k : Int32} (h : own_in k) : ¬ (own_pow k = (0 : Int64)) := by
  have hn : k.toNatClampNeg < 10 := by
    obtain ⟨h1, h2⟩ := h
    rw [Int32.lt_iff_toInt_lt] at h1 h2
    have e1 : (10 : Int32).toInt = 10 := rfl
    have e0 : (0 : Int32).toInt = 0 := rfl
    simp only [Int32.toNatClampNeg]; omega
  unfold own_pow
  generalize k.toNatClampNeg = n at hn
  revert n; decide
theorem d42_0 : decode method_6_code 0 = .ok (.iload_n 0, 1) := by decide +kernel
theorem d42_1 : decode method_6_code 1 = .ok (.ifCond .ne 6, 3) := by decide +kernel
theorem d42_4 : decode method_6_code 4 = .ok (.bipush 104, 2) := by decide +kernel
theorem d42_6 : decode method_6_code 6 = .ok (.ireturn, 1) := by decide +kernel
theorem d42_7 : decode method_6_code 7 = .ok (.iload_n 0, 1) := by decide +kernel
theorem d42_8 : decode method_6_code 8 = .ok (.iconst 1, 1) := by decide +kernel
theorem d42_9 : decode method_6_code 9 = .ok (.if_icmp .ne 6, 3) := by decide +kernel
theorem d42_12 : decode method_6_code 12 = .ok (.bipush 116, 2) := by decide +kernel
theorem d42_14 : decode method_6_code 14 = .ok (.ireturn, 1) := by decide +kernel
theorem d42_15 : decode method_6_code 15 = .ok (.iload_n 0, 1) := by decide +kernel
theorem d42_16 : decode method_6_code 16 = .ok (.iconst 2, 1) := by decide +kernel
theorem d42_17 : decode method_6_code 17 = .ok (.if_icmp .ne 6, 3) := by decide +kernel
theorem d42_20 : decode method_6_code 20 = .ok (.bipush 116, 2) := by decide +kernel
theorem d42_22 : decode method_6_code 22 = .ok (.ireturn, 1) := by decide +kernel
theorem d42_23 : decode method_6_code 23 = .ok (.iload_n 0, 1) := by decide +kernel
theorem d42_24 : decode method_6_code 24 = .ok (.iconst 3, 1) := by decide +kernel
theorem d42_25 : decode method_6_code 25 = .ok (.if_icmp .ne 6, 3) := by decide +kernel
theorem d42_28 : decode method_6_code 28 = .ok (.bipush 112, 2) := by decide +kernel
theorem d42_30 : decode method_6_code 30 = .ok (.ireturn, 1) := by decide +kernel
theorem d42_31 : decode method_6_code 31 = .ok (.iload_n 0, 1) := by decide +kernel
theorem d42_32 : decode method_6_code 32 = .ok (.iconst 4, 1) := by decide +kernel
theorem d42_33 : decode method_6_code 33 = .ok (.if_icmp .ne 6, 3) := by decide +kernel
theorem d42_36 : decode method_6_code 36 = .ok (.bipush 45, 2) := by decide +kernel
theorem d42_38 : decode method_6_code 38 = .ok (.ireturn, 1) := by decide +kernel
theorem d42_39 : decode method_6_code 39 = .ok (.iload_n 0, 1) := by decide +kernel
theorem d42_40 : decode method_6_code 40 = .ok (.iconst 5, 1) := by decide +kernel
theorem d42_41 : decode method_6_code 41 = .ok (.isub, 1) := by decide +kernel
theorem d42_42 : decode method_6_code 42 = .ok (.istore 5, 2) := by decide +kernel
theorem d42_44 : decode method_6_code 44 = .ok (.iload_n 1, 1) := by decide +kernel
theorem d42_45 : decode method_6_code 45 = .ok (.ifCond .eq 17, 3) := by decide +kernel
theorem d42_62 : decode method_6_code 62 = .ok (.lload_n 2, 1) := by decide +kernel
theorem d42_63 : decode method_6_code 63 = .ok (.iload 4, 2) := by decide +kernel
theorem d42_65 : decode method_6_code 65 = .ok (.iconst 1, 1) := by decide +kernel
theorem d42_66 : decode method_6_code 66 = .ok (.isub, 1) := by decide +kernel
theorem d42_67 : decode method_6_code 67 = .ok (.iload 5, 2) := by decide +kernel
theorem d42_69 : decode method_6_code 69 = .ok (.isub, 1) := by decide +kernel
theorem d42_70 : decode method_6_code 70 = .ok (.invokestatic 65, 3) := by decide +kernel
theorem pd_26 : parseMethodDescriptor "(I)J" = some ⟨[.int], some .long⟩ := by decide +kernel
abbrev own_y_EngineExceptionHttpStatusPinLaw_pow10_34 : MethodName := ⟨"com/example/metasearchd/metasearchd/engine/EngineExceptionHttpStatusPinLaw", "pow10", "(I)J"⟩
theorem d42_73 : decode method_6_code 73 = .ok (.ldiv, 1) := by decide +kernel
theorem d42_74 : decode method_6_code 74 = .ok (.ldc2_w 55, 3) := by decide +kernel
theorem d42_77 : decode method_6_code 77 = .ok (.lrem, 1) := by decide +kernel
theorem d42_78 : decode method_6_code 78 = .ok (.lstore 6, 2) := by decide +kernel
theorem d42_80 : decode method_6_code 80 = .ok (.bipush 48, 2) := by decide +kernel
theorem d42_82 : decode method_6_code 82 = .ok (.lload 6, 2) := by decide +kernel
theorem d42_84 : decode method_6_code 84 = .ok (.l2i, 1) := by decide +kernel
theorem d42_85 : decode method_6_code 85 = .ok (.iadd, 1) := by decide +kernel
theorem d42_86 : decode method_6_code 86 = .ok (.i2c, 1) := by decide +kernel
theorem d42_87 : decode method_6_code 87 = .ok (.ireturn, 1) := by decide +kernel
theorem d42_48 : decode method_6_code 48 = .ok (.iload 5, 2) := by decide +kernel
theorem d42_50 : decode method_6_code 50 = .ok (.ifCond .ne 6, 3) := by decide +kernel
theorem d42_53 : decode method_6_code 53 = .ok (.bipush 45, 2) := by decide +kernel
theorem d42_55 : decode method_6_code 55 = .ok (.ireturn, 1) := by decide +kernel
theorem d42_56 : decode method_6_code 56 = .ok (.iload 5, 2) := by decide +kernel
theorem d42_58 : decode method_6_code 58 = .ok (.iconst 1, 1) := by decide +kernel
theorem d42_59 : decode method_6_code 59 = .ok (.isub, 1) := by decide +kernel
theorem d42_60 : decode method_6_code 60 = .ok (.istore 5, 2) := by decide +kernel
theorem ef_42 (m : MethodId) (x0 : Int32) (x1 : Int32) (x2 : Int64) (x3 : Int32) : entryFrame m #[(.int x0), (.int x1), (.long x2), (.int x3)] 8 = mkF m 0 #[.val (.int x0), .val (.int x1), .val (.long x2), .second, .val (.int x3), .unset, .unset, .unset] [] := by first | (simp [entryFrame, mkF, argsToLocals, Value.category]; done) | rfl
def Q42 (Z : State) (p0 : Int32) (p1 : Int32) (q2 : Int64) (p3 : Int32) (h0 : Heap) (n0 : Nat) (v : Option Value) (h : Heap) (L : List Loc) : Prop := v = some (.int (own_exp p0 p1 q2 p3)) ∧ Fr n0 L ∧ Keep h0 h []
set_option maxRecDepth 65536 in
set_option maxHeartbeats 40000000 in
theorem rm42 (l : Launch) (Z : State) (a0 : Array Value) (hw : ∀ d ∈ tables_1, d.before a0 Z = true) (ws : List Jvm.Cond) (p0 : Int32) (p1 : Int32) (q2 : Int64) (p3 : Int32) (h0 : Heap) (n0 : Nat) (Z0 : n0 ≤ h0.size) (hE : own_ok p0 p1 p3) :
    MetFree l (⟨"com/example/metasearchd/metasearchd/engine/EngineExceptionHttpStatusPinLaw", "expected", "(IZJI)C"⟩ : MethodName) (head1 (Jvm.Cond.code (⟨"com/example/metasearchd/metasearchd/engine/EngineExceptionHttpStatusPinLaw", "expected", "(IZJI)C"⟩ : MethodName) method_6_code 8 (some .char) :: ws) ({ frames := 1, cells := 1, slots := 10, locals := 15 } : Room)) (fun a U => a = #[(.int p0), (.int p1), (.long q2), (.int p3)] ∧ Z.Warmed39 U.vm ∧ U.heap = h0) (fun _ _ _ _ _ => True) (fun _ U o U' => ∃ v L, o = .returned v ∧ Q42 Z p0 p1 q2 p3 h0 n0 v U'.heap L ∧ FrameEnd U o U' L ({ frames := 1, cells := 1, slots := 10, locals := 15 } : Room).cells ({ frames := 1, cells := 1, slots := 10, locals := 15 } : Room).slots) := by
  refine MetFree.of_bodySF (plainFor_of_name pn_com_example_metasearchd_metasearchd_engine_EngineExceptionHttpStatusPinLaw) hisR ?_
  intro p e s m args below meth c s₁ Bd hml0 hP hK
  obtain ⟨rfl, hZ, hh⟩ := hP
  have hx := Bd.exec
  have hby := Bd.bytes
  have hml : c.maxLocals = 8 := hml0
  have hown : s.vm.findClass "com/example/metasearchd/metasearchd/engine/EngineExceptionHttpStatusPinLaw" = some m.cls := findClass_of_methodNamed Bd.named
  have hnm := (name_of_methodNamed Bd.named Bd.method).1
  have X0 : Stand p l e ({ frames := 1, cells := 1, slots := 10, locals := 15 } : Room) s m #[(.int p0), (.int p1), (.long q2), (.int p3)] below meth c s₁ [] 0 0 := Stand.of_body Bd
  have e0 : s₁.heap = h0 := by rw [← hh, Bd.state]; rfl
  have N0 := Fr.nil n0
  show Go p e below (fun o U' => ∃ v L, o = .returned v ∧ Q42 Z p0 p1 q2 p3 h0 n0 v U'.heap L ∧ FrameEnd s o U' L ({ frames := 1, cells := 1, slots := 10, locals := 15 } : Room).cells ({ frames := 1, cells := 1, slots := 10, locals := 15 } : Room).slots) (s₁.setTop (entryFrame m #[(.int p0), (.int p1), (.long q2), (.int p3)] 8))
  refine Go.of (fun _ k => castTop (ef_42 m p0 p1 q2 p3) k) ?_
  show Go p e below _ (s₁.setTop (mkF m 0 #[.val (.int p0), .val (.int p1), .val (.long q2), .second, .val (.int p3), .unset, .unset, .unset] []))
  refine Go.of (fun _ k => XS.iloadN X0.here hx rfl (hb hby d42_0) rfl  k) ?_
  by_cases hc1 : p0 = (0 : Int32)
  ·
    refine Go.of (fun _ k => XS.ifNo X0.here hx rfl (hb hby d42_1) rfl ((if0 _ _).trans (teq hc1).2) k) ?_
    show Go p e below _ (s₁.setTop (mkF m 4 #[.val (.int p0), .val (.int p1), .val (.long q2), .second, .val (.int p3), .unset, .unset, .unset] []))
    refine Go.of (fun _ k => XS.bipush X0.here hx rfl (hb hby d42_4) k) ?_
    obtain ⟨fs, hr, hrun, hended, hW, hsame⟩ := X0.leave (v := some (.int (104 : Int32))) (fun h => by rw [Bd.returns] at h; cases h)
    refine Go.mk _ _ ?_ hrun hended ⟨_, _, rfl, ?_, ⟨_, rfl⟩, hW, hsame.mono (by decide) (by decide)⟩
    · exact retN X0 hx (t := .char) Bd.returns (by simp) (hb hby d42_6) hr
    · show Q42 Z p0 p1 q2 p3 h0 n0 _ s₁.heap _
      rw [e0]
      exact ⟨(congrArg (fun z => some (Value.int z)) (show own_exp p0 p1 q2 p3 = (104 : Int32) by unfold own_exp; rw [if_pos hc1]).symm), N0, (Keep.refl h0 [])⟩
  ·
    refine Go.of (fun _ k => XS.ifYes X0.here hx rfl (pc0 := 1) (pc' := 7) rfl (hb hby d42_1) rfl ((if0 _ _).trans (feq hc1).2) (by decide) (by decide) k) ?_
    show Go p e below _ (s₁.setTop (mkF m 7 #[.val (.int p0), .val (.int p1), .val (.long q2), .second, .val (.int p3), .unset, .unset, .unset] []))
    refine Go.of (fun _ k => XS.iloadN X0.here hx rfl (hb hby d42_7) rfl  k) ?_
    refine Go.of (fun _ k => XS.iconst X0.here hx rfl (hb hby d42_8) k) ?_
    by_cases hc3 : p0 = (1 : Int32)
    ·
      refine Go.of (fun _ k => XS.icmpNo X0.here hx rfl (hb hby d42_9) rfl (teq hc3).2 k) ?_
      show Go p e below _ (s₁.setTop (mkF m 12 #[.val (.int p0), .val (.int p1), .val (.long q2), .second, .val (.int p3), .unset, .unset, .unset] []))
      refine Go.of (fun _ k => XS.bipush X0.here hx rfl (hb hby d42_12) k) ?_
      obtain ⟨fs, hr, hrun, hended, hW, hsame⟩ := X0.leave (v := some (.int (116 : Int32))) (fun h => by rw [Bd.returns] at h; cases h)
      refine Go.mk _ _ ?_ hrun hended ⟨_, _, rfl, ?_, ⟨_, rfl⟩, hW, hsame.mono (by decide) (by decide)⟩
      · exact retN X0 hx (t := .char) Bd.returns (by simp) (hb hby d42_14) hr
      · show Q42 Z p0 p1 q2 p3 h0 n0 _ s₁.heap _
        rw [e0]
        exact ⟨(congrArg (fun z => some (Value.int z)) (show own_exp p0 p1 q2 p3 = (116 : Int32) by unfold own_exp; rw [if_neg hc1, if_pos hc3]).symm), N0, (Keep.refl h0 [])⟩
    ·
      refine Go.of (fun _ k => XS.icmpYes X0.here hx rfl (pc0 := 9) (pc' := 15) rfl (hb hby d42_9) rfl (feq hc3).2 (by decide) (by decide) k) ?_
      show Go p e below _ (s₁.setTop (mkF m 15 #[.val (.int p0), .val (.int p1), .val (.long q2), .second, .val (.int p3), .unset, .unset, .unset] []))
      refine Go.of (fun _ k => XS.iloadN X0.here hx rfl (hb hby d42_15) rfl  k) ?_
      refine Go.of (fun _ k => XS.iconst X0.here hx rfl (hb hby d42_16) k) ?_
      by_cases hc5 : p0 = (2 : Int32)
      ·
        refine Go.of (fun _ k => XS.icmpNo X0.here hx rfl (hb hby d42_17) rfl (teq hc5).2 k) ?_
        show Go p e below _ (s₁.setTop (mkF m 20 #[.val (.int p0), .val (.int p1), .val (.long q2), .second, .val (.int p3), .unset, .unset, .unset] []))
        refine Go.of (fun _ k => XS.bipush X0.here hx rfl (hb hby d42_20) k) ?_
        obtain ⟨fs, hr, hrun, hended, hW, hsame⟩ := X0.leave (v := some (.int (116 : Int32))) (fun h => by rw [Bd.returns] at h; cases h)
        refine Go.mk _ _ ?_ hrun hended ⟨_, _, rfl, ?_, ⟨_, rfl⟩, hW, hsame.mono (by decide) (by decide)⟩
        · exact retN X0 hx (t := .char) Bd.returns (by simp) (hb hby d42_22) hr
        · show Q42 Z p0 p1 q2 p3 h0 n0 _ s₁.heap _
          rw [e0]
          exact ⟨(congrArg (fun z => some (Value.int z)) (show own_exp p0 p1 q2 p3 = (116 : Int32) by unfold own_exp; rw [if_neg hc1, if_neg hc3, if_pos hc5]).symm), N0, (Keep.refl h0 [])⟩
      ·
        refine Go.of (fun _ k => XS.icmpYes X0.here hx rfl (pc0 := 17) (pc' := 23) rfl (hb hby d42_17) rfl (feq hc5).2 (by decide) (by decide) k) ?_
        show Go p e below _ (s₁.setTop (mkF m 23 #[.val (.int p0), .val (.int p1), .val (.long q2), .second, .val (.int p3), .unset, .unset, .unset] []))
        refine Go.of (fun _ k => XS.iloadN X0.here hx rfl (hb hby d42_23) rfl  k) ?_
        refine Go.of (fun _ k => XS.iconst X0.here hx rfl (hb hby d42_24) k) ?_
        by_cases hc7 : p0 = (3 : Int32)
        ·
          refine Go.of (fun _ k => XS.icmpNo X0.here hx rfl (hb hby d42_25) rfl (teq hc7).2 k) ?_
          show Go p e below _ (s₁.setTop (mkF m 28 #[.val (.int p0), .val (.int p1), .val (.long q2), .second, .val (.int p3), .unset, .unset, .unset] []))
          refine Go.of (fun _ k => XS.bipush X0.here hx rfl (hb hby d42_28) k) ?_
          obtain ⟨fs, hr, hrun, hended, hW, hsame⟩ := X0.leave (v := some (.int (112 : Int32))) (fun h => by rw [Bd.returns] at h; cases h)
          refine Go.mk _ _ ?_ hrun hended ⟨_, _, rfl, ?_, ⟨_, rfl⟩, hW, hsame.mono (by decide) (by decide)⟩
          · exact retN X0 hx (t := .char) Bd.returns (by simp) (hb hby d42_30) hr
          · show Q42 Z p0 p1 q2 p3 h0 n0 _ s₁.heap _
            rw [e0]
            exact ⟨(congrArg (fun z => some (Value.int z)) (show own_exp p0 p1 q2 p3 = (112 : Int32) by unfold own_exp; rw [if_neg hc1, if_neg hc3, if_neg hc5, if_pos hc7]).symm), N0, (Keep.refl h0 [])⟩
        ·
          refine Go.of (fun _ k => XS.icmpYes X0.here hx rfl (pc0 := 25) (pc' := 31) rfl (hb hby d42_25) rfl (feq hc7).2 (by decide) (by decide) k) ?_
          show Go p e below _ (s₁.setTop (mkF m 31 #[.val (.int p0), .val (.int p1), .val (.long q2), .second, .val (.int p3), .unset, .unset, .unset] []))
          refine Go.of (fun _ k => XS.iloadN X0.here hx rfl (hb hby d42_31) rfl  k) ?_
          refine Go.of (fun _ k => XS.iconst X0.here hx rfl (hb hby d42_32) k) ?_
          by_cases hc9 : p0 = (4 : Int32)
          ·
            refine Go.of (fun _ k => XS.icmpNo X0.here hx rfl (hb hby d42_33) rfl (teq hc9).2 k) ?_
            show Go p e below _ (s₁.setTop (mkF m 36 #[.val (.int p0), .val (.int p1), .val (.long q2), .second, .val (.int p3), .unset, .unset, .unset] []))
            refine Go.of (fun _ k => XS.bipush X0.here hx rfl (hb hby d42_36) k) ?_
            obtain ⟨fs, hr, hrun, hended, hW, hsame⟩ := X0.leave (v := some (.int (45 : Int32))) (fun h => by rw [Bd.returns] at h; cases h)
            refine Go.mk _ _ ?_ hrun hended ⟨_, _, rfl, ?_, ⟨_, rfl⟩, hW, hsame.mono (by decide) (by decide)⟩
            · exact retN X0 hx (t := .char) Bd.returns (by simp) (hb hby d42_38) hr
            · show Q42 Z p0 p1 q2 p3 h0 n0 _ s₁.heap _
              rw [e0]
              exact ⟨(congrArg (fun z => some (Value.int z)) (show own_exp p0 p1 q2 p3 = (45 : Int32) by unfold own_exp; rw [if_neg hc1, if_neg hc3, if_neg hc5, if_neg hc7, if_pos hc9]).symm), N0, (Keep.refl h0 [])⟩
          ·
            refine Go.of (fun _ k => XS.icmpYes X0.here hx rfl (pc0 := 33) (pc' := 39) rfl (hb hby d42_33) rfl (feq hc9).2 (by decide) (by decide) k) ?_
            show Go p e below _ (s₁.setTop (mkF m 39 #[.val (.int p0), .val (.int p1), .val (.long q2), .second, .val (.int p3), .unset, .unset, .unset] []))
            refine Go.of (fun _ k => XS.iloadN X0.here hx rfl (hb hby d42_39) rfl  k) ?_
            refine Go.of (fun _ k => XS.iconst X0.here hx rfl (hb hby d42_40) k) ?_
            refine Go.of (fun _ k => XS.isub X0.here hx rfl (hb hby d42_41) rfl k) ?_
            show Go p e below _ (s₁.setTop (mkF m 42 #[.val (.int p0), .val (.int p1), .val (.long q2), .second, .val (.int p3), .unset, .unset, .unset] [(.int (p0 - (5 : Int32)))]))
            refine Go.of (fun _ k => XS.istore X0.here hx rfl (hb hby d42_42) rfl (l' := #[.val (.int p0), .val (.int p1), .val (.long q2), .second, .val (.int p3), .val (.int (p0 - (5 : Int32))), .unset, .unset]) rfl k) ?_
            show Go p e below _ (s₁.setTop (mkF m 44 #[.val (.int p0), .val (.int p1), .val (.long q2), .second, .val (.int p3), .val (.int (p0 - (5 : Int32))), .unset, .unset] []))
            refine Go.of (fun _ k => XS.iloadN X0.here hx rfl (hb hby d42_44) rfl  k) ?_
            by_cases hc11 : p1 = (0 : Int32)
            ·
              refine Go.of (fun _ k => XS.ifYes X0.here hx rfl (pc0 := 45) (pc' := 62) rfl (hb hby d42_45) rfl ((if0 _ _).trans (teq hc11).1) (by decide) (by decide) k) ?_
              show Go p e below _ (s₁.setTop (mkF m 62 #[.val (.int p0), .val (.int p1), .val (.long q2), .second, .val (.int p3), .val (.int (p0 - (5 : Int32))), .unset, .unset] []))
              refine Go.of (fun _ k => XS.lloadN X0.here hx rfl (hb hby d42_62) rfl  k) ?_
              refine Go.of (fun _ k => XS.iload X0.here hx rfl (hb hby d42_63) rfl  k) ?_
              refine Go.of (fun _ k => XS.iconst X0.here hx rfl (hb hby d42_65) k) ?_
              refine Go.of (fun _ k => XS.isub X0.here hx rfl (hb hby d42_66) rfl k) ?_
              show Go p e below _ (s₁.setTop (mkF m 67 #[.val (.int p0), .val (.int p1), .val (.long q2), .second, .val (.int p3), .val (.int (p0 - (5 : Int32))), .unset, .unset] [(.int (p3 - (1 : Int32))), (.long q2)]))
              refine Go.of (fun _ k => XS.iload X0.here hx rfl (hb hby d42_67) rfl  k) ?_
              refine Go.of (fun _ k => XS.isub X0.here hx rfl (hb hby d42_69) rfl k) ?_
              show Go p e below _ (s₁.setTop (mkF m 70 #[.val (.int p0), .val (.int p1), .val (.long q2), .second, .val (.int p3), .val (.int (p0 - (5 : Int32))), .unset, .unset] [(.int ((p3 - (1 : Int32)) - (p0 - (5 : Int32)))), (.long q2)]))
              obtain ⟨_, _, ⟨T12, L12, k12, n12⟩, -, X12, ⟨Lc12, hQ12, l12, y12, z12⟩, st12⟩ := Jvm.LawKit.callS X0 hx (y := own_y_EngineExceptionHttpStatusPinLaw_pow10_34) hown (mvT hZ (own_h hw 253 rfl)) (mvT hZ (own_h hw 254 rfl)) (mvT hZ (own_h hw 213 rfl)) (mvT hZ (own_h hw 255 rfl)) (by decide) (backOf (W := 2) (rm43 l Z a0 hw [] ((p3 - (1 : Int32)) - (p0 - (5 : Int32))) h0 n0 Z0 ((hE hc1 hc3 hc5 hc7 hc9).1 hc11).1 ((hE hc1 hc3 hc5 hc7 hc9).1 hc11).2) hZ (own_h hw 255 rfl) (own_h hw 213 rfl) (by decide) (by decide)) (g := (mkF m 70 #[.val (.int p0), .val (.int p1), .val (.long q2), .second, .val (.int p3), .val (.int (p0 - (5 : Int32))), .unset, .unset] [(.int ((p3 - (1 : Int32)) - (p0 - (5 : Int32)))), (.long q2)])) rfl (by rw [hml]; rfl) (argsL := [(.int ((p3 - (1 : Int32)) - (p0 - (5 : Int32))))]) (rest := [(.long q2)]) (lenOf pd_26 rfl) rfl (Nat.le_of_eq rfl) (hb hby d42_70) (fun _ _ => ⟨rfl, e0, (by decide : 0 + 1 ≤ _), (by decide : 0 + 10 ≤ _)⟩)
              dsimp only [Pt.U, Pt.locs, Pt.cells, Pt.slots] at X12 l12 y12 z12 st12 hQ12
              subst l12 y12 z12
              obtain ⟨rfl, Nq12, q12_0⟩ := hQ12
              have N12 := Fr.app N0 Nq12
              refine Go.of st12 ?_
              have K12 : Keep h0 T12.heap [] := ((Keep.refl h0 [])).trans q12_0 all0
              have Z12 : n0 ≤ T12.heap.size := Nat.le_trans Z0 q12_0.1
              show Go p e below _ (T12.setTop (mkF m 73 #[.val (.int p0), .val (.int p1), .val (.long q2), .second, .val (.int p3), .val (.int (p0 - (5 : Int32))), .unset, .unset] [(.long (own_pow ((p3 - (1 : Int32)) - (p0 - (5 : Int32))))), (.long q2)]))
              refine Go.of (fun _ k => XS.ldiv X12.here hx rfl (hb hby d42_73) rfl (own_pownz ((hE hc1 hc3 hc5 hc7 hc9).1 hc11)) k) ?_
              show Go p e below _ (T12.setTop (mkF m 74 #[.val (.int p0), .val (.int p1), .val (.long q2), .second, .val (.int p3), .val (.int (p0 - (5 : Int32))), .unset, .unset] [(.long (q2 / (own_pow ((p3 - (1 : Int32)) - (p0 - (5 : Int32))))))]))
              refine Go.of (fun _ k => X12.ldc2Long hx hown (mvT hZ (own_h hw 223 rfl)) (g := (mkF m 74 #[.val (.int p0), .val (.int p1), .val (.long q2), .second, .val (.int p3), .val (.int (p0 - (5 : Int32))), .unset, .unset] [(.long (q2 / (own_pow ((p3 - (1 : Int32)) - (p0 - (5 : Int32))))))])) rfl (hb hby d42_74) _ k) ?_
              show Go p e below _ (T12.setTop (mkF m 77 #[.val (.int p0), .val (.int p1), .val (.long q2), .second, .val (.int p3), .val (.int (p0 - (5 : Int32))), .unset, .unset] [(.long (10 : Int64)), (.long (q2 / (own_pow ((p3 - (1 : Int32)) - (p0 - (5 : Int32))))))]))
              refine Go.of (fun _ k => XS.lrem X12.here hx rfl (hb hby d42_77) rfl (by decide) k) ?_
              show Go p e below _ (T12.setTop (mkF m 78 #[.val (.int p0), .val (.int p1), .val (.long q2), .second, .val (.int p3), .val (.int (p0 - (5 : Int32))), .unset, .unset] [(.long ((q2 / (own_pow ((p3 - (1 : Int32)) - (p0 - (5 : Int32))))) - ((q2 / (own_pow ((p3 - (1 : Int32)) - (p0 - (5 : Int32))))) / (10 : Int64)) * (10 : Int64)))]))
              refine Go.of (fun _ k => XS.lstore X12.here hx rfl (hb hby d42_78) rfl (l' := #[.val (.int p0), .val (.int p1), .val (.long q2), .second, .val (.int p3), .val (.int (p0 - (5 : Int32))), .val (.long ((q2 / (own_pow ((p3 - (1 : Int32)) - (p0 - (5 : Int32))))) - ((q2 / (own_pow ((p3 - (1 : Int32)) - (p0 - (5 : Int32))))) / (10 : Int64)) * (10 : Int64))), .second]) rfl k) ?_
              show Go p e below _ (T12.setTop (mkF m 80 #[.val (.int p0), .val (.int p1), .val (.long q2), .second, .val (.int p3), .val (.int (p0 - (5 : Int32))), .val (.long ((q2 / (own_pow ((p3 - (1 : Int32)) - (p0 - (5 : Int32))))) - ((q2 / (own_pow ((p3 - (1 : Int32)) - (p0 - (5 : Int32))))) / (10 : Int64)) * (10 : Int64))), .second] []))
              refine Go.of (fun _ k => XS.bipush X12.here hx rfl (hb hby d42_80) k) ?_
              refine Go.of (fun _ k => XS.lload X12.here hx rfl (hb hby d42_82) rfl  k) ?_
              refine Go.of (fun _ k => XS.l2i X12.here hx rfl (hb hby d42_84) rfl k) ?_
              show Go p e below _ (T12.setTop (mkF m 85 #[.val (.int p0), .val (.int p1), .val (.long q2), .second, .val (.int p3), .val (.int (p0 - (5 : Int32))), .val (.long ((q2 / (own_pow ((p3 - (1 : Int32)) - (p0 - (5 : Int32))))) - ((q2 / (own_pow ((p3 - (1 : Int32)) - (p0 - (5 : Int32))))) / (10 : Int64)) * (10 : Int64))), .second] [(.int (((q2 / (own_pow ((p3 - (1 : Int32)) - (p0 - (5 : Int32))))) - ((q2 / (own_pow ((p3 - (1 : Int32)) - (p0 - (5 : Int32))))) / (10 : Int64)) * (10 : Int64)).toInt32)), (.int (48 : Int32))]))
              refine Go.of (fun _ k => XS.iadd X12.here hx rfl (hb hby d42_85) rfl k) ?_
              show Go p e below _ (T12.setTop (mkF m 86 #[.val (.int p0), .val (.int p1), .val (.long q2), .second, .val (.int p3), .val (.int (p0 - (5 : Int32))), .val (.long ((q2 / (own_pow ((p3 - (1 : Int32)) - (p0 - (5 : Int32))))) - ((q2 / (own_pow ((p3 - (1 : Int32)) - (p0 - (5 : Int32))))) / (10 : Int64)) * (10 : Int64))), .second] [(.int ((48 : Int32) + (((q2 / (own_pow ((p3 - (1 : Int32)) - (p0 - (5 : Int32))))) - ((q2 / (own_pow ((p3 - (1 : Int32)) - (p0 - (5 : Int32))))) / (10 : Int64)) * (10 : Int64)).toInt32)))]))
              refine Go.of (fun _ k => XS.i2c X12.here hx rfl (hb hby d42_86) rfl k) ?_
              show Go p e below _ (T12.setTop (mkF m 87 #[.val (.int p0), .val (.int p1), .val (.long q2), .second, .val (.int p3), .val (.int (p0 - (5 : Int32))), .val (.long ((q2 / (own_pow ((p3 - (1 : Int32)) - (p0 - (5 : Int32))))) - ((q2 / (own_pow ((p3 - (1 : Int32)) - (p0 - (5 : Int32))))) / (10 : Int64)) * (10 : Int64))), .second] [(.int (((48 : Int32) + (((q2 / (own_pow ((p3 - (1 : Int32)) - (p0 - (5 : Int32))))) - ((q2 / (own_pow ((p3 - (1 : Int32)) - (p0 - (5 : Int32))))) / (10 : Int64)) * (10 : Int64)).toInt32)).toUInt32.toUInt16.toUInt32.toInt32))]))
              obtain ⟨fs, hr, hrun, hended, hW, hsame⟩ := X12.leave (v := some (.int (nar .char (((48 : Int32) + (((q2 / (own_pow ((p3 - (1 : Int32)) - (p0 - (5 : Int32))))) - ((q2 / (own_pow ((p3 - (1 : Int32)) - (p0 - (5 : Int32))))) / (10 : Int64)) * (10 : Int64)).toInt32)).toUInt32.toUInt16.toUInt32.toInt32)))) (fun h => by rw [Bd.returns] at h; cases h)
              refine Go.mk _ _ ?_ hrun hended ⟨_, _, rfl, ?_, ⟨_, rfl⟩, hW, hsame.mono (by decide) (by decide)⟩
              · exact retN X12 hx (t := .char) Bd.returns (by simp) (hb hby d42_87) hr
              · show Q42 Z p0 p1 q2 p3 h0 n0 _ T12.heap _
                exact ⟨(congrArg (fun z => some (Value.int z)) (show own_exp p0 p1 q2 p3 = own_ch q2 ((p3 - (1 : Int32)) - (p0 - (5 : Int32))) by unfold own_exp; rw [if_neg hc1, if_neg hc3, if_neg hc5, if_neg hc7, if_neg hc9, if_pos hc11]).symm), N12, K12⟩
            ·
              refine Go.of (fun _ k => XS.ifNo X0.here hx rfl (hb hby d42_45) rfl ((if0 _ _).trans (feq hc11).1) k) ?_
              show Go p e below _ (s₁.setTop (mkF m 48 #[.val (.int p0), .val (.int p1), .val (.long q2), .second, .val (.int p3), .val (.int (p0 - (5 : Int32))), .unset, .unset] []))
              refine Go.of (fun _ k => XS.iload X0.here hx rfl (hb hby d42_48) rfl  k) ?_
              by_cases hc14 : (p0 - (5 : Int32)) = (0 : Int32)
              ·
                refine Go.of (fun _ k => XS.ifNo X0.here hx rfl (hb hby d42_50) rfl ((if0 _ _).trans (teq hc14).2) k) ?_
                show Go p e below _ (s₁.setTop (mkF m 53 #[.val (.int p0), .val (.int p1), .val (.long q2), .second, .val (.int p3), .val (.int (p0 - (5 : Int32))), .unset, .unset] []))
                refine Go.of (fun _ k => XS.bipush X0.here hx rfl (hb hby d42_53) k) ?_
                obtain ⟨fs, hr, hrun, hended, hW, hsame⟩ := X0.leave (v := some (.int (45 : Int32))) (fun h => by rw [Bd.returns] at h; cases h)
                refine Go.mk _ _ ?_ hrun hended ⟨_, _, rfl, ?_, ⟨_, rfl⟩, hW, hsame.mono (by decide) (by decide)⟩
                · exact retN X0 hx (t := .char) Bd.returns (by simp) (hb hby d42_55) hr
                · show Q42 Z p0 p1 q2 p3 h0 n0 _ s₁.heap _
                  rw [e0]
                  exact ⟨(congrArg (fun z => some (Value.int z)) (show own_exp p0 p1 q2 p3 = (45 : Int32) by unfold own_exp; rw [if_neg hc1, if_neg hc3, if_neg hc5, if_neg hc7, if_neg hc9, if_neg hc11, if_pos hc14]).symm), N0, (Keep.refl h0 [])⟩
              ·
                refine Go.of (fun _ k => XS.ifYes X0.here hx rfl (pc0 := 50) (pc' := 56) rfl (hb hby d42_50) rfl ((if0 _ _).trans (feq hc14).2) (by decide) (by decide) k) ?_
                show Go p e below _ (s₁.setTop (mkF m 56 #[.val (.int p0), .val (.int p1), .val (.long q2), .second, .val (.int p3), .val (.int (p0 - (5 : Int32))), .unset, .unset] []))
                refine Go.of (fun _ k => XS.iload X0.here hx rfl (hb hby d42_56) rfl  k) ?_
                refine Go.of (fun _ k => XS.iconst X0.here hx rfl (hb hby d42_58) k) ?_
                refine Go.of (fun _ k => XS.isub X0.here hx rfl (hb hby d42_59) rfl k) ?_
                show Go p e below _ (s₁.setTop (mkF m 60 #[.val (.int p0), .val (.int p1), .val (.long q2), .second, .val (.int p3), .val (.int (p0 - (5 : Int32))), .unset, .unset] [(.int ((p0 - (5 : Int32)) - (1 : Int32)))]))
                refine Go.of (fun _ k => XS.istore X0.here hx rfl (hb hby d42_60) rfl (l' := #[.val (.int p0), .val (.int p1), .val (.long q2), .second, .val (.int p3), .val (.int ((p0 - (5 : Int32)) - (1 : Int32))), .unset, .unset]) rfl k) ?_
                show Go p e below _ (s₁.setTop (mkF m 62 #[.val (.int p0), .val (.int p1), .val (.long q2), .second, .val (.int p3), .val (.int ((p0 - (5 : Int32)) - (1 : Int32))), .unset, .unset] []))
                refine Go.of (fun _ k => XS.lloadN X0.here hx rfl (hb hby d42_62) rfl  k) ?_
                refine Go.of (fun _ k => XS.iload X0.here hx rfl (hb hby d42_63) rfl  k) ?_
                refine Go.of (fun _ k => XS.iconst X0.here hx rfl (hb hby d42_65) k) ?_
                refine Go.of (fun _ k => XS.isub X0.here hx rfl (hb hby d42_66) rfl k) ?_
                show Go p e below _ (s₁.setTop (mkF m 67 #[.val (.int p0), .val (.int p1), .val (.long q2), .second, .val (.int p3), .val (.int ((p0 - (5 : Int32)) - (1 : Int32))), .unset, .unset] [(.int (p3 - (1 : Int32))), (.long q2)]))
                refine Go.of (fun _ k => XS.iload X0.here hx rfl (hb hby d42_67) rfl  k) ?_
                refine Go.of (fun _ k => XS.isub X0.here hx rfl (hb hby d42_69) rfl k) ?_
                show Go p e below _ (s₁.setTop (mkF m 70 #[.val (.int p0), .val (.int p1), .val (.long q2), .second, .val (.int p3), .val (.int ((p0 - (5 : Int32)) - (1 : Int32))), .unset, .unset] [(.int ((p3 - (1 : Int32)) - ((p0 - (5 : Int32)) - (1 : Int32)))), (.long q2)]))
                obtain ⟨_, _, ⟨T16, L16, k16, n16⟩, -, X16, ⟨Lc16, hQ16, l16, y16, z16⟩, st16⟩ := Jvm.LawKit.callS X0 hx (y := own_y_EngineExceptionHttpStatusPinLaw_pow10_34) hown (mvT hZ (own_h hw 253 rfl)) (mvT hZ (own_h hw 254 rfl)) (mvT hZ (own_h hw 213 rfl)) (mvT hZ (own_h hw 255 rfl)) (by decide) (backOf (W := 2) (rm43 l Z a0 hw [] ((p3 - (1 : Int32)) - ((p0 - (5 : Int32)) - (1 : Int32))) h0 n0 Z0 ((hE hc1 hc3 hc5 hc7 hc9).2 hc11 hc14).1 ((hE hc1 hc3 hc5 hc7 hc9).2 hc11 hc14).2) hZ (own_h hw 255 rfl) (own_h hw 213 rfl) (by decide) (by decide)) (g := (mkF m 70 #[.val (.int p0), .val (.int p1), .val (.long q2), .second, .val (.int p3), .val (.int ((p0 - (5 : Int32)) - (1 : Int32))), .unset, .unset] [(.int ((p3 - (1 : Int32)) - ((p0 - (5 : Int32)) - (1 : Int32)))), (.long q2)])) rfl (by rw [hml]; rfl) (argsL := [(.int ((p3 - (1 : Int32)) - ((p0 - (5 : Int32)) - (1 : Int32))))]) (rest := [(.long q2)]) (lenOf pd_26 rfl) rfl (Nat.le_of_eq rfl) (hb hby d42_70) (fun _ _ => ⟨rfl, e0, (by decide : 0 + 1 ≤ _), (by decide : 0 + 10 ≤ _)⟩)
                dsimp only [Pt.U, Pt.locs, Pt.cells, Pt.slots] at X16 l16 y16 z16 st16 hQ16
                subst l16 y16 z16
                obtain ⟨rfl, Nq16, q16_0⟩ := hQ16
                have N16 := Fr.app N0 Nq16
                refine Go.of st16 ?_
                have K16 : Keep h0 T16.heap [] := ((Keep.refl h0 [])).trans q16_0 all0
                have Z16 : n0 ≤ T16.heap.size := Nat.le_trans Z0 q16_0.1
                show Go p e below _ (T16.setTop (mkF m 73 #[.val (.int p0), .val (.int p1), .val (.long q2), .second, .val (.int p3), .val (.int ((p0 - (5 : Int32)) - (1 : Int32))), .unset, .unset] [(.long (own_pow ((p3 - (1 : Int32)) - ((p0 - (5 : Int32)) - (1 : Int32))))), (.long q2)]))
                refine Go.of (fun _ k => XS.ldiv X16.here hx rfl (hb hby d42_73) rfl (own_pownz ((hE hc1 hc3 hc5 hc7 hc9).2 hc11 hc14)) k) ?_
                show Go p e below _ (T16.setTop (mkF m 74 #[.val (.int p0), .val (.int p1), .val (.long q2), .second, .val (.int p3), .val (.int ((p0 - (5 : Int32)) - (1 : Int32))), .unset, .unset] [(.long (q2 / (own_pow ((p3 - (1 : Int32)) - ((p0 - (5 : Int32)) - (1 : Int32))))))]))
                refine Go.of (fun _ k => X16.ldc2Long hx hown (mvT hZ (own_h hw 223 rfl)) (g := (mkF m 74 #[.val (.int p0), .val (.int p1), .val (.long q2), .second, .val (.int p3), .val (.int ((p0 - (5 : Int32)) - (1 : Int32))), .unset, .unset] [(.long (q2 / (own_pow ((p3 - (1 : Int32)) - ((p0 - (5 : Int32)) - (1 : Int32))))))])) rfl (hb hby d42_74) _ k) ?_
                show Go p e below _ (T16.setTop (mkF m 77 #[.val (.int p0), .val (.int p1), .val (.long q2), .second, .val (.int p3), .val (.int ((p0 - (5 : Int32)) - (1 : Int32))), .unset, .unset] [(.long (10 : Int64)), (.long (q2 / (own_pow ((p3 - (1 : Int32)) - ((p0 - (5 : Int32)) - (1 : Int32))))))]))
                refine Go.of (fun _ k => XS.lrem X16.here hx rfl (hb hby d42_77) rfl (by decide) k) ?_
                show Go p e below _ (T16.setTop (mkF m 78 #[.val (.int p0), .val (.int p1), .val (.long q2), .second, .val (.int p3), .val (.int ((p0 - (5 : Int32)) - (1 : Int32))), .unset, .unset] [(.long ((q2 / (own_pow ((p3 - (1 : Int32)) - ((p0 - (5 : Int32)) - (1 : Int32))))) - ((q2 / (own_pow ((p3 - (1 : Int32)) - ((p0 - (5 : Int32)) - (1 : Int32))))) / (10 : Int64)) * (10 : Int64)))]))
                refine Go.of (fun _ k => XS.lstore X16.here hx rfl (hb hby d42_78) rfl (l' := #[.val (.int p0), .val (.int p1), .val (.long q2), .second, .val (.int p3), .val (.int ((p0 - (5 : Int32)) - (1 : Int32))), .val (.long ((q2 / (own_pow ((p3 - (1 : Int32)) - ((p0 - (5 : Int32)) - (1 : Int32))))) - ((q2 / (own_pow ((p3 - (1 : Int32)) - ((p0 - (5 : Int32)) - (1 : Int32))))) / (10 : Int64)) * (10 : Int64))), .second]) rfl k) ?_
                show Go p e below _ (T16.setTop (mkF m 80 #[.val (.int p0), .val (.int p1), .val (.long q2), .second, .val (.int p3), .val (.int ((p0 - (5 : Int32)) - (1 : Int32))), .val (.long ((q2 / (own_pow ((p3 - (1 : Int32)) - ((p0 - (5 : Int32)) - (1 : Int32))))) - ((q2 / (own_pow ((p3 - (1 : Int32)) - ((p0 - (5 : Int32)) - (1 : Int32))))) / (10 : Int64)) * (10 : Int64))), .second] []))
                refine Go.of (fun _ k => XS.bipush X16.here hx rfl (hb hby d42_80) k) ?_
                refine Go.of (fun _ k => XS.lload X16.here hx rfl (hb hby d42_82) rfl  k) ?_
                refine Go.of (fun _ k => XS.l2i X16.here hx rfl (hb hby d42_84) rfl k) ?_
                show Go p e below _ (T16.setTop (mkF m 85 #[.val (.int p0), .val (.int p1), .val (.long q2), .second, .val (.int p3), .val (.int ((p0 - (5 : Int32)) - (1 : Int32))), .val (.long ((q2 / (own_pow ((p3 - (1 : Int32)) - ((p0 - (5 : Int32)) - (1 : Int32))))) - ((q2 / (own_pow ((p3 - (1 : Int32)) - ((p0 - (5 : Int32)) - (1 : Int32))))) / (10 : Int64)) * (10 : Int64))), .second] [(.int (((q2 / (own_pow ((p3 - (1 : Int32)) - ((p0 - (5 : Int32)) - (1 : Int32))))) - ((q2 / (own_pow ((p3 - (1 : Int32)) - ((p0 - (5 : Int32)) - (1 : Int32))))) / (10 : Int64)) * (10 : Int64)).toInt32)), (.int (48 : Int32))]))
                refine Go.of (fun _ k => XS.iadd X16.here hx rfl (hb hby d42_85) rfl k) ?_
                show Go p e below _ (T16.setTop (mkF m 86 #[.val (.int p0), .val (.int p1), .val (.long q2), .second, .val (.int p3), .val (.int ((p0 - (5 : Int32)) - (1 : Int32))), .val (.long ((q2 / (own_pow ((p3 - (1 : Int32)) - ((p0 - (5 : Int32)) - (1 : Int32))))) - ((q2 / (own_pow ((p3 - (1 : Int32)) - ((p0 - (5 : Int32)) - (1 : Int32))))) / (10 : Int64)) * (10 : Int64))), .second] [(.int ((48 : Int32) + (((q2 / (own_pow ((p3 - (1 : Int32)) - ((p0 - (5 : Int32)) - (1 : Int32))))) - ((q2 / (own_pow ((p3 - (1 : Int32)) - ((p0 - (5 : Int32)) - (1 : Int32))))) / (10 : Int64)) * (10 : Int64)).toInt32)))]))
                refine Go.of (fun _ k => XS.i2c X16.here hx rfl (hb hby d42_86) rfl k) ?_
                show Go p e below _ (T16.setTop (mkF m 87 #[.val (.int p0), .val (.int p1), .val (.long q2), .second, .val (.int p3), .val (.int ((p0 - (5 : Int32)) - (1 : Int32))), .val (.long ((q2 / (own_pow ((p3 - (1 : Int32)) - ((p0 - (5 : Int32)) - (1 : Int32))))) - ((q2 / (own_pow ((p3 - (1 : Int32)) - ((p0 - (5 : Int32)) - (1 : Int32))))) / (10 : Int64)) * (10 : Int64))), .second] [(.int (((48 : Int32) + (((q2 / (own_pow ((p3 - (1 : Int32)) - ((p0 - (5 : Int32)) - (1 : Int32))))) - ((q2 / (own_pow ((p3 - (1 : Int32)) - ((p0 - (5 : Int32)) - (1 : Int32))))) / (10 : Int64)) * (10 : Int64)).toInt32)).toUInt32.toUInt16.toUInt32.toInt32))]))
                obtain ⟨fs, hr, hrun, hended, hW, hsame⟩ := X16.leave (v := some (.int (nar .char (((48 : Int32) + (((q2 / (own_pow ((p3 - (1 : Int32)) - ((p0 - (5 : Int32)) - (1 : Int32))))) - ((q2 / (own_pow ((p3 - (1 : Int32)) - ((p0 - (5 : Int32)) - (1 : Int32))))) / (10 : Int64)) * (10 : Int64)).toInt32)).toUInt32.toUInt16.toUInt32.toInt32)))) (fun h => by rw [Bd.returns] at h; cases h)
                refine Go.mk _ _ ?_ hrun hended ⟨_, _, rfl, ?_, ⟨_, rfl⟩, hW, hsame.mono (by decide) (by decide)⟩
                · exact retN X16 hx (t := .char) Bd.returns (by simp) (hb hby d42_87) hr
                · show Q42 Z p0 p1 q2 p3 h0 n0 _ T16.heap _
                  exact ⟨(congrArg (fun z => some (Value.int z)) (show own_exp p0 p1 q2 p3 = own_ch q2 ((p3 - (1 : Int32)) - ((p0 - (5 : Int32)) - (1 : Int32))) by unfold own_exp; rw [if_neg hc1, if_neg hc3, if_neg hc5, if_neg hc7, if_neg hc9, if_neg hc11, if_neg hc14]).symm), N16, K16⟩
theorem d36_0 : decode method_5_code 0 = .ok (.iload_n 1, 1) := by decide +kernel
theorem d36_1 : decode method_5_code 1 = .ok (.iload_n 2, 1) := by decide +kernel
theorem d36_2 : decode method_5_code 2 = .ok (.if_icmp .lt 5, 3) := by decide +kernel
theorem d36_7 : decode method_5_code 7 = .ok (.aload_n 0, 1) := by decide +kernel
theorem d36_8 : decode method_5_code 8 = .ok (.iload_n 1, 1) := by decide +kernel
theorem d36_9 : decode method_5_code 9 = .ok (.invokevirtual 57, 3) := by decide +kernel
theorem pd_27 : parseMethodDescriptor "(I)C" = some ⟨[.int], some .char⟩ := by decide +kernel
abbrev own_y_String_charAt_35 : MethodName := ⟨"java/lang/String", "charAt", "(I)C"⟩
theorem d36_12 : decode method_5_code 12 = .ok (.iload_n 1, 1) := by decide +kernel
theorem d36_13 : decode method_5_code 13 = .ok (.iload_n 3, 1) := by decide +kernel
theorem d36_14 : decode method_5_code 14 = .ok (.lload 4, 2) := by decide +kernel
theorem d36_16 : decode method_5_code 16 = .ok (.iload 6, 2) := by decide +kernel
theorem d36_18 : decode method_5_code 18 = .ok (.invokestatic 61, 3) := by decide +kernel
theorem pd_28 : parseMethodDescriptor "(IZJI)C" = some ⟨[.int, .boolean, .long, .int], some .char⟩ := by decide +kernel
abbrev own_y_EngineExceptionHttpStatusPinLaw_expected_36 : MethodName := ⟨"com/example/metasearchd/metasearchd/engine/EngineExceptionHttpStatusPinLaw", "expected", "(IZJI)C"⟩
theorem d36_21 : decode method_5_code 21 = .ok (.if_icmp .ne 7, 3) := by decide +kernel
theorem d36_24 : decode method_5_code 24 = .ok (.iconst 1, 1) := by decide +kernel
theorem d36_25 : decode method_5_code 25 = .ok (.goto 4, 3) := by decide +kernel
theorem d36_29 : decode method_5_code 29 = .ok (.ireturn, 1) := by decide +kernel
theorem d36_5 : decode method_5_code 5 = .ok (.iconst 1, 1) := by decide +kernel
theorem d36_6 : decode method_5_code 6 = .ok (.ireturn, 1) := by decide +kernel
theorem ef_36 (m : MethodId) (x0 : Addr) (x1 : Int32) (x2 : Int32) (x3 : Int32) (x4 : Int64) (x5 : Int32) : entryFrame m #[(.ref x0), (.int x1), (.int x2), (.int x3), (.long x4), (.int x5)] 7 = mkF m 0 #[.val (.ref x0), .val (.int x1), .val (.int x2), .val (.int x3), .val (.long x4), .second, .val (.int x5)] [] := by first | (simp [entryFrame, mkF, argsToLocals, Value.category]; done) | rfl
def Q36 (Z : State) (o0 : Addr) (p1 : Int32) (p2 : Int32) (p3 : Int32) (q4 : Int64) (p5 : Int32) (z0 : Int32) (vs0 : List Value) (e8_12_9 : Int32) (w_COMPACT_STRINGS : Int32) (f_o0_value : Addr) (kv : ClassId) (v_SIOOBE_FORMATTER : Value) (h0 : Heap) (n0 : Nat) (v : Option Value) (h : Heap) (L : List Loc) : Prop := v = some (.int (1 : Int32)) ∧ Fr n0 L ∧ Keep h0 h []
set_option maxRecDepth 65536 in
set_option maxHeartbeats 40000000 in
theorem rm36 (l : Launch) (Z : State) (a0 : Array Value) (hw : ∀ d ∈ tables_1, d.before a0 Z = true) (ws : List Jvm.Cond) (o0 : Addr) (p1 : Int32) (p2 : Int32) (p3 : Int32) (q4 : Int64) (p5 : Int32) (z0 : Int32) (vs0 : List Value) (e8_12_9 : Int32) (w_COMPACT_STRINGS : Int32) (f_o0_value : Addr) (kv : ClassId) (v_SIOOBE_FORMATTER : Value) (h0 : Heap) (n0 : Nat) (Z0 : n0 ≤ h0.size) (S_COMPACT_STRINGS : Sta Z h0 "java/lang/String" "COMPACT_STRINGS" "Z" (.int w_COMPACT_STRINGS)) (hc3_1_2 : ¬ (w_COMPACT_STRINGS = (0 : Int32))) (F_o0_coder : Fld Z h0 o0 "java/lang/String" "coder" "B" (.int (0 : Int32))) (E_o0 : Exa Z h0 o0 "java/lang/String") (F_o0_value : Fld Z h0 o0 "java/lang/String" "value" "[B" (.ref f_o0_value)) (V_f_o0_value : Arv Z h0 f_o0_value kv .byte z0 vs0 (.int (0 : Int32))) (S_SIOOBE_FORMATTER : Sta Z h0 "jdk/internal/util/Preconditions" "SIOOBE_FORMATTER" "Ljava/util/function/BiFunction;" v_SIOOBE_FORMATTER) (hr_v_SIOOBE_FORMATTER : v_SIOOBE_FORMATTER.isRef = true) (hi8 : p1 < p2 → ¬ (p1 < (0 : Int32))) (hi9 : p1 < p2 → p1 < z0) (hi10 : p1 < p2 → vs0.getD (p1).toNatClampNeg (.int (0 : Int32)) = (.int e8_12_9)) (hi11 : p1 < p2 → own_ok p1 p3 p5) (hi12 : p1 < p2 → (own_cc e8_12_9) = (own_exp p1 p3 q4 p5)) :
    MetFree l (⟨"com/example/metasearchd/metasearchd/engine/EngineExceptionHttpStatusPinLaw", "at", "(Ljava/lang/String;IIZJI)Z"⟩ : MethodName) (head1 (Jvm.Cond.code (⟨"com/example/metasearchd/metasearchd/engine/EngineExceptionHttpStatusPinLaw", "at", "(Ljava/lang/String;IIZJI)Z"⟩ : MethodName) method_5_code 7 (some .boolean) :: ws) ({ frames := 4, cells := 1, slots := 10, locals := 53 } : Room)) (fun a U => a = #[(.ref o0), (.int p1), (.int p2), (.int p3), (.long q4), (.int p5)] ∧ Z.Warmed39 U.vm ∧ U.heap = h0) (fun _ _ _ _ _ => True) (fun _ U o U' => ∃ v L, o = .returned v ∧ Q36 Z o0 p1 p2 p3 q4 p5 z0 vs0 e8_12_9 w_COMPACT_STRINGS f_o0_value kv v_SIOOBE_FORMATTER h0 n0 v U'.heap L ∧ FrameEnd U o U' L ({ frames := 4, cells := 1, slots := 10, locals := 53 } : Room).cells ({ frames := 4, cells := 1, slots := 10, locals := 53 } : Room).slots) := by
  refine MetFree.of_bodySF (plainFor_of_name pn_com_example_metasearchd_metasearchd_engine_EngineExceptionHttpStatusPinLaw) hisR ?_
  intro p e s m args below meth c s₁ Bd hml0 hP hK
  obtain ⟨rfl, hZ, hh⟩ := hP
  have hx := Bd.exec
  have hby := Bd.bytes
  have hml : c.maxLocals = 7 := hml0
  have hown : s.vm.findClass "com/example/metasearchd/metasearchd/engine/EngineExceptionHttpStatusPinLaw" = some m.cls := findClass_of_methodNamed Bd.named
  have hnm := (name_of_methodNamed Bd.named Bd.method).1
  have X0 : Stand p l e ({ frames := 4, cells := 1, slots := 10, locals := 53 } : Room) s m #[(.ref o0), (.int p1), (.int p2), (.int p3), (.long q4), (.int p5)] below meth c s₁ [] 0 0 := Stand.of_body Bd
  have e0 : s₁.heap = h0 := by rw [← hh, Bd.state]; rfl
  have N0 := Fr.nil n0
  show Go p e below (fun o U' => ∃ v L, o = .returned v ∧ Q36 Z o0 p1 p2 p3 q4 p5 z0 vs0 e8_12_9 w_COMPACT_STRINGS f_o0_value kv v_SIOOBE_FORMATTER h0 n0 v U'.heap L ∧ FrameEnd s o U' L ({ frames := 4, cells := 1, slots := 10, locals := 53 } : Room).cells ({ frames := 4, cells := 1, slots := 10, locals := 53 } : Room).slots) (s₁.setTop (entryFrame m #[(.ref o0), (.int p1), (.int p2), (.int p3), (.long q4), (.int p5)] 7))
  refine Go.of (fun _ k => castTop (ef_36 m o0 p1 p2 p3 q4 p5) k) ?_
  show Go p e below _ (s₁.setTop (mkF m 0 #[.val (.ref o0), .val (.int p1), .val (.int p2), .val (.int p3), .val (.long q4), .second, .val (.int p5)] []))
  refine Go.of (fun _ k => XS.iloadN X0.here hx rfl (hb hby d36_0) rfl  k) ?_
  refine Go.of (fun _ k => XS.iloadN X0.here hx rfl (hb hby d36_1) rfl  k) ?_
  by_cases hc1 : p1 < p2
  ·
    refine Go.of (fun _ k => XS.icmpYes X0.here hx rfl (pc0 := 2) (pc' := 7) rfl (hb hby d36_2) rfl (tlt hc1).1 (by decide) (by decide) k) ?_
    show Go p e below _ (s₁.setTop (mkF m 7 #[.val (.ref o0), .val (.int p1), .val (.int p2), .val (.int p3), .val (.long q4), .second, .val (.int p5)] []))
    refine Go.of (fun _ k => XS.aloadN X0.here hx rfl (hb hby d36_7) rfl rfl k) ?_
    refine Go.of (fun _ k => XS.iloadN X0.here hx rfl (hb hby d36_8) rfl  k) ?_
    obtain ⟨cq2, kq2, q2a, q2b, q2c⟩ := isOf hZ e0 E_o0
    obtain ⟨_, _, ⟨T2, L2, k2, n2⟩, -, X2, ⟨Lc2, hQ2, l2, y2, z2⟩, st2⟩ := X0.virtualBack hx (y := own_y_String_charAt_35) (z := own_y_String_charAt_35) hown (mvT hZ (own_h hw 228 rfl)) (mvT hZ (own_h hw 229 rfl)) (notFace_of_selects (args := #[]) (mvT hZ (own_h hw 231 rfl))) (mvT hZ (own_h hw 231 rfl)) (mvT hZ (own_h hw 230 rfl)) (by decide) (backOf (W := 0) (rm37 l Z a0 hw [] o0 p1 z0 vs0 w_COMPACT_STRINGS f_o0_value e8_12_9 kv v_SIOOBE_FORMATTER h0 n0 Z0 S_COMPACT_STRINGS hc3_1_2 F_o0_coder E_o0 F_o0_value V_f_o0_value S_SIOOBE_FORMATTER hr_v_SIOOBE_FORMATTER (hi8 hc1) (hi9 hc1) (hi10 hc1)) hZ (own_h hw 232 rfl) (own_h hw 22 rfl) (by decide) (by decide)) q2a q2c (g := (mkF m 9 #[.val (.ref o0), .val (.int p1), .val (.int p2), .val (.int p3), .val (.long q4), .second, .val (.int p5)] [(.int p1), (.ref o0)])) rfl (by rw [hml]; rfl) (Steps.refl _) (argsL := [(.int p1)]) (rest := []) (lenOf pd_27 rfl) rfl (Nat.le_of_eq rfl) (hb hby d36_9) (fun _ _ => ⟨rfl, e0, (by decide : 0 + 0 ≤ _), (by decide : 0 + 0 ≤ _)⟩)
    dsimp only [Pt.U, Pt.locs, Pt.cells, Pt.slots] at X2 l2 y2 z2 st2 hQ2
    subst l2 y2 z2
    obtain ⟨rfl, Nq2, q2_0⟩ := hQ2
    have N2 := Fr.app N0 Nq2
    refine Go.tr st2 ?_
    show Go p e below _ (T2.setTop (mkF m 12 #[.val (.ref o0), .val (.int p1), .val (.int p2), .val (.int p3), .val (.long q4), .second, .val (.int p5)] [(.int (own_cc e8_12_9))]))
    refine Go.of (fun _ k => XS.iloadN X2.here hx rfl (hb hby d36_12) rfl  k) ?_
    refine Go.of (fun _ k => XS.iloadN X2.here hx rfl (hb hby d36_13) rfl  k) ?_
    refine Go.of (fun _ k => XS.lload X2.here hx rfl (hb hby d36_14) rfl  k) ?_
    refine Go.of (fun _ k => XS.iload X2.here hx rfl (hb hby d36_16) rfl  k) ?_
    obtain ⟨_, _, ⟨T3, L3, k3, n3⟩, -, X3, ⟨Lc3, hQ3, l3, y3, z3⟩, st3⟩ := Jvm.LawKit.callS X2 hx (y := own_y_EngineExceptionHttpStatusPinLaw_expected_36) hown (mvT hZ (own_h hw 250 rfl)) (mvT hZ (own_h hw 251 rfl)) (mvT hZ (own_h hw 213 rfl)) (mvT hZ (own_h hw 252 rfl)) (by decide) (backOf (W := 1) (rm42 l Z a0 hw [] p1 p3 q4 p5 h0 n0 Z0 (hi11 hc1)) hZ (own_h hw 252 rfl) (own_h hw 213 rfl) (by decide) (by decide)) (g := (mkF m 18 #[.val (.ref o0), .val (.int p1), .val (.int p2), .val (.int p3), .val (.long q4), .second, .val (.int p5)] [(.int p5), (.long q4), (.int p3), (.int p1), (.int (own_cc e8_12_9))])) rfl (by rw [hml]; rfl) (argsL := [(.int p1), (.int p3), (.long q4), (.int p5)]) (rest := [(.int (own_cc e8_12_9))]) (lenOf pd_28 rfl) rfl (Nat.le_of_eq rfl) (hb hby d36_18) (fun _ _ => ⟨rfl, q2_0, (by decide : 0 + 1 ≤ _), (by decide : 0 + 10 ≤ _)⟩)
    dsimp only [Pt.U, Pt.locs, Pt.cells, Pt.slots] at X3 l3 y3 z3 st3 hQ3
    subst l3 y3 z3
    obtain ⟨rfl, Nq3, q3_0⟩ := hQ3
    have N3 := Fr.app N2 Nq3
    refine Go.of st3 ?_
    have K3 : Keep h0 T3.heap [] := ((Keep.refl h0 [])).trans q3_0 all0
    have Z3 : n0 ≤ T3.heap.size := Nat.le_trans Z0 q3_0.1
    show Go p e below _ (T3.setTop (mkF m 21 #[.val (.ref o0), .val (.int p1), .val (.int p2), .val (.int p3), .val (.long q4), .second, .val (.int p5)] [(.int (own_exp p1 p3 q4 p5)), (.int (own_cc e8_12_9))]))
    refine Go.of (fun _ k => XS.icmpNo X3.here hx rfl (hb hby d36_21) rfl (teq (hi12 hc1)).2 k) ?_
    show Go p e below _ (T3.setTop (mkF m 24 #[.val (.ref o0), .val (.int p1), .val (.int p2), .val (.int p3), .val (.long q4), .second, .val (.int p5)] []))
    refine Go.of (fun _ k => XS.iconst X3.here hx rfl (hb hby d36_24) k) ?_
    refine Go.of (fun _ k => XS.goto X3.here hx rfl (pc0 := 25) (pc' := 29) rfl (hb hby d36_25) (by decide) (by decide) k) ?_
    show Go p e below _ (T3.setTop (mkF m 29 #[.val (.ref o0), .val (.int p1), .val (.int p2), .val (.int p3), .val (.long q4), .second, .val (.int p5)] [(.int (1 : Int32))]))
    obtain ⟨fs, hr, hrun, hended, hW, hsame⟩ := X3.leave (v := some (.int (1 : Int32))) (fun h => by rw [Bd.returns] at h; cases h)
    refine Go.mk _ _ ?_ hrun hended ⟨_, _, rfl, ?_, ⟨_, rfl⟩, hW, hsame.mono (by decide) (by decide)⟩
    · exact retN X3 hx (t := .boolean) Bd.returns (by simp) (hb hby d36_29) hr
    · show Q36 Z o0 p1 p2 p3 q4 p5 z0 vs0 e8_12_9 w_COMPACT_STRINGS f_o0_value kv v_SIOOBE_FORMATTER h0 n0 _ T3.heap _
      exact ⟨rfl, N3, K3⟩
  ·
    refine Go.of (fun _ k => XS.icmpNo X0.here hx rfl (hb hby d36_2) rfl (flt hc1).1 k) ?_
    show Go p e below _ (s₁.setTop (mkF m 5 #[.val (.ref o0), .val (.int p1), .val (.int p2), .val (.int p3), .val (.long q4), .second, .val (.int p5)] []))
    refine Go.of (fun _ k => XS.iconst X0.here hx rfl (hb hby d36_5) k) ?_
    obtain ⟨fs, hr, hrun, hended, hW, hsame⟩ := X0.leave (v := some (.int (1 : Int32))) (fun h => by rw [Bd.returns] at h; cases h)
    refine Go.mk _ _ ?_ hrun hended ⟨_, _, rfl, ?_, ⟨_, rfl⟩, hW, hsame.mono (by decide) (by decide)⟩
    · exact retN X0 hx (t := .boolean) Bd.returns (by simp) (hb hby d36_6) hr
    · show Q36 Z o0 p1 p2 p3 q4 p5 z0 vs0 e8_12_9 w_COMPACT_STRINGS f_o0_value kv v_SIOOBE_FORMATTER h0 n0 _ s₁.heap _
      rw [e0]
      exact ⟨rfl, N0, (Keep.refl h0 [])⟩
/-- the number without its sign, as a long; how many digits, as an int -/
def own_v (x : Int32) : Int64 := Int64.ofNat (own_n x)
def own_nd (x : Int32) : Int32 := Int32.ofNat (own_dg x)
theorem own_dgb (x : Int32) : 1 ≤ own_dg x ∧ own_dg x ≤ 10 := Jvm.Free.SBG.digits_pos _
theorem own_sgP {x : Int32} (h : ¬ (x < (0 : Int32))) : own_sg x = 0 := if_neg h
theorem own_sgM {x : Int32} (h : x < (0 : Int32)) : own_sg x = 1 := if_pos h
theorem own_vI (x : Int32) : (own_v x).toInt = (own_n x : Int) := Int64.toInt_ofNat_of_lt (by have := (own_neg x).1; omega)
theorem own_ndI (x : Int32) : (own_nd x).toInt = (own_dg x : Int) := Int32.toInt_ofNat_of_lt (by have := own_dgb x; omega)
theorem own_absP {x : Int32} (h : ¬ (x < (0 : Int32))) : x.toInt64 = own_v x := by
  apply Int64.toInt_inj.mp
  rw [own_vI, Int32.toInt_toInt64]
  rw [Int32.lt_iff_toInt_lt, show (0 : Int32).toInt = 0 from rfl] at h
  unfold own_n; omega
theorem own_absM {x : Int32} (h : x < (0 : Int32)) : -x.toInt64 = own_v x := by
  apply Int64.toInt_inj.mp
  have r := rng32 x
  rw [own_vI, Int64.toInt_neg, Int32.toInt_toInt64, Int.bmod_eq_of_le (by omega) (by omega)]
  rw [Int32.lt_iff_toInt_lt, show (0 : Int32).toInt = 0 from rfl] at h
  unfold own_n; omega
theorem own_lcP {x : Int32} (h : ¬ (x < (0 : Int32))) : ¬ ((lcmpW x.toInt64 (0 : Int64)) < (0 : Int32)) := by
  rw [lw_lt, Int64.lt_iff_toInt_lt, Int32.toInt_toInt64, show (0 : Int64).toInt = 0 from rfl]
  rwa [Int32.lt_iff_toInt_lt, show (0 : Int32).toInt = 0 from rfl] at h
theorem own_lcM {x : Int32} (h : x < (0 : Int32)) : (lcmpW x.toInt64 (0 : Int64)) < (0 : Int32) := by
  rw [lw_lt, Int64.lt_iff_toInt_lt, Int32.toInt_toInt64, show (0 : Int64).toInt = 0 from rfl]
  rwa [Int32.lt_iff_toInt_lt, show (0 : Int32).toInt = 0 from rfl] at h
theorem own_lenP {x : Int32} (h : ¬ (x < (0 : Int32))) : (5 : Int32) + own_nd x = own_sz 5 x := by
  have e : own_w 5 x = 5 + own_dg x := by unfold own_w; rw [own_sgP h]; omega
  show Int32.ofNat 5 + Int32.ofNat (own_dg x) = Int32.ofNat (own_w 5 x)
  rw [e, Int32.ofNat_add]
theorem own_lenM {x : Int32} (h : x < (0 : Int32)) : (6 : Int32) + own_nd x = own_sz 5 x := by
  have e : own_w 5 x = 6 + own_dg x := by unfold own_w; rw [own_sgM h]; omega
  show Int32.ofNat 6 + Int32.ofNat (own_dg x) = Int32.ofNat (own_w 5 x)
  rw [e, Int32.ofNat_add]
theorem own_lcN (x : Int32) (c : Nat) (hc : c < 2 ^ 62) : (lcmpW (own_v x) (Int64.ofNat c)) < (0 : Int32) ↔ own_n x < c := by
  rw [lw_lt, Int64.lt_iff_toInt_lt, own_vI, Int64.toInt_ofNat_of_lt (by omega)]
  exact ⟨fun h => by omega, fun h => by omega⟩
theorem own_digv (x : Int32) : own_dig (own_v x) = own_nd x := by
  have hd : own_dg x = Jvm.Free.SBG.digits (own_n x) := rfl
  have e1 : ((lcmpW (own_v x) (10 : Int64)) < (0 : Int32)) ↔ own_n x < 10 := own_lcN x 10 (by decide)
  have e2 : ((lcmpW (own_v x) (100 : Int64)) < (0 : Int32)) ↔ own_n x < 100 := own_lcN x 100 (by decide)
  have e3 : ((lcmpW (own_v x) (1000 : Int64)) < (0 : Int32)) ↔ own_n x < 1000 := own_lcN x 1000 (by decide)
  have e4 : ((lcmpW (own_v x) (10000 : Int64)) < (0 : Int32)) ↔ own_n x < 10000 := own_lcN x 10000 (by decide)
  have e5 : ((lcmpW (own_v x) (100000 : Int64)) < (0 : Int32)) ↔ own_n x < 100000 := own_lcN x 100000 (by decide)
  have e6 : ((lcmpW (own_v x) (1000000 : Int64)) < (0 : Int32)) ↔ own_n x < 1000000 := own_lcN x 1000000 (by decide)
  have e7 : ((lcmpW (own_v x) (10000000 : Int64)) < (0 : Int32)) ↔ own_n x < 10000000 := own_lcN x 10000000 (by decide)
  have e8 : ((lcmpW (own_v x) (100000000 : Int64)) < (0 : Int32)) ↔ own_n x < 100000000 := own_lcN x 100000000 (by decide)
  have e9 : ((lcmpW (own_v x) (1000000000 : Int64)) < (0 : Int32)) ↔ own_n x < 1000000000 := own_lcN x 1000000000 (by decide)
  unfold own_nd
  rw [hd]
  generalize own_v x = v at *
  generalize own_n x = n at *
  by_cases c1 : n < 10
  · have l : own_dig v = (1 : Int32) := by unfold own_dig; rw [if_pos (e9.mpr (by omega)), if_pos (e8.mpr (by omega)), if_pos (e7.mpr (by omega)), if_pos (e6.mpr (by omega)), if_pos (e5.mpr (by omega)), if_pos (e4.mpr (by omega)), if_pos (e3.mpr (by omega)), if_pos (e2.mpr (by omega)), if_pos (e1.mpr (by omega))]
    have r : Jvm.Free.SBG.digits n = 1 := by unfold Jvm.Free.SBG.digits; rw [if_pos (by omega)]
    rw [l, r]; rfl
  by_cases c2 : n < 100
  · have l : own_dig v = (2 : Int32) := by unfold own_dig; rw [if_pos (e9.mpr (by omega)), if_pos (e8.mpr (by omega)), if_pos (e7.mpr (by omega)), if_pos (e6.mpr (by omega)), if_pos (e5.mpr (by omega)), if_pos (e4.mpr (by omega)), if_pos (e3.mpr (by omega)), if_pos (e2.mpr (by omega)), if_neg (fun q => absurd (e1.mp q) (by omega))]
    have r : Jvm.Free.SBG.digits n = 2 := by unfold Jvm.Free.SBG.digits; rw [if_neg (by omega), if_pos (by omega)]
    rw [l, r]; rfl
  by_cases c3 : n < 1000
  · have l : own_dig v = (3 : Int32) := by unfold own_dig; rw [if_pos (e9.mpr (by omega)), if_pos (e8.mpr (by omega)), if_pos (e7.mpr (by omega)), if_pos (e6.mpr (by omega)), if_pos (e5.mpr (by omega)), if_pos (e4.mpr (by omega)), if_pos (e3.mpr (by omega)), if_neg (fun q => absurd (e2.mp q) (by omega))]
    have r : Jvm.Free.SBG.digits n = 3 := by unfold Jvm.Free.SBG.digits; rw [if_neg (by omega), if_neg (by omega), if_pos (by omega)]
    rw [l, r]; rfl
  by_cases c4 : n < 10000
  · have l : own_dig v = (4 : Int32) := by unfold own_dig; rw [if_pos (e9.mpr (by omega)), if_pos (e8.mpr (by omega)), if_pos (e7.mpr (by omega)), if_pos (e6.mpr (by omega)), if_pos (e5.mpr (by omega)), if_pos (e4.mpr (by omega)), if_neg (fun q => absurd (e3.mp q) (by omega))]
    have r : Jvm.Free.SBG.digits n = 4 := by unfold Jvm.Free.SBG.digits; rw [if_neg (by omega), if_neg (by omega), if_neg (by omega), if_pos (by omega)]
    rw [l, r]; rfl
  by_cases c5 : n < 100000
  · have l : own_dig v = (5 : Int32) := by unfold own_dig; rw [if_pos (e9.mpr (by omega)), if_pos (e8.mpr (by omega)), if_pos (e7.mpr (by omega)), if_pos (e6.mpr (by omega)), if_pos (e5.mpr (by omega)), if_neg (fun q => absurd (e4.mp q) (by omega))]
    have r : Jvm.Free.SBG.digits n = 5 := by unfold Jvm.Free.SBG.digits; rw [if_neg (by omega), if_neg (by omega), if_neg (by omega), if_neg (by omega), if_pos (by omega)]
    rw [l, r]; rfl
  by_cases c6 : n < 1000000
  · have l : own_dig v = (6 : Int32) := by unfold own_dig; rw [if_pos (e9.mpr (by omega)), if_pos (e8.mpr (by omega)), if_pos (e7.mpr (by omega)), if_pos (e6.mpr (by omega)), if_neg (fun q => absurd (e5.mp q) (by omega))]
    have r : Jvm.Free.SBG.digits n = 6 := by unfold Jvm.Free.SBG.digits; rw [if_neg (by omega), if_neg (by omega), if_neg (by omega), if_neg (by omega), if_neg (by omega), if_pos (by omega)]
    rw [l, r]; rfl
  by_cases c7 : n < 10000000
  · have l : own_dig v = (7 : Int32) := by unfold own_dig; rw [if_pos (e9.mpr (by omega)), if_pos (e8.mpr (by omega)), if_pos (e7.mpr (by omega)), if_neg (fun q => absurd (e6.mp q) (by omega))]
    have r : Jvm.Free.SBG.digits n = 7 := by unfold Jvm.Free.SBG.digits; rw [if_neg (by omega), if_neg (by omega), if_neg (by omega), if_neg (by omega), if_neg (by omega), if_neg (by omega), if_pos (by omega)]
    rw [l, r]; rfl
  by_cases c8 : n < 100000000
  · have l : own_dig v = (8 : Int32) := by unfold own_dig; rw [if_pos (e9.mpr (by omega)), if_pos (e8.mpr (by omega)), if_neg (fun q => absurd (e7.mp q) (by omega))]
    have r : Jvm.Free.SBG.digits n = 8 := by unfold Jvm.Free.SBG.digits; rw [if_neg (by omega), if_neg (by omega), if_neg (by omega), if_neg (by omega), if_neg (by omega), if_neg (by omega), if_neg (by omega), if_pos (by omega)]
    rw [l, r]; rfl
  by_cases c9 : n < 1000000000
  · have l : own_dig v = (9 : Int32) := by unfold own_dig; rw [if_pos (e9.mpr (by omega)), if_neg (fun q => absurd (e8.mp q) (by omega))]
    have r : Jvm.Free.SBG.digits n = 9 := by unfold Jvm.Free.SBG.digits; rw [if_neg (by omega), if_neg (by omega), if_neg (by omega), if_neg (by omega), if_neg (by omega), if_neg (by omega), if_neg (by omega), if_neg (by omega), if_pos (by omega)]
    rw [l, r]; rfl
  have l : own_dig v = (10 : Int32) := by unfold own_dig; rw [if_neg (fun q => absurd (e9.mp q) (by omega))]
  have r : Jvm.Free.SBG.digits n = 10 := by unfold Jvm.Free.SBG.digits; rw [if_neg (by omega), if_neg (by omega), if_neg (by omega), if_neg (by omega), if_neg (by omega), if_neg (by omega), if_neg (by omega), if_neg (by omega), if_neg (by omega)]
  rw [l, r]; rfl
/-- the byte at a place of the text -/
def own_byN (x : Int32) (n : Nat) : Int32 := if n = 0 then 104 else if n = 1 then 116 else if n = 2 then 116 else if n = 3 then 112 else if n = 4 then 45 else if x < (0 : Int32) ∧ n = 5 then 45 else Int32.ofNat (48 + own_n x / 10 ^ (own_dg x - 1 - (n - 5 - own_sg x)) % 10)
def own_by (x i : Int32) : Int32 := own_byN x i.toNatClampNeg
theorem own_ltw {x i : Int32} (h0 : ¬ (i < (0 : Int32))) (h : i < own_sz 5 x) : i.toNatClampNeg < own_w 5 x := by
  rw [Int32.lt_iff_toInt_lt, own_szI (by decide)] at h
  have := nat_of h0
  omega
theorem own_rdN {x : Int32} {os : List Value} (O : own_out 5 x [(.int (104 : Int32)), (.int (116 : Int32)), (.int (116 : Int32)), (.int (112 : Int32)), (.int (45 : Int32)), (.int (0 : Int32)), (.int (0 : Int32)), (.int (0 : Int32)), (.int (0 : Int32)), (.int (0 : Int32)), (.int (0 : Int32)), (.int (0 : Int32)), (.int (0 : Int32)), (.int (0 : Int32)), (.int (0 : Int32)), (.int (0 : Int32))] os) : ∀ n : Nat, n < own_w 5 x → os.getD n (.int (0 : Int32)) = .int (own_byN x n)
  | 0, _ => O.2.2 0 (by decide)
  | 1, _ => O.2.2 1 (by decide)
  | 2, _ => O.2.2 2 (by decide)
  | 3, _ => O.2.2 3 (by decide)
  | 4, _ => O.2.2 4 (by decide)
  | n + 5, h => by
    unfold own_byN
    rw [if_neg (by omega), if_neg (by omega), if_neg (by omega), if_neg (by omega), if_neg (by omega)]
    unfold own_w at h
    by_cases hx : x < (0 : Int32)
    · have s1 := own_sgM hx
      by_cases hn : n = 0
      · subst hn; rw [if_pos ⟨hx, rfl⟩]; exact O.1 hx
      · rw [if_neg (by omega)]
        have := O.2.1 (n - 1) (by omega)
        rw [s1, show 5 + 1 + (n - 1) = n + 5 by omega] at this
        rw [s1, show n + 5 - 5 - 1 = n - 1 by omega]; exact this
    · have s1 := own_sgP hx
      rw [if_neg (fun q => hx q.1)]
      have := O.2.1 n (by omega)
      rw [s1, show 5 + 0 + n = n + 5 by omega] at this
      rw [s1, show n + 5 - 5 - 0 = n by omega]; exact this
theorem own_rd {x : Int32} {os : List Value} (O : own_out 5 x [(.int (104 : Int32)), (.int (116 : Int32)), (.int (116 : Int32)), (.int (112 : Int32)), (.int (45 : Int32)), (.int (0 : Int32)), (.int (0 : Int32)), (.int (0 : Int32)), (.int (0 : Int32)), (.int (0 : Int32)), (.int (0 : Int32)), (.int (0 : Int32)), (.int (0 : Int32)), (.int (0 : Int32)), (.int (0 : Int32)), (.int (0 : Int32))] os) {i : Int32} (h0 : ¬ (i < (0 : Int32))) (h : i < own_sz 5 x) : os.getD (i).toNatClampNeg (.int (0 : Int32)) = (.int (own_by x i)) := own_rdN O _ (own_ltw h0 h)
theorem own_isub {a b : Int32} {A B : Int} (ha : a.toInt = A) (hb : b.toInt = B) (h1 : -2147483648 ≤ A - B) (h2 : A - B < 2147483648) : (a - b).toInt = A - B := by
  rw [Int32.toInt_sub, ha, hb, Int.bmod_eq_of_le (by omega) (by omega)]
/-- the place in the table of powers -/
theorem own_kP {x i : Int32} (hx : ¬ (x < (0 : Int32))) (h5 : 5 ≤ i.toInt) (h : i < own_sz 5 x) : ((own_nd x - (1 : Int32)) - (i - (5 : Int32))).toInt = (own_dg x : Int) - 1 - (i.toInt - 5) ∧ i.toInt < 5 + (own_dg x : Int) := by
  have b := own_dgb x
  rw [Int32.lt_iff_toInt_lt, own_szI (by decide)] at h
  unfold own_w at h
  rw [own_sgP hx] at h
  have e1 := own_isub (own_ndI x) (show (1 : Int32).toInt = 1 from rfl) (by omega) (by omega)
  have e2 := own_isub (a := i) rfl (show (5 : Int32).toInt = 5 from rfl) (by omega) (by omega)
  exact ⟨own_isub e1 e2 (by omega) (by omega), by omega⟩
theorem own_kM {x i : Int32} (hx : x < (0 : Int32)) (h6 : 6 ≤ i.toInt) (h : i < own_sz 5 x) : ((own_nd x - (1 : Int32)) - ((i - (5 : Int32)) - (1 : Int32))).toInt = (own_dg x : Int) - 1 - (i.toInt - 6) ∧ i.toInt < 6 + (own_dg x : Int) := by
  have b := own_dgb x
  rw [Int32.lt_iff_toInt_lt, own_szI (by decide)] at h
  unfold own_w at h
  rw [own_sgM hx] at h
  have e1 := own_isub (own_ndI x) (show (1 : Int32).toInt = 1 from rfl) (by omega) (by omega)
  have e2 := own_isub (a := i) rfl (show (5 : Int32).toInt = 5 from rfl) (by omega) (by omega)
  have e3 := own_isub e2 (show (1 : Int32).toInt = 1 from rfl) (by omega) (by omega)
  have e4 := own_isub e1 e3 (by omega) (by omega)
  exact ⟨by rw [e4]; omega, by omega⟩
theorem own_inI {k : Int32} (h1 : 0 ≤ k.toInt) (h2 : k.toInt < 10) : own_in k := by
  unfold own_in
  rw [Int32.lt_iff_toInt_lt, Int32.lt_iff_toInt_lt, show (0 : Int32).toInt = 0 from rfl, show (10 : Int32).toInt = 10 from rfl]
  omega
theorem own_ge5 {i : Int32} (h0 : ¬ (i < (0 : Int32))) (n0 : ¬ (i = (0 : Int32))) (n1 : ¬ (i = (1 : Int32))) (n2 : ¬ (i = (2 : Int32))) (n3 : ¬ (i = (3 : Int32))) (n4 : ¬ (i = (4 : Int32))) : 5 ≤ i.toInt := by
  rw [Int32.lt_iff_toInt_lt, show (0 : Int32).toInt = 0 from rfl] at h0
  have q : ∀ {c : Int32}, ¬ (i = c) → i.toInt ≠ c.toInt := fun h e => h (Int32.toInt_inj.mp e)
  have q0 : i.toInt ≠ 0 := q n0
  have q1 : i.toInt ≠ 1 := q n1
  have q2 : i.toInt ≠ 2 := q n2
  have q3 : i.toInt ≠ 3 := q n3
  have q4 : i.toInt ≠ 4 := q n4
  omega
theorem own_ne5 {i : Int32} (h5 : 5 ≤ i.toInt) (n5 : ¬ ((i - (5 : Int32)) = (0 : Int32))) : 6 ≤ i.toInt := by
  have r := rng32 i
  have e2 := own_isub (a := i) rfl (show (5 : Int32).toInt = 5 from rfl) (by omega) (by omega)
  have : i.toInt ≠ 5 := fun e => n5 (Int32.toInt_inj.mp (by rw [e2, e]; rfl))
  omega
theorem own_okP {x i : Int32} (hx : ¬ (x < (0 : Int32))) (h0 : ¬ (i < (0 : Int32))) (h : i < own_sz 5 x) : own_ok i (0 : Int32) (own_nd x) := fun n0 n1 n2 n3 n4 => ⟨fun _ => by
  have h5 := own_ge5 h0 n0 n1 n2 n3 n4
  obtain ⟨e, l⟩ := own_kP hx h5 h
  have b := own_dgb x
  exact own_inI (by rw [e]; omega) (by rw [e]; omega), fun q => absurd rfl q⟩
theorem own_okM {x i : Int32} (hx : x < (0 : Int32)) (h0 : ¬ (i < (0 : Int32))) (h : i < own_sz 5 x) : own_ok i (1 : Int32) (own_nd x) := fun n0 n1 n2 n3 n4 => ⟨fun q => absurd q (by decide), fun _ n5 => by
  have h6 := own_ne5 (own_ge5 h0 n0 n1 n2 n3 n4) n5
  obtain ⟨e, l⟩ := own_kM hx h6 h
  have b := own_dgb x
  exact own_inI (by rw [e]; omega) (by rw [e]; omega)⟩
theorem own_ccid : ∀ k, k < 128 → own_cc (Int32.ofNat k) = Int32.ofNat k := by decide +kernel
theorem own_chid : ∀ d, d < 10 → nar .char ((48 : Int32) + Int32.ofNat d).toUInt32.toUInt16.toUInt32.toInt32 = Int32.ofNat (48 + d) := by decide +kernel
theorem own_p10 : ∀ k, k < 10 → 1 ≤ 10 ^ k ∧ 10 ^ k ≤ 1000000000 := by decide
theorem own_bm {x m : Nat} (h : x ≤ 2 ^ 31) (hm : 2 ^ 33 ≤ m) : ((x : Int)).bmod m = x := Int.bmod_eq_of_le (by omega) (by omega)
theorem own_chd (N : Nat) (hN : N ≤ 2 ^ 31) (k : Nat) (hk : k < 10) {K : Int32} (hK : K.toNatClampNeg = k) : own_ch (Int64.ofNat N) K = Int32.ofNat (48 + N / 10 ^ k % 10) := by
  have hP : own_pow K = Int64.ofNat (10 ^ k) := by unfold own_pow; rw [hK]
  have hp : 1 ≤ 10 ^ k ∧ 10 ^ k ≤ 1000000000 := own_p10 k hk
  have iP : (Int64.ofNat (10 ^ k)).toInt = ((10 ^ k : Nat) : Int) := Int64.toInt_ofNat_of_lt (by omega)
  have iN : (Int64.ofNat N).toInt = (N : Int) := Int64.toInt_ofNat_of_lt (by omega)
  have hq : N / 10 ^ k ≤ N := Nat.div_le_self _ _
  have hq1 : N / 10 ^ k / 10 ≤ N / 10 ^ k := Nat.div_le_self _ _
  have hq2 : N / 10 ^ k / 10 * 10 ≤ N / 10 ^ k := Nat.div_mul_le_self _ _
  have hd : N / 10 ^ k % 10 < 10 := Nat.mod_lt _ (by decide)
  have hd2 : N / 10 ^ k - N / 10 ^ k / 10 * 10 = N / 10 ^ k % 10 := by omega
  have iD : (Int64.ofNat N / Int64.ofNat (10 ^ k)).toInt = ((N / 10 ^ k : Nat) : Int) := by
    rw [Int64.toInt_div, iN, iP, ← Int.ofNat_tdiv]
    exact own_bm (Nat.le_trans hq hN) (by decide)
  have iE : ((Int64.ofNat N / Int64.ofNat (10 ^ k)) / (10 : Int64)).toInt = ((N / 10 ^ k / 10 : Nat) : Int) := by
    rw [Int64.toInt_div, iD, show (10 : Int64).toInt = ((10 : Nat) : Int) from rfl, ← Int.ofNat_tdiv]
    exact own_bm (Nat.le_trans hq1 (Nat.le_trans hq hN)) (by decide)
  have iM : (((Int64.ofNat N / Int64.ofNat (10 ^ k)) / (10 : Int64)) * (10 : Int64)).toInt = ((N / 10 ^ k / 10 * 10 : Nat) : Int) := by
    rw [Int64.toInt_mul, iE, show (10 : Int64).toInt = ((10 : Nat) : Int) from rfl, ← Int.natCast_mul]
    exact own_bm (Nat.le_trans hq2 (Nat.le_trans hq hN)) (by decide)
  have iR : ((Int64.ofNat N / Int64.ofNat (10 ^ k)) - ((Int64.ofNat N / Int64.ofNat (10 ^ k)) / (10 : Int64)) * (10 : Int64)).toInt32 = Int32.ofNat (N / 10 ^ k % 10) := by
    apply Int32.toInt_inj.mp
    rw [Int64.toInt_toInt32, Int64.toInt_sub, iD, iM, ← Int.natCast_sub hq2, hd2, Int32.toInt_ofNat_of_lt (by omega), own_bm (by omega) (by decide)]
    exact Int.bmod_eq_of_le (by omega) (by omega)
  unfold own_ch
  rw [hP, iR]
  exact own_chid _ hd
theorem own_natI {k : Int32} {n : Nat} (h : k.toInt = (n : Int)) : k.toNatClampNeg = n := by simp only [Int32.toNatClampNeg, h]; rfl
/-- the byte, as a char, is the one that the law expects -/
theorem own_eqP {x i : Int32} (hx : ¬ (x < (0 : Int32))) (h0 : ¬ (i < (0 : Int32))) (h : i < own_sz 5 x) : own_cc (own_by x i) = own_exp i (0 : Int32) (own_v x) (own_nd x) := by
  have hi := nat_of h0
  unfold own_by own_exp
  by_cases n0 : i = (0 : Int32)
  · subst n0; rw [if_pos rfl]; exact own_ccid 104 (by decide)
  by_cases n1 : i = (1 : Int32)
  · subst n1; rw [if_neg (by decide), if_pos rfl]; exact own_ccid 116 (by decide)
  by_cases n2 : i = (2 : Int32)
  · subst n2; rw [if_neg (by decide), if_neg (by decide), if_pos rfl]; exact own_ccid 116 (by decide)
  by_cases n3 : i = (3 : Int32)
  · subst n3; rw [if_neg (by decide), if_neg (by decide), if_neg (by decide), if_pos rfl]; exact own_ccid 112 (by decide)
  by_cases n4 : i = (4 : Int32)
  · subst n4; rw [if_neg (by decide), if_neg (by decide), if_neg (by decide), if_neg (by decide), if_pos rfl]; exact own_ccid 45 (by decide)
  rw [if_neg n0, if_neg n1, if_neg n2, if_neg n3, if_neg n4, if_pos rfl]
  have h5 := own_ge5 h0 n0 n1 n2 n3 n4
  obtain ⟨e, l⟩ := own_kP hx h5 h
  have b := own_dgb x
  unfold own_byN
  rw [if_neg (by omega), if_neg (by omega), if_neg (by omega), if_neg (by omega), if_neg (by omega), if_neg (fun q => hx q.1), own_sgP hx]
  unfold own_v
  rw [own_ccid _ (by have := Nat.mod_lt (own_n x / 10 ^ (own_dg x - 1 - (i.toNatClampNeg - 5 - 0))) (show 0 < 10 by decide); omega)]
  rw [own_chd (own_n x) (own_neg x).1 (own_dg x - 1 - (i.toNatClampNeg - 5 - 0)) (by omega) (own_natI (by rw [e]; omega))]
theorem own_eqM {x i : Int32} (hx : x < (0 : Int32)) (h0 : ¬ (i < (0 : Int32))) (h : i < own_sz 5 x) : own_cc (own_by x i) = own_exp i (1 : Int32) (own_v x) (own_nd x) := by
  have hi := nat_of h0
  unfold own_by own_exp
  by_cases n0 : i = (0 : Int32)
  · subst n0; rw [if_pos rfl]; exact own_ccid 104 (by decide)
  by_cases n1 : i = (1 : Int32)
  · subst n1; rw [if_neg (by decide), if_pos rfl]; exact own_ccid 116 (by decide)
  by_cases n2 : i = (2 : Int32)
  · subst n2; rw [if_neg (by decide), if_neg (by decide), if_pos rfl]; exact own_ccid 116 (by decide)
  by_cases n3 : i = (3 : Int32)
  · subst n3; rw [if_neg (by decide), if_neg (by decide), if_neg (by decide), if_pos rfl]; exact own_ccid 112 (by decide)
  by_cases n4 : i = (4 : Int32)
  · subst n4; rw [if_neg (by decide), if_neg (by decide), if_neg (by decide), if_neg (by decide), if_pos rfl]; exact own_ccid 45 (by decide)
  rw [if_neg n0, if_neg n1, if_neg n2, if_neg n3, if_neg n4, if_neg (by decide)]
  have h5 := own_ge5 h0 n0 n1 n2 n3 n4
  have b := own_dgb x
  have r := rng32 i
  unfold own_byN
  rw [if_neg (by omega), if_neg (by omega), if_neg (by omega), if_neg (by omega), if_neg (by omega)]
  by_cases n5 : (i - (5 : Int32)) = (0 : Int32)
  · rw [if_pos n5]
    have e2 := own_isub (a := i) rfl (show (5 : Int32).toInt = 5 from rfl) (by omega) (by omega)
    rw [n5, show (0 : Int32).toInt = 0 from rfl] at e2
    rw [if_pos ⟨hx, by omega⟩]; rfl
  · rw [if_neg n5]
    have h6 := own_ne5 h5 n5
    obtain ⟨e, l⟩ := own_kM hx h6 h
    rw [if_neg (fun q => by omega), own_sgM hx]
    unfold own_v
    rw [own_ccid _ (by have := Nat.mod_lt (own_n x / 10 ^ (own_dg x - 1 - (i.toNatClampNeg - 5 - 1))) (show 0 < 10 by decide); omega)]
    rw [own_chd (own_n x) (own_neg x).1 (own_dg x - 1 - (i.toNatClampNeg - 5 - 1)) (by omega) (own_natI (by rw [e]; omega))]

theorem pd_29 : parseMethodDescriptor "(I)Lcom/example/metasearchd/metasearchd/engine/EngineException;" = some ⟨[.int], some (.object "com/example/metasearchd/metasearchd/engine/EngineException")⟩ := by decide +kernel
abbrev own_y_EngineException_httpStatus_37 : MethodName := ⟨"com/example/metasearchd/metasearchd/engine/EngineException", "httpStatus", "(I)Lcom/example/metasearchd/metasearchd/engine/EngineException;"⟩
abbrev own_y_EngineException_reason_38 : MethodName := ⟨"com/example/metasearchd/metasearchd/engine/EngineException", "reason", "()Ljava/lang/String;"⟩
theorem pd_30 : parseMethodDescriptor "(J)J" = some ⟨[.long], some .long⟩ := by decide +kernel
abbrev own_y_Math_abs_39 : MethodName := ⟨"java/lang/Math", "abs", "(J)J"⟩
theorem pd_31 : parseMethodDescriptor "(J)I" = some ⟨[.long], some .int⟩ := by decide +kernel
abbrev own_y_EngineExceptionHttpStatusPinLaw_digits_40 : MethodName := ⟨"com/example/metasearchd/metasearchd/engine/EngineExceptionHttpStatusPinLaw", "digits", "(J)I"⟩
theorem pd_32 : parseMethodDescriptor "(Ljava/lang/String;IIZJI)Z" = some ⟨[(.object "java/lang/String"), .int, .int, .boolean, .long, .int], some .boolean⟩ := by decide +kernel
abbrev own_y_EngineExceptionHttpStatusPinLaw_at_41 : MethodName := ⟨"com/example/metasearchd/metasearchd/engine/EngineExceptionHttpStatusPinLaw", "at", "(Ljava/lang/String;IIZJI)Z"⟩
theorem ef_0 (m : MethodId) (x0 : Int32) : entryFrame m #[(.int x0)] maxLocals = mkF m 0 #[.val (.int x0), .unset, .unset, .unset, .unset, .unset, .unset, .unset] [] := by first | (simp [entryFrame, mkF, argsToLocals, Value.category, maxLocals]; done) | rfl
def Q0 (Z : State) (p0 : Int32) (w_COMPACT_STRINGS : Int32) (tst : Addr) (td1 : Addr) (td2 : Addr) (tD1 : Cell) (tD2 : Cell) (w_UNASSIGNED_STACK : Addr) (w_SUPPRESSED_SENTINEL : Addr) (v_SIOOBE_FORMATTER : Value) (h0 : Heap) (n0 : Nat) (v : Option Value) (h : Heap) (L : List Loc) : Prop := v = some (.int (1 : Int32)) ∧ Fr n0 L
set_option maxRecDepth 65536 in
set_option maxHeartbeats 40000000 in
theorem rm0 (l : Launch) (Z : State) (a0 : Array Value) (hw : ∀ d ∈ tables_1, d.before a0 Z = true) (ws : List Jvm.Cond) (p0 : Int32) (w_COMPACT_STRINGS : Int32) (tst : Addr) (td1 : Addr) (td2 : Addr) (tD1 : Cell) (tD2 : Cell) (w_UNASSIGNED_STACK : Addr) (w_SUPPRESSED_SENTINEL : Addr) (v_SIOOBE_FORMATTER : Value) (h0 : Heap) (n0 : Nat) (Z0 : n0 ≤ h0.size) (S_COMPACT_STRINGS : Sta Z h0 "java/lang/String" "COMPACT_STRINGS" "Z" (.int w_COMPACT_STRINGS)) (hc7_1_13_1 : ¬ (w_COMPACT_STRINGS = (0 : Int32))) (Tb : own_tb Z h0 n0 tst td1 td2 tD1 tD2) (S_UNASSIGNED_STACK : Sta Z h0 "java/lang/Throwable" "UNASSIGNED_STACK" "[Ljava/lang/StackTraceElement;" (.ref w_UNASSIGNED_STACK)) (S_SUPPRESSED_SENTINEL : Sta Z h0 "java/lang/Throwable" "SUPPRESSED_SENTINEL" "Ljava/util/List;" (.ref w_SUPPRESSED_SENTINEL)) (hlt_1_1_83_1 : l.stackTraces = true) (S_SIOOBE_FORMATTER : Sta Z h0 "jdk/internal/util/Preconditions" "SIOOBE_FORMATTER" "Ljava/util/function/BiFunction;" v_SIOOBE_FORMATTER) (hr_v_SIOOBE_FORMATTER : v_SIOOBE_FORMATTER.isRef = true) :
    MetFree l x (head1 (Jvm.Cond.code x code maxLocals ret :: ws) room_1) (fun a U => a = #[(.int p0)] ∧ Z.Warmed39 U.vm ∧ U.heap = h0 ∧ CHv Z own_EL U.vm h0) (fun _ _ bl s _ => s.vm.MethodsKnown ∧ s.vm.FramesKnown bl) (fun _ U o U' => ∃ v L, o = .returned v ∧ Q0 Z p0 w_COMPACT_STRINGS tst td1 td2 tD1 tD2 w_UNASSIGNED_STACK w_SUPPRESSED_SENTINEL v_SIOOBE_FORMATTER h0 n0 v U'.heap L ∧ ReturnedEndW U o U' L room_1.cells room_1.slots) := by
  refine MetFree.of_bodySF (plainFor_of_name pn_com_example_metasearchd_metasearchd_engine_EngineExceptionHttpStatusPinLaw) hisR ?_
  intro p e s m args below meth c s₁ Bd hml0 hP hK
  obtain ⟨rfl, hZ, hh, hCH⟩ := hP
  obtain ⟨hTK, hBelow⟩ := hK
  have hx := Bd.exec
  have hby := Bd.bytes
  have hml : c.maxLocals = 8 := hml0
  have hown : s.vm.findClass "com/example/metasearchd/metasearchd/engine/EngineExceptionHttpStatusPinLaw" = some m.cls := findClass_of_methodNamed Bd.named
  have hnm := (name_of_methodNamed Bd.named Bd.method).1
  have X0 : Stand p l e room_1 s m #[(.int p0)] below meth c s₁ [] 0 0 := Stand.of_body Bd
  have e0 : s₁.heap = h0 := by rw [← hh, Bd.state]; rfl
  have N0 := Fr.nil n0
  show Go p e below (fun o U' => ∃ v L, o = .returned v ∧ Q0 Z p0 w_COMPACT_STRINGS tst td1 td2 tD1 tD2 w_UNASSIGNED_STACK w_SUPPRESSED_SENTINEL v_SIOOBE_FORMATTER h0 n0 v U'.heap L ∧ ReturnedEndW s o U' L room_1.cells room_1.slots) (s₁.setTop (entryFrame m #[(.int p0)] maxLocals))
  refine Go.of (fun _ k => castTop (ef_0 m p0) k) ?_
  show Go p e below _ (s₁.setTop (mkF m 0 #[.val (.int p0), .unset, .unset, .unset, .unset, .unset, .unset, .unset] []))
  refine Go.of (fun _ k => XS.iloadN X0.here hx rfl (hb hby at_0) rfl  k) ?_
  have CA1 : CHr Z own_EL s.vm h0 s.vm h0 := CHr.keep ((Keep.refl h0 [])) sf0 hCH
  obtain ⟨_, _, ⟨T1, L1, k1, n1⟩, -, X1, hS1, gr1, ⟨Lc1, hQ1, l1, y1, z1, CB1⟩, st1⟩ := callSS X0 hx (y := own_y_EngineException_httpStatus_37) hown (mvT hZ (own_h hw 0 rfl)) (mvT hZ (own_h hw 1 rfl)) (mvT hZ (own_h hw 2 rfl)) (mvT hZ (own_h hw 3 rfl)) (by decide) (backOfSKH (s := s) (vm0 := s.vm) (W := 0) (rm1 l Z a0 hw [] p0 w_COMPACT_STRINGS tst td1 td2 tD1 tD2 w_UNASSIGNED_STACK w_SUPPRESSED_SENTINEL h0 n0 Z0 S_COMPACT_STRINGS hc7_1_13_1 Tb S_UNASSIGNED_STACK S_SUPPRESSED_SENTINEL hlt_1_1_83_1) hZ (own_h hw 3 rfl) (own_h hw 2 rfl) (by decide) (by decide) (own_ew hw) CA1.1 hTK hBelow) (g := (mkF m 1 #[.val (.int p0), .unset, .unset, .unset, .unset, .unset, .unset, .unset] [(.int p0)])) rfl (by rw [hml]; rfl) (argsL := [(.int p0)]) (rest := []) (lenOf pd_29 rfl) rfl (Nat.le_of_eq rfl) (hb hby at_1) (fun _ _ => ⟨rfl, e0, (by decide : 0 + 15 ≤ _), (by decide : 0 + 2985 ≤ _)⟩)
  dsimp only [Pt.U, Pt.locs, Pt.cells, Pt.slots] at X1 l1 y1 z1 st1 hQ1
  subst l1 y1 z1
  obtain ⟨r_1, rs_1, rb_1, rk_1, ro_1, rfl, Nq1, q1_0, q1_1, q1_2, q1_3, q1_4, q1_5, q1_6, q1_7, q1_8⟩ := hQ1
  have N1 := Fr.app N0 Nq1
  refine Go.tr st1 ?_
  have K1 : Keep h0 T1.heap [] := ((Keep.refl h0 [])).trans q1_0 all0
  have Z1 : n0 ≤ T1.heap.size := Nat.le_trans Z0 q1_0.1
  have g_r_1 : n0 ≤ r_1 := q1_1.2
  have sz_r_1 : h0.size ≤ r_1 := Nat.le_trans ((Keep.refl h0 [])).1 q1_1.1
  have hZ1 : Z.Warmed39 (s.setVm T1.vm).vm := State.Warmed39.trans hZ hS1.1
  have hown1 : (s.setVm T1.vm).vm.findClass "com/example/metasearchd/metasearchd/engine/EngineExceptionHttpStatusPinLaw" = some m.cls := (hS1.1.alike.findClass _ _).trans hown
  have hk1 : T1.heap.size ≤ T1.heap.size := Nat.le_refl _
  show Go p e below _ (T1.setTop (mkF m 4 #[.val (.int p0), .unset, .unset, .unset, .unset, .unset, .unset, .unset] [(.ref r_1)]))
  refine Go.of (fun _ k => XS.astoreN X1.here hx rfl (hb hby at_4) rfl rfl (l' := #[.val (.int p0), .val (.ref r_1), .unset, .unset, .unset, .unset, .unset, .unset]) rfl k) ?_
  show Go p e below _ (T1.setTop (mkF m 5 #[.val (.int p0), .val (.ref r_1), .unset, .unset, .unset, .unset, .unset, .unset] []))
  refine Go.of (fun _ k => XS.aloadN X1.here hx rfl (hb hby at_5) rfl rfl k) ?_
  obtain ⟨cq2, kq2, q2a, q2b, q2c⟩ := isOf hZ1 rfl q1_2
  obtain ⟨_, _, ⟨T2, L2, k2, n2⟩, -, X2, ⟨Lc2, hQ2, l2, y2, z2⟩, st2⟩ := X1.virtualBack hx (y := own_y_EngineException_reason_38) (z := own_y_EngineException_reason_38) hown1 (mvT hZ1 (own_h hw 203 rfl)) (mvT hZ1 (own_h hw 204 rfl)) (notFace_of_selects (args := #[]) (mvT hZ1 (own_h hw 206 rfl))) (mvT hZ1 (own_h hw 206 rfl)) (mvT hZ1 (own_h hw 205 rfl)) (by decide) (backOf (W := 0) (rm33 l Z a0 hw [] r_1 rs_1 T1.heap n0 Z1 q1_3) hZ1 (own_h hw 207 rfl) (own_h hw 2 rfl) (by decide) (by decide)) q2a q2c (g := (mkF m 6 #[.val (.int p0), .val (.ref r_1), .unset, .unset, .unset, .unset, .unset, .unset] [(.ref r_1)])) rfl (by rw [hml]; rfl) (Steps.refl _) (argsL := []) (rest := []) (lenOf pd_22 rfl) rfl (Nat.le_of_eq rfl) (hb hby at_6) (fun _ _ => ⟨rfl, rfl, (by decide : 15 + 0 ≤ _), (by decide : 2985 + 0 ≤ _)⟩)
  dsimp only [Pt.U, Pt.locs, Pt.cells, Pt.slots] at X2 l2 y2 z2 st2 hQ2
  subst l2 y2 z2
  obtain ⟨rfl, Nq2, q2_0⟩ := hQ2
  have N2 := Fr.app N1 Nq2
  refine Go.tr st2 ?_
  show Go p e below _ (T2.setTop (mkF m 9 #[.val (.int p0), .val (.ref r_1), .unset, .unset, .unset, .unset, .unset, .unset] [(.ref rs_1)]))
  refine Go.of (fun _ k => XS.astoreN X2.here hx rfl (hb hby at_9) rfl rfl (l' := #[.val (.int p0), .val (.ref r_1), .val (.ref rs_1), .unset, .unset, .unset, .unset, .unset]) rfl k) ?_
  show Go p e below _ (T2.setTop (mkF m 10 #[.val (.int p0), .val (.ref r_1), .val (.ref rs_1), .unset, .unset, .unset, .unset, .unset] []))
  refine Go.of (fun _ k => XS.aloadN X2.here hx rfl (hb hby at_10) rfl rfl k) ?_
  refine Go.of (fun _ k => XS.ifnonnullYes X2.here hx rfl (pc0 := 11) (pc' := 16) rfl (hb hby at_11) rfl (by decide) (by decide) k) ?_
  show Go p e below _ (T2.setTop (mkF m 16 #[.val (.int p0), .val (.ref r_1), .val (.ref rs_1), .unset, .unset, .unset, .unset, .unset] []))
  refine Go.of (fun _ k => XS.iloadN X2.here hx rfl (hb hby at_16) rfl  k) ?_
  by_cases hc3 : p0 < (0 : Int32)
  ·
    refine Go.of (fun _ k => XS.ifNo X2.here hx rfl (hb hby at_17) rfl ((if0 _ _).trans (tlt hc3).2.1) k) ?_
    show Go p e below _ (T2.setTop (mkF m 20 #[.val (.int p0), .val (.ref r_1), .val (.ref rs_1), .unset, .unset, .unset, .unset, .unset] []))
    refine Go.of (fun _ k => XS.iconst X2.here hx rfl (hb hby at_20) k) ?_
    refine Go.of (fun _ k => XS.goto X2.here hx rfl (pc0 := 21) (pc' := 25) rfl (hb hby at_21) (by decide) (by decide) k) ?_
    show Go p e below _ (T2.setTop (mkF m 25 #[.val (.int p0), .val (.ref r_1), .val (.ref rs_1), .unset, .unset, .unset, .unset, .unset] [(.int (1 : Int32))]))
    refine Go.of (fun _ k => XS.istoreN X2.here hx rfl (hb hby at_25) rfl (l' := #[.val (.int p0), .val (.ref r_1), .val (.ref rs_1), .val (.int (1 : Int32)), .unset, .unset, .unset, .unset]) rfl k) ?_
    show Go p e below _ (T2.setTop (mkF m 26 #[.val (.int p0), .val (.ref r_1), .val (.ref rs_1), .val (.int (1 : Int32)), .unset, .unset, .unset, .unset] []))
    refine Go.of (fun _ k => XS.iloadN X2.here hx rfl (hb hby at_26) rfl  k) ?_
    refine Go.of (fun _ k => XS.i2l X2.here hx rfl (hb hby at_27) rfl k) ?_
    show Go p e below _ (T2.setTop (mkF m 28 #[.val (.int p0), .val (.ref r_1), .val (.ref rs_1), .val (.int (1 : Int32)), .unset, .unset, .unset, .unset] [(.long (p0.toInt64))]))
    obtain ⟨_, _, ⟨T4, L4, k4, n4⟩, -, X4, ⟨Lc4, hQ4, l4, y4, z4⟩, st4⟩ := Jvm.LawKit.callS X2 hx (y := own_y_Math_abs_39) hown1 (mvT hZ1 (own_h hw 208 rfl)) (mvT hZ1 (own_h hw 209 rfl)) (mvT hZ1 (own_h hw 146 rfl)) (mvT hZ1 (own_h hw 210 rfl)) (by decide) (backOf (W := 0) (rm34_m l Z a0 hw [] (p0.toInt64) T1.heap n0 Z1 (own_lcM hc3)) hZ1 (own_h hw 210 rfl) (own_h hw 146 rfl) (by decide) (by decide)) (g := (mkF m 28 #[.val (.int p0), .val (.ref r_1), .val (.ref rs_1), .val (.int (1 : Int32)), .unset, .unset, .unset, .unset] [(.long (p0.toInt64))])) rfl (by rw [hml]; rfl) (argsL := [(.long (p0.toInt64))]) (rest := []) (lenOf pd_30 rfl) rfl (Nat.le_of_eq rfl) (hb hby at_28) (fun _ _ => ⟨rfl, q2_0, (by decide : 15 + 0 ≤ _), (by decide : 2985 + 0 ≤ _)⟩)
    dsimp only [Pt.U, Pt.locs, Pt.cells, Pt.slots] at X4 l4 y4 z4 st4 hQ4
    subst l4 y4 z4
    obtain ⟨rfl, Nq4, q4_0⟩ := hQ4
    have N4 := Fr.app N2 Nq4
    refine Go.of st4 ?_
    show Go p e below _ (T4.setTop (mkF m 31 #[.val (.int p0), .val (.ref r_1), .val (.ref rs_1), .val (.int (1 : Int32)), .unset, .unset, .unset, .unset] [(.long (-(p0.toInt64)))]))
    rw [own_absM hc3]
    show Go p e below _ (T4.setTop (mkF m 31 #[.val (.int p0), .val (.ref r_1), .val (.ref rs_1), .val (.int (1 : Int32)), .unset, .unset, .unset, .unset] [(.long (own_v p0))]))
    refine Go.of (fun _ k => XS.lstore X4.here hx rfl (hb hby at_31) rfl (l' := #[.val (.int p0), .val (.ref r_1), .val (.ref rs_1), .val (.int (1 : Int32)), .val (.long (own_v p0)), .second, .unset, .unset]) rfl k) ?_
    show Go p e below _ (T4.setTop (mkF m 33 #[.val (.int p0), .val (.ref r_1), .val (.ref rs_1), .val (.int (1 : Int32)), .val (.long (own_v p0)), .second, .unset, .unset] []))
    refine Go.of (fun _ k => XS.lload X4.here hx rfl (hb hby at_33) rfl  k) ?_
    obtain ⟨_, _, ⟨T5, L5, k5, n5⟩, -, X5, ⟨Lc5, hQ5, l5, y5, z5⟩, st5⟩ := Jvm.LawKit.callS X4 hx (y := own_y_EngineExceptionHttpStatusPinLaw_digits_40) hown1 (mvT hZ1 (own_h hw 211 rfl)) (mvT hZ1 (own_h hw 212 rfl)) (mvT hZ1 (own_h hw 213 rfl)) (mvT hZ1 (own_h hw 214 rfl)) (by decide) (backOf (W := 0) (rm35 l Z a0 hw [] (own_v p0) T1.heap n0 Z1 ) hZ1 (own_h hw 214 rfl) (own_h hw 213 rfl) (by decide) (by decide)) (g := (mkF m 35 #[.val (.int p0), .val (.ref r_1), .val (.ref rs_1), .val (.int (1 : Int32)), .val (.long (own_v p0)), .second, .unset, .unset] [(.long (own_v p0))])) rfl (by rw [hml]; rfl) (argsL := [(.long (own_v p0))]) (rest := []) (lenOf pd_31 rfl) rfl (Nat.le_of_eq rfl) (hb hby at_35) (fun _ _ => ⟨rfl, q4_0, (by decide : 15 + 0 ≤ _), (by decide : 2985 + 0 ≤ _)⟩)
    dsimp only [Pt.U, Pt.locs, Pt.cells, Pt.slots] at X5 l5 y5 z5 st5 hQ5
    subst l5 y5 z5
    obtain ⟨rfl, Nq5, q5_0⟩ := hQ5
    have N5 := Fr.app N4 Nq5
    refine Go.of st5 ?_
    show Go p e below _ (T5.setTop (mkF m 38 #[.val (.int p0), .val (.ref r_1), .val (.ref rs_1), .val (.int (1 : Int32)), .val (.long (own_v p0)), .second, .unset, .unset] [(.int (own_dig (own_v p0)))]))
    rw [own_digv p0]
    show Go p e below _ (T5.setTop (mkF m 38 #[.val (.int p0), .val (.ref r_1), .val (.ref rs_1), .val (.int (1 : Int32)), .val (.long (own_v p0)), .second, .unset, .unset] [(.int (own_nd p0))]))
    refine Go.of (fun _ k => XS.istore X5.here hx rfl (hb hby at_38) rfl (l' := #[.val (.int p0), .val (.ref r_1), .val (.ref rs_1), .val (.int (1 : Int32)), .val (.long (own_v p0)), .second, .val (.int (own_nd p0)), .unset]) rfl k) ?_
    show Go p e below _ (T5.setTop (mkF m 40 #[.val (.int p0), .val (.ref r_1), .val (.ref rs_1), .val (.int (1 : Int32)), .val (.long (own_v p0)), .second, .val (.int (own_nd p0)), .unset] []))
    refine Go.of (fun _ k => XS.iconst X5.here hx rfl (hb hby at_40) k) ?_
    refine Go.of (fun _ k => XS.iloadN X5.here hx rfl (hb hby at_41) rfl  k) ?_
    refine Go.of (fun _ k => XS.ifNo X5.here hx rfl (hb hby at_42) rfl ((if0 _ _).trans (feq (by decide : ¬ ((1 : Int32) = (0 : Int32)))).1) k) ?_
    show Go p e below _ (T5.setTop (mkF m 45 #[.val (.int p0), .val (.ref r_1), .val (.ref rs_1), .val (.int (1 : Int32)), .val (.long (own_v p0)), .second, .val (.int (own_nd p0)), .unset] [(.int (5 : Int32))]))
    refine Go.of (fun _ k => XS.iconst X5.here hx rfl (hb hby at_45) k) ?_
    refine Go.of (fun _ k => XS.goto X5.here hx rfl (pc0 := 46) (pc' := 50) rfl (hb hby at_46) (by decide) (by decide) k) ?_
    show Go p e below _ (T5.setTop (mkF m 50 #[.val (.int p0), .val (.ref r_1), .val (.ref rs_1), .val (.int (1 : Int32)), .val (.long (own_v p0)), .second, .val (.int (own_nd p0)), .unset] [(.int (1 : Int32)), (.int (5 : Int32))]))
    refine Go.of (fun _ k => XS.iadd X5.here hx rfl (hb hby at_50) rfl k) ?_
    show Go p e below _ (T5.setTop (mkF m 51 #[.val (.int p0), .val (.ref r_1), .val (.ref rs_1), .val (.int (1 : Int32)), .val (.long (own_v p0)), .second, .val (.int (own_nd p0)), .unset] [(.int (6 : Int32))]))
    refine Go.of (fun _ k => XS.iload X5.here hx rfl (hb hby at_51) rfl  k) ?_
    refine Go.of (fun _ k => XS.iadd X5.here hx rfl (hb hby at_53) rfl k) ?_
    show Go p e below _ (T5.setTop (mkF m 54 #[.val (.int p0), .val (.ref r_1), .val (.ref rs_1), .val (.int (1 : Int32)), .val (.long (own_v p0)), .second, .val (.int (own_nd p0)), .unset] [(.int ((6 : Int32) + (own_nd p0)))]))
    rw [own_lenM hc3]
    show Go p e below _ (T5.setTop (mkF m 54 #[.val (.int p0), .val (.ref r_1), .val (.ref rs_1), .val (.int (1 : Int32)), .val (.long (own_v p0)), .second, .val (.int (own_nd p0)), .unset] [(.int (own_sz 5 p0))]))
    refine Go.of (fun _ k => XS.istore X5.here hx rfl (hb hby at_54) rfl (l' := #[.val (.int p0), .val (.ref r_1), .val (.ref rs_1), .val (.int (1 : Int32)), .val (.long (own_v p0)), .second, .val (.int (own_nd p0)), .val (.int (own_sz 5 p0))]) rfl k) ?_
    show Go p e below _ (T5.setTop (mkF m 56 #[.val (.int p0), .val (.ref r_1), .val (.ref rs_1), .val (.int (1 : Int32)), .val (.long (own_v p0)), .second, .val (.int (own_nd p0)), .val (.int (own_sz 5 p0))] []))
    refine Go.of (fun _ k => XS.aloadN X5.here hx rfl (hb hby at_56) rfl rfl k) ?_
    have c7 : Sta Z T1.heap "java/lang/String" "COMPACT_STRINGS" "Z" (.int w_COMPACT_STRINGS) := (own_Sta_keep S_COMPACT_STRINGS K1 own_p0)
    obtain ⟨cq6, kq6, q6a, q6b, q6c⟩ := isOf hZ1 q5_0 q1_4
    obtain ⟨_, _, ⟨T6, L6, k6, n6⟩, -, X6, ⟨Lc6, hQ6, l6, y6, z6⟩, st6⟩ := X5.virtualBack hx (y := own_y_String_length_4) (z := own_y_String_length_4) hown1 (mvT hZ1 (own_h hw 224 rfl)) (mvT hZ1 (own_h hw 45 rfl)) (notFace_of_selects (args := #[]) (mvT hZ1 (own_h hw 47 rfl))) (mvT hZ1 (own_h hw 47 rfl)) (mvT hZ1 (own_h hw 46 rfl)) (by decide) (backOf (W := 0) (rm7 l Z a0 hw [] rs_1 (own_sz 5 p0) ro_1 rb_1 rk_1 w_COMPACT_STRINGS T1.heap n0 Z1 q1_6 q1_7 c7 hc7_1_13_1 q1_5 q1_4) hZ1 (own_h hw 48 rfl) (own_h hw 22 rfl) (by decide) (by decide)) q6a q6c (g := (mkF m 57 #[.val (.int p0), .val (.ref r_1), .val (.ref rs_1), .val (.int (1 : Int32)), .val (.long (own_v p0)), .second, .val (.int (own_nd p0)), .val (.int (own_sz 5 p0))] [(.ref rs_1)])) rfl (by rw [hml]; rfl) (Steps.refl _) (argsL := []) (rest := []) (lenOf pd_4 rfl) rfl (Nat.le_of_eq rfl) (hb hby at_57) (fun _ _ => ⟨rfl, q5_0, (by decide : 15 + 0 ≤ _), (by decide : 2985 + 0 ≤ _)⟩)
    dsimp only [Pt.U, Pt.locs, Pt.cells, Pt.slots] at X6 l6 y6 z6 st6 hQ6
    subst l6 y6 z6
    obtain ⟨rfl, Nq6, q6_0⟩ := hQ6
    have N6 := Fr.app N5 Nq6
    refine Go.tr st6 ?_
    show Go p e below _ (T6.setTop (mkF m 60 #[.val (.int p0), .val (.ref r_1), .val (.ref rs_1), .val (.int (1 : Int32)), .val (.long (own_v p0)), .second, .val (.int (own_nd p0)), .val (.int (own_sz 5 p0))] [(.int (own_sz 5 p0))]))
    refine Go.of (fun _ k => XS.iload X6.here hx rfl (hb hby at_60) rfl  k) ?_
    refine Go.of (fun _ k => XS.icmpYes X6.here hx rfl (pc0 := 62) (pc' := 67) rfl (hb hby at_62) rfl (teq (rfl : (own_sz 5 p0) = (own_sz 5 p0))).1 (by decide) (by decide) k) ?_
    show Go p e below _ (T6.setTop (mkF m 67 #[.val (.int p0), .val (.ref r_1), .val (.ref rs_1), .val (.int (1 : Int32)), .val (.long (own_v p0)), .second, .val (.int (own_nd p0)), .val (.int (own_sz 5 p0))] []))
    refine Go.of (fun _ k => XS.aloadN X6.here hx rfl (hb hby at_67) rfl rfl k) ?_
    refine Go.of (fun _ k => XS.iconst X6.here hx rfl (hb hby at_68) k) ?_
    refine Go.of (fun _ k => XS.iload X6.here hx rfl (hb hby at_69) rfl  k) ?_
    refine Go.of (fun _ k => XS.iloadN X6.here hx rfl (hb hby at_71) rfl  k) ?_
    refine Go.of (fun _ k => XS.lload X6.here hx rfl (hb hby at_72) rfl  k) ?_
    refine Go.of (fun _ k => XS.iload X6.here hx rfl (hb hby at_74) rfl  k) ?_
    have c9 : Sta Z T1.heap "jdk/internal/util/Preconditions" "SIOOBE_FORMATTER" "Ljava/util/function/BiFunction;" v_SIOOBE_FORMATTER := (own_Sta_keep S_SIOOBE_FORMATTER K1 own_p0)
    obtain ⟨_, _, ⟨T8, L8, k8, n8⟩, -, X8, ⟨Lc8, hQ8, l8, y8, z8⟩, st8⟩ := Jvm.LawKit.callS X6 hx (y := own_y_EngineExceptionHttpStatusPinLaw_at_41) hown1 (mvT hZ1 (own_h hw 225 rfl)) (mvT hZ1 (own_h hw 226 rfl)) (mvT hZ1 (own_h hw 213 rfl)) (mvT hZ1 (own_h hw 227 rfl)) (by decide) (backOf (W := 0) (rm36 l Z a0 hw [] rs_1 (0 : Int32) (own_sz 5 p0) (1 : Int32) (own_v p0) (own_nd p0) (own_sz 5 p0) ro_1 (own_by p0 (0 : Int32)) w_COMPACT_STRINGS rb_1 rk_1 v_SIOOBE_FORMATTER T1.heap n0 Z1 c7 hc7_1_13_1 q1_5 q1_4 q1_6 q1_7 c9 hr_v_SIOOBE_FORMATTER (fun _ => by decide) (fun q => q) (fun q => own_rd q1_8 (by decide) q) (fun q => own_okM hc3 (by decide) q) (fun q => own_eqM hc3 (by decide) q)) hZ1 (own_h hw 227 rfl) (own_h hw 213 rfl) (by decide) (by decide)) (g := (mkF m 76 #[.val (.int p0), .val (.ref r_1), .val (.ref rs_1), .val (.int (1 : Int32)), .val (.long (own_v p0)), .second, .val (.int (own_nd p0)), .val (.int (own_sz 5 p0))] [(.int (own_nd p0)), (.long (own_v p0)), (.int (1 : Int32)), (.int (own_sz 5 p0)), (.int (0 : Int32)), (.ref rs_1)])) rfl (by rw [hml]; rfl) (argsL := [(.ref rs_1), (.int (0 : Int32)), (.int (own_sz 5 p0)), (.int (1 : Int32)), (.long (own_v p0)), (.int (own_nd p0))]) (rest := []) (lenOf pd_32 rfl) rfl (Nat.le_of_eq rfl) (hb hby at_76) (fun _ _ => ⟨rfl, q6_0, (by decide : 15 + 1 ≤ _), (by decide : 2985 + 10 ≤ _)⟩)
    dsimp only [Pt.U, Pt.locs, Pt.cells, Pt.slots] at X8 l8 y8 z8 st8 hQ8
    subst l8 y8 z8
    obtain ⟨rfl, Nq8, q8_0⟩ := hQ8
    have N8 := Fr.app N6 Nq8
    refine Go.of st8 ?_
    have J8 : Keep T1.heap T8.heap [] := ((Keep.refl T1.heap [])).trans q8_0 all0
    have K8 : Keep h0 T8.heap [] := (K1).trans q8_0 all0
    have Z8 : n0 ≤ T8.heap.size := Nat.le_trans Z1 q8_0.1
    show Go p e below _ (T8.setTop (mkF m 79 #[.val (.int p0), .val (.ref r_1), .val (.ref rs_1), .val (.int (1 : Int32)), .val (.long (own_v p0)), .second, .val (.int (own_nd p0)), .val (.int (own_sz 5 p0))] [(.int (1 : Int32))]))
    refine Go.of (fun _ k => XS.ifNo X8.here hx rfl (hb hby at_79) rfl ((if0 _ _).trans (feq (by decide : ¬ ((1 : Int32) = (0 : Int32)))).1) k) ?_
    show Go p e below _ (T8.setTop (mkF m 82 #[.val (.int p0), .val (.ref r_1), .val (.ref rs_1), .val (.int (1 : Int32)), .val (.long (own_v p0)), .second, .val (.int (own_nd p0)), .val (.int (own_sz 5 p0))] []))
    refine Go.of (fun _ k => XS.aloadN X8.here hx rfl (hb hby at_82) rfl rfl k) ?_
    refine Go.of (fun _ k => XS.iconst X8.here hx rfl (hb hby at_83) k) ?_
    refine Go.of (fun _ k => XS.iload X8.here hx rfl (hb hby at_84) rfl  k) ?_
    refine Go.of (fun _ k => XS.iloadN X8.here hx rfl (hb hby at_86) rfl  k) ?_
    refine Go.of (fun _ k => XS.lload X8.here hx rfl (hb hby at_87) rfl  k) ?_
    refine Go.of (fun _ k => XS.iload X8.here hx rfl (hb hby at_89) rfl  k) ?_
    have c11 : Sta Z T8.heap "java/lang/String" "COMPACT_STRINGS" "Z" (.int w_COMPACT_STRINGS) := (own_Sta_keep S_COMPACT_STRINGS K8 own_p0)
    have c12 : Fld Z T8.heap rs_1 "java/lang/String" "coder" "B" (.int (0 : Int32)) := (q1_5.keep q8_0 nin0)
    have c13 : Exa Z T8.heap rs_1 "java/lang/String" := (q1_4.keep q8_0)
    have c14 : Fld Z T8.heap rs_1 "java/lang/String" "value" "[B" (.ref rb_1) := (q1_6.keep q8_0 nin0)
    have c15 : Arv Z T8.heap rb_1 rk_1 .byte (own_sz 5 p0) ro_1 (.int (0 : Int32)) := (q1_7.keep q8_0 nin0)
    have c16 : Sta Z T8.heap "jdk/internal/util/Preconditions" "SIOOBE_FORMATTER" "Ljava/util/function/BiFunction;" v_SIOOBE_FORMATTER := (own_Sta_keep S_SIOOBE_FORMATTER K8 own_p0)
    obtain ⟨_, _, ⟨T10, L10, k10, n10⟩, -, X10, ⟨Lc10, hQ10, l10, y10, z10⟩, st10⟩ := Jvm.LawKit.callS X8 hx (y := own_y_EngineExceptionHttpStatusPinLaw_at_41) hown1 (mvT hZ1 (own_h hw 225 rfl)) (mvT hZ1 (own_h hw 226 rfl)) (mvT hZ1 (own_h hw 213 rfl)) (mvT hZ1 (own_h hw 227 rfl)) (by decide) (backOf (W := 0) (rm36 l Z a0 hw [] rs_1 (1 : Int32) (own_sz 5 p0) (1 : Int32) (own_v p0) (own_nd p0) (own_sz 5 p0) ro_1 (own_by p0 (1 : Int32)) w_COMPACT_STRINGS rb_1 rk_1 v_SIOOBE_FORMATTER T8.heap n0 Z8 c11 hc7_1_13_1 c12 c13 c14 c15 c16 hr_v_SIOOBE_FORMATTER (fun _ => by decide) (fun q => q) (fun q => own_rd q1_8 (by decide) q) (fun q => own_okM hc3 (by decide) q) (fun q => own_eqM hc3 (by decide) q)) hZ1 (own_h hw 227 rfl) (own_h hw 213 rfl) (by decide) (by decide)) (g := (mkF m 91 #[.val (.int p0), .val (.ref r_1), .val (.ref rs_1), .val (.int (1 : Int32)), .val (.long (own_v p0)), .second, .val (.int (own_nd p0)), .val (.int (own_sz 5 p0))] [(.int (own_nd p0)), (.long (own_v p0)), (.int (1 : Int32)), (.int (own_sz 5 p0)), (.int (1 : Int32)), (.ref rs_1)])) rfl (by rw [hml]; rfl) (argsL := [(.ref rs_1), (.int (1 : Int32)), (.int (own_sz 5 p0)), (.int (1 : Int32)), (.long (own_v p0)), (.int (own_nd p0))]) (rest := []) (lenOf pd_32 rfl) rfl (Nat.le_of_eq rfl) (hb hby at_91) (fun _ _ => ⟨rfl, rfl, (by decide : 16 + 1 ≤ _), (by decide : 2995 + 10 ≤ _)⟩)
    dsimp only [Pt.U, Pt.locs, Pt.cells, Pt.slots] at X10 l10 y10 z10 st10 hQ10
    subst l10 y10 z10
    obtain ⟨rfl, Nq10, q10_0⟩ := hQ10
    have N10 := Fr.app N8 Nq10
    refine Go.of st10 ?_
    have J10 : Keep T1.heap T10.heap [] := (J8).trans q10_0 all0
    have K10 : Keep h0 T10.heap [] := (K8).trans q10_0 all0
    have Z10 : n0 ≤ T10.heap.size := Nat.le_trans Z8 q10_0.1
    show Go p e below _ (T10.setTop (mkF m 94 #[.val (.int p0), .val (.ref r_1), .val (.ref rs_1), .val (.int (1 : Int32)), .val (.long (own_v p0)), .second, .val (.int (own_nd p0)), .val (.int (own_sz 5 p0))] [(.int (1 : Int32))]))
    refine Go.of (fun _ k => XS.ifNo X10.here hx rfl (hb hby at_94) rfl ((if0 _ _).trans (feq (by decide : ¬ ((1 : Int32) = (0 : Int32)))).1) k) ?_
    show Go p e below _ (T10.setTop (mkF m 97 #[.val (.int p0), .val (.ref r_1), .val (.ref rs_1), .val (.int (1 : Int32)), .val (.long (own_v p0)), .second, .val (.int (own_nd p0)), .val (.int (own_sz 5 p0))] []))
    refine Go.of (fun _ k => XS.aloadN X10.here hx rfl (hb hby at_97) rfl rfl k) ?_
    refine Go.of (fun _ k => XS.iconst X10.here hx rfl (hb hby at_98) k) ?_
    refine Go.of (fun _ k => XS.iload X10.here hx rfl (hb hby at_99) rfl  k) ?_
    refine Go.of (fun _ k => XS.iloadN X10.here hx rfl (hb hby at_101) rfl  k) ?_
    refine Go.of (fun _ k => XS.lload X10.here hx rfl (hb hby at_102) rfl  k) ?_
    refine Go.of (fun _ k => XS.iload X10.here hx rfl (hb hby at_104) rfl  k) ?_
    have c18 : Sta Z T10.heap "java/lang/String" "COMPACT_STRINGS" "Z" (.int w_COMPACT_STRINGS) := (own_Sta_keep S_COMPACT_STRINGS K10 own_p0)
    have c19 : Fld Z T10.heap rs_1 "java/lang/String" "coder" "B" (.int (0 : Int32)) := (c12.keep q10_0 nin0)
    have c20 : Exa Z T10.heap rs_1 "java/lang/String" := (c13.keep q10_0)
    have c21 : Fld Z T10.heap rs_1 "java/lang/String" "value" "[B" (.ref rb_1) := (c14.keep q10_0 nin0)
    have c22 : Arv Z T10.heap rb_1 rk_1 .byte (own_sz 5 p0) ro_1 (.int (0 : Int32)) := (c15.keep q10_0 nin0)
    have c23 : Sta Z T10.heap "jdk/internal/util/Preconditions" "SIOOBE_FORMATTER" "Ljava/util/function/BiFunction;" v_SIOOBE_FORMATTER := (own_Sta_keep S_SIOOBE_FORMATTER K10 own_p0)
    obtain ⟨_, _, ⟨T17, L17, k17, n17⟩, -, X17, ⟨Lc17, hQ17, l17, y17, z17⟩, st17⟩ := Jvm.LawKit.callS X10 hx (y := own_y_EngineExceptionHttpStatusPinLaw_at_41) hown1 (mvT hZ1 (own_h hw 225 rfl)) (mvT hZ1 (own_h hw 226 rfl)) (mvT hZ1 (own_h hw 213 rfl)) (mvT hZ1 (own_h hw 227 rfl)) (by decide) (backOf (W := 0) (rm36 l Z a0 hw [] rs_1 (2 : Int32) (own_sz 5 p0) (1 : Int32) (own_v p0) (own_nd p0) (own_sz 5 p0) ro_1 (own_by p0 (2 : Int32)) w_COMPACT_STRINGS rb_1 rk_1 v_SIOOBE_FORMATTER T10.heap n0 Z10 c18 hc7_1_13_1 c19 c20 c21 c22 c23 hr_v_SIOOBE_FORMATTER (fun _ => by decide) (fun q => q) (fun q => own_rd q1_8 (by decide) q) (fun q => own_okM hc3 (by decide) q) (fun q => own_eqM hc3 (by decide) q)) hZ1 (own_h hw 227 rfl) (own_h hw 213 rfl) (by decide) (by decide)) (g := (mkF m 106 #[.val (.int p0), .val (.ref r_1), .val (.ref rs_1), .val (.int (1 : Int32)), .val (.long (own_v p0)), .second, .val (.int (own_nd p0)), .val (.int (own_sz 5 p0))] [(.int (own_nd p0)), (.long (own_v p0)), (.int (1 : Int32)), (.int (own_sz 5 p0)), (.int (2 : Int32)), (.ref rs_1)])) rfl (by rw [hml]; rfl) (argsL := [(.ref rs_1), (.int (2 : Int32)), (.int (own_sz 5 p0)), (.int (1 : Int32)), (.long (own_v p0)), (.int (own_nd p0))]) (rest := []) (lenOf pd_32 rfl) rfl (Nat.le_of_eq rfl) (hb hby at_106) (fun _ _ => ⟨rfl, rfl, (by decide : 17 + 1 ≤ _), (by decide : 3005 + 10 ≤ _)⟩)
    dsimp only [Pt.U, Pt.locs, Pt.cells, Pt.slots] at X17 l17 y17 z17 st17 hQ17
    subst l17 y17 z17
    obtain ⟨rfl, Nq17, q17_0⟩ := hQ17
    have N17 := Fr.app N10 Nq17
    refine Go.of st17 ?_
    have J17 : Keep T1.heap T17.heap [] := (J10).trans q17_0 all0
    have K17 : Keep h0 T17.heap [] := (K10).trans q17_0 all0
    have Z17 : n0 ≤ T17.heap.size := Nat.le_trans Z10 q17_0.1
    show Go p e below _ (T17.setTop (mkF m 109 #[.val (.int p0), .val (.ref r_1), .val (.ref rs_1), .val (.int (1 : Int32)), .val (.long (own_v p0)), .second, .val (.int (own_nd p0)), .val (.int (own_sz 5 p0))] [(.int (1 : Int32))]))
    refine Go.of (fun _ k => XS.ifNo X17.here hx rfl (hb hby at_109) rfl ((if0 _ _).trans (feq (by decide : ¬ ((1 : Int32) = (0 : Int32)))).1) k) ?_
    show Go p e below _ (T17.setTop (mkF m 112 #[.val (.int p0), .val (.ref r_1), .val (.ref rs_1), .val (.int (1 : Int32)), .val (.long (own_v p0)), .second, .val (.int (own_nd p0)), .val (.int (own_sz 5 p0))] []))
    refine Go.of (fun _ k => XS.aloadN X17.here hx rfl (hb hby at_112) rfl rfl k) ?_
    refine Go.of (fun _ k => XS.iconst X17.here hx rfl (hb hby at_113) k) ?_
    refine Go.of (fun _ k => XS.iload X17.here hx rfl (hb hby at_114) rfl  k) ?_
    refine Go.of (fun _ k => XS.iloadN X17.here hx rfl (hb hby at_116) rfl  k) ?_
    refine Go.of (fun _ k => XS.lload X17.here hx rfl (hb hby at_117) rfl  k) ?_
    refine Go.of (fun _ k => XS.iload X17.here hx rfl (hb hby at_119) rfl  k) ?_
    have c25 : Sta Z T17.heap "java/lang/String" "COMPACT_STRINGS" "Z" (.int w_COMPACT_STRINGS) := (own_Sta_keep S_COMPACT_STRINGS K17 own_p0)
    have c26 : Fld Z T17.heap rs_1 "java/lang/String" "coder" "B" (.int (0 : Int32)) := (c19.keep q17_0 nin0)
    have c27 : Exa Z T17.heap rs_1 "java/lang/String" := (c20.keep q17_0)
    have c28 : Fld Z T17.heap rs_1 "java/lang/String" "value" "[B" (.ref rb_1) := (c21.keep q17_0 nin0)
    have c29 : Arv Z T17.heap rb_1 rk_1 .byte (own_sz 5 p0) ro_1 (.int (0 : Int32)) := (c22.keep q17_0 nin0)
    have c30 : Sta Z T17.heap "jdk/internal/util/Preconditions" "SIOOBE_FORMATTER" "Ljava/util/function/BiFunction;" v_SIOOBE_FORMATTER := (own_Sta_keep S_SIOOBE_FORMATTER K17 own_p0)
    obtain ⟨_, _, ⟨T24, L24, k24, n24⟩, -, X24, ⟨Lc24, hQ24, l24, y24, z24⟩, st24⟩ := Jvm.LawKit.callS X17 hx (y := own_y_EngineExceptionHttpStatusPinLaw_at_41) hown1 (mvT hZ1 (own_h hw 225 rfl)) (mvT hZ1 (own_h hw 226 rfl)) (mvT hZ1 (own_h hw 213 rfl)) (mvT hZ1 (own_h hw 227 rfl)) (by decide) (backOf (W := 0) (rm36 l Z a0 hw [] rs_1 (3 : Int32) (own_sz 5 p0) (1 : Int32) (own_v p0) (own_nd p0) (own_sz 5 p0) ro_1 (own_by p0 (3 : Int32)) w_COMPACT_STRINGS rb_1 rk_1 v_SIOOBE_FORMATTER T17.heap n0 Z17 c25 hc7_1_13_1 c26 c27 c28 c29 c30 hr_v_SIOOBE_FORMATTER (fun _ => by decide) (fun q => q) (fun q => own_rd q1_8 (by decide) q) (fun q => own_okM hc3 (by decide) q) (fun q => own_eqM hc3 (by decide) q)) hZ1 (own_h hw 227 rfl) (own_h hw 213 rfl) (by decide) (by decide)) (g := (mkF m 121 #[.val (.int p0), .val (.ref r_1), .val (.ref rs_1), .val (.int (1 : Int32)), .val (.long (own_v p0)), .second, .val (.int (own_nd p0)), .val (.int (own_sz 5 p0))] [(.int (own_nd p0)), (.long (own_v p0)), (.int (1 : Int32)), (.int (own_sz 5 p0)), (.int (3 : Int32)), (.ref rs_1)])) rfl (by rw [hml]; rfl) (argsL := [(.ref rs_1), (.int (3 : Int32)), (.int (own_sz 5 p0)), (.int (1 : Int32)), (.long (own_v p0)), (.int (own_nd p0))]) (rest := []) (lenOf pd_32 rfl) rfl (Nat.le_of_eq rfl) (hb hby at_121) (fun _ _ => ⟨rfl, rfl, (by decide : 18 + 1 ≤ _), (by decide : 3015 + 10 ≤ _)⟩)
    dsimp only [Pt.U, Pt.locs, Pt.cells, Pt.slots] at X24 l24 y24 z24 st24 hQ24
    subst l24 y24 z24
    obtain ⟨rfl, Nq24, q24_0⟩ := hQ24
    have N24 := Fr.app N17 Nq24
    refine Go.of st24 ?_
    have J24 : Keep T1.heap T24.heap [] := (J17).trans q24_0 all0
    have K24 : Keep h0 T24.heap [] := (K17).trans q24_0 all0
    have Z24 : n0 ≤ T24.heap.size := Nat.le_trans Z17 q24_0.1
    show Go p e below _ (T24.setTop (mkF m 124 #[.val (.int p0), .val (.ref r_1), .val (.ref rs_1), .val (.int (1 : Int32)), .val (.long (own_v p0)), .second, .val (.int (own_nd p0)), .val (.int (own_sz 5 p0))] [(.int (1 : Int32))]))
    refine Go.of (fun _ k => XS.ifNo X24.here hx rfl (hb hby at_124) rfl ((if0 _ _).trans (feq (by decide : ¬ ((1 : Int32) = (0 : Int32)))).1) k) ?_
    show Go p e below _ (T24.setTop (mkF m 127 #[.val (.int p0), .val (.ref r_1), .val (.ref rs_1), .val (.int (1 : Int32)), .val (.long (own_v p0)), .second, .val (.int (own_nd p0)), .val (.int (own_sz 5 p0))] []))
    refine Go.of (fun _ k => XS.aloadN X24.here hx rfl (hb hby at_127) rfl rfl k) ?_
    refine Go.of (fun _ k => XS.iconst X24.here hx rfl (hb hby at_128) k) ?_
    refine Go.of (fun _ k => XS.iload X24.here hx rfl (hb hby at_129) rfl  k) ?_
    refine Go.of (fun _ k => XS.iloadN X24.here hx rfl (hb hby at_131) rfl  k) ?_
    refine Go.of (fun _ k => XS.lload X24.here hx rfl (hb hby at_132) rfl  k) ?_
    refine Go.of (fun _ k => XS.iload X24.here hx rfl (hb hby at_134) rfl  k) ?_
    have c32 : Sta Z T24.heap "java/lang/String" "COMPACT_STRINGS" "Z" (.int w_COMPACT_STRINGS) := (own_Sta_keep S_COMPACT_STRINGS K24 own_p0)
    have c33 : Fld Z T24.heap rs_1 "java/lang/String" "coder" "B" (.int (0 : Int32)) := (c26.keep q24_0 nin0)
    have c34 : Exa Z T24.heap rs_1 "java/lang/String" := (c27.keep q24_0)
    have c35 : Fld Z T24.heap rs_1 "java/lang/String" "value" "[B" (.ref rb_1) := (c28.keep q24_0 nin0)
    have c36 : Arv Z T24.heap rb_1 rk_1 .byte (own_sz 5 p0) ro_1 (.int (0 : Int32)) := (c29.keep q24_0 nin0)
    have c37 : Sta Z T24.heap "jdk/internal/util/Preconditions" "SIOOBE_FORMATTER" "Ljava/util/function/BiFunction;" v_SIOOBE_FORMATTER := (own_Sta_keep S_SIOOBE_FORMATTER K24 own_p0)
    obtain ⟨_, _, ⟨T31, L31, k31, n31⟩, -, X31, ⟨Lc31, hQ31, l31, y31, z31⟩, st31⟩ := Jvm.LawKit.callS X24 hx (y := own_y_EngineExceptionHttpStatusPinLaw_at_41) hown1 (mvT hZ1 (own_h hw 225 rfl)) (mvT hZ1 (own_h hw 226 rfl)) (mvT hZ1 (own_h hw 213 rfl)) (mvT hZ1 (own_h hw 227 rfl)) (by decide) (backOf (W := 0) (rm36 l Z a0 hw [] rs_1 (4 : Int32) (own_sz 5 p0) (1 : Int32) (own_v p0) (own_nd p0) (own_sz 5 p0) ro_1 (own_by p0 (4 : Int32)) w_COMPACT_STRINGS rb_1 rk_1 v_SIOOBE_FORMATTER T24.heap n0 Z24 c32 hc7_1_13_1 c33 c34 c35 c36 c37 hr_v_SIOOBE_FORMATTER (fun _ => by decide) (fun q => q) (fun q => own_rd q1_8 (by decide) q) (fun q => own_okM hc3 (by decide) q) (fun q => own_eqM hc3 (by decide) q)) hZ1 (own_h hw 227 rfl) (own_h hw 213 rfl) (by decide) (by decide)) (g := (mkF m 136 #[.val (.int p0), .val (.ref r_1), .val (.ref rs_1), .val (.int (1 : Int32)), .val (.long (own_v p0)), .second, .val (.int (own_nd p0)), .val (.int (own_sz 5 p0))] [(.int (own_nd p0)), (.long (own_v p0)), (.int (1 : Int32)), (.int (own_sz 5 p0)), (.int (4 : Int32)), (.ref rs_1)])) rfl (by rw [hml]; rfl) (argsL := [(.ref rs_1), (.int (4 : Int32)), (.int (own_sz 5 p0)), (.int (1 : Int32)), (.long (own_v p0)), (.int (own_nd p0))]) (rest := []) (lenOf pd_32 rfl) rfl (Nat.le_of_eq rfl) (hb hby at_136) (fun _ _ => ⟨rfl, rfl, (by decide : 19 + 1 ≤ _), (by decide : 3025 + 10 ≤ _)⟩)
    dsimp only [Pt.U, Pt.locs, Pt.cells, Pt.slots] at X31 l31 y31 z31 st31 hQ31
    subst l31 y31 z31
    obtain ⟨rfl, Nq31, q31_0⟩ := hQ31
    have N31 := Fr.app N24 Nq31
    refine Go.of st31 ?_
    have J31 : Keep T1.heap T31.heap [] := (J24).trans q31_0 all0
    have K31 : Keep h0 T31.heap [] := (K24).trans q31_0 all0
    have Z31 : n0 ≤ T31.heap.size := Nat.le_trans Z24 q31_0.1
    show Go p e below _ (T31.setTop (mkF m 139 #[.val (.int p0), .val (.ref r_1), .val (.ref rs_1), .val (.int (1 : Int32)), .val (.long (own_v p0)), .second, .val (.int (own_nd p0)), .val (.int (own_sz 5 p0))] [(.int (1 : Int32))]))
    refine Go.of (fun _ k => XS.ifNo X31.here hx rfl (hb hby at_139) rfl ((if0 _ _).trans (feq (by decide : ¬ ((1 : Int32) = (0 : Int32)))).1) k) ?_
    show Go p e below _ (T31.setTop (mkF m 142 #[.val (.int p0), .val (.ref r_1), .val (.ref rs_1), .val (.int (1 : Int32)), .val (.long (own_v p0)), .second, .val (.int (own_nd p0)), .val (.int (own_sz 5 p0))] []))
    refine Go.of (fun _ k => XS.aloadN X31.here hx rfl (hb hby at_142) rfl rfl k) ?_
    refine Go.of (fun _ k => XS.iconst X31.here hx rfl (hb hby at_143) k) ?_
    refine Go.of (fun _ k => XS.iload X31.here hx rfl (hb hby at_144) rfl  k) ?_
    refine Go.of (fun _ k => XS.iloadN X31.here hx rfl (hb hby at_146) rfl  k) ?_
    refine Go.of (fun _ k => XS.lload X31.here hx rfl (hb hby at_147) rfl  k) ?_
    refine Go.of (fun _ k => XS.iload X31.here hx rfl (hb hby at_149) rfl  k) ?_
    have c39 : Sta Z T31.heap "java/lang/String" "COMPACT_STRINGS" "Z" (.int w_COMPACT_STRINGS) := (own_Sta_keep S_COMPACT_STRINGS K31 own_p0)
    have c40 : Fld Z T31.heap rs_1 "java/lang/String" "coder" "B" (.int (0 : Int32)) := (c33.keep q31_0 nin0)
    have c41 : Exa Z T31.heap rs_1 "java/lang/String" := (c34.keep q31_0)
    have c42 : Fld Z T31.heap rs_1 "java/lang/String" "value" "[B" (.ref rb_1) := (c35.keep q31_0 nin0)
    have c43 : Arv Z T31.heap rb_1 rk_1 .byte (own_sz 5 p0) ro_1 (.int (0 : Int32)) := (c36.keep q31_0 nin0)
    have c44 : Sta Z T31.heap "jdk/internal/util/Preconditions" "SIOOBE_FORMATTER" "Ljava/util/function/BiFunction;" v_SIOOBE_FORMATTER := (own_Sta_keep S_SIOOBE_FORMATTER K31 own_p0)
    obtain ⟨_, _, ⟨T38, L38, k38, n38⟩, -, X38, ⟨Lc38, hQ38, l38, y38, z38⟩, st38⟩ := Jvm.LawKit.callS X31 hx (y := own_y_EngineExceptionHttpStatusPinLaw_at_41) hown1 (mvT hZ1 (own_h hw 225 rfl)) (mvT hZ1 (own_h hw 226 rfl)) (mvT hZ1 (own_h hw 213 rfl)) (mvT hZ1 (own_h hw 227 rfl)) (by decide) (backOf (W := 0) (rm36 l Z a0 hw [] rs_1 (5 : Int32) (own_sz 5 p0) (1 : Int32) (own_v p0) (own_nd p0) (own_sz 5 p0) ro_1 (own_by p0 (5 : Int32)) w_COMPACT_STRINGS rb_1 rk_1 v_SIOOBE_FORMATTER T31.heap n0 Z31 c39 hc7_1_13_1 c40 c41 c42 c43 c44 hr_v_SIOOBE_FORMATTER (fun _ => by decide) (fun q => q) (fun q => own_rd q1_8 (by decide) q) (fun q => own_okM hc3 (by decide) q) (fun q => own_eqM hc3 (by decide) q)) hZ1 (own_h hw 227 rfl) (own_h hw 213 rfl) (by decide) (by decide)) (g := (mkF m 151 #[.val (.int p0), .val (.ref r_1), .val (.ref rs_1), .val (.int (1 : Int32)), .val (.long (own_v p0)), .second, .val (.int (own_nd p0)), .val (.int (own_sz 5 p0))] [(.int (own_nd p0)), (.long (own_v p0)), (.int (1 : Int32)), (.int (own_sz 5 p0)), (.int (5 : Int32)), (.ref rs_1)])) rfl (by rw [hml]; rfl) (argsL := [(.ref rs_1), (.int (5 : Int32)), (.int (own_sz 5 p0)), (.int (1 : Int32)), (.long (own_v p0)), (.int (own_nd p0))]) (rest := []) (lenOf pd_32 rfl) rfl (Nat.le_of_eq rfl) (hb hby at_151) (fun _ _ => ⟨rfl, rfl, (by decide : 20 + 1 ≤ _), (by decide : 3035 + 10 ≤ _)⟩)
    dsimp only [Pt.U, Pt.locs, Pt.cells, Pt.slots] at X38 l38 y38 z38 st38 hQ38
    subst l38 y38 z38
    obtain ⟨rfl, Nq38, q38_0⟩ := hQ38
    have N38 := Fr.app N31 Nq38
    refine Go.of st38 ?_
    have J38 : Keep T1.heap T38.heap [] := (J31).trans q38_0 all0
    have K38 : Keep h0 T38.heap [] := (K31).trans q38_0 all0
    have Z38 : n0 ≤ T38.heap.size := Nat.le_trans Z31 q38_0.1
    show Go p e below _ (T38.setTop (mkF m 154 #[.val (.int p0), .val (.ref r_1), .val (.ref rs_1), .val (.int (1 : Int32)), .val (.long (own_v p0)), .second, .val (.int (own_nd p0)), .val (.int (own_sz 5 p0))] [(.int (1 : Int32))]))
    refine Go.of (fun _ k => XS.ifNo X38.here hx rfl (hb hby at_154) rfl ((if0 _ _).trans (feq (by decide : ¬ ((1 : Int32) = (0 : Int32)))).1) k) ?_
    show Go p e below _ (T38.setTop (mkF m 157 #[.val (.int p0), .val (.ref r_1), .val (.ref rs_1), .val (.int (1 : Int32)), .val (.long (own_v p0)), .second, .val (.int (own_nd p0)), .val (.int (own_sz 5 p0))] []))
    refine Go.of (fun _ k => XS.aloadN X38.here hx rfl (hb hby at_157) rfl rfl k) ?_
    refine Go.of (fun _ k => XS.bipush X38.here hx rfl (hb hby at_158) k) ?_
    refine Go.of (fun _ k => XS.iload X38.here hx rfl (hb hby at_160) rfl  k) ?_
    refine Go.of (fun _ k => XS.iloadN X38.here hx rfl (hb hby at_162) rfl  k) ?_
    refine Go.of (fun _ k => XS.lload X38.here hx rfl (hb hby at_163) rfl  k) ?_
    refine Go.of (fun _ k => XS.iload X38.here hx rfl (hb hby at_165) rfl  k) ?_
    have c46 : Sta Z T38.heap "java/lang/String" "COMPACT_STRINGS" "Z" (.int w_COMPACT_STRINGS) := (own_Sta_keep S_COMPACT_STRINGS K38 own_p0)
    have c47 : Fld Z T38.heap rs_1 "java/lang/String" "coder" "B" (.int (0 : Int32)) := (c40.keep q38_0 nin0)
    have c48 : Exa Z T38.heap rs_1 "java/lang/String" := (c41.keep q38_0)
    have c49 : Fld Z T38.heap rs_1 "java/lang/String" "value" "[B" (.ref rb_1) := (c42.keep q38_0 nin0)
    have c50 : Arv Z T38.heap rb_1 rk_1 .byte (own_sz 5 p0) ro_1 (.int (0 : Int32)) := (c43.keep q38_0 nin0)
    have c51 : Sta Z T38.heap "jdk/internal/util/Preconditions" "SIOOBE_FORMATTER" "Ljava/util/function/BiFunction;" v_SIOOBE_FORMATTER := (own_Sta_keep S_SIOOBE_FORMATTER K38 own_p0)
    obtain ⟨_, _, ⟨T45, L45, k45, n45⟩, -, X45, ⟨Lc45, hQ45, l45, y45, z45⟩, st45⟩ := Jvm.LawKit.callS X38 hx (y := own_y_EngineExceptionHttpStatusPinLaw_at_41) hown1 (mvT hZ1 (own_h hw 225 rfl)) (mvT hZ1 (own_h hw 226 rfl)) (mvT hZ1 (own_h hw 213 rfl)) (mvT hZ1 (own_h hw 227 rfl)) (by decide) (backOf (W := 0) (rm36 l Z a0 hw [] rs_1 (6 : Int32) (own_sz 5 p0) (1 : Int32) (own_v p0) (own_nd p0) (own_sz 5 p0) ro_1 (own_by p0 (6 : Int32)) w_COMPACT_STRINGS rb_1 rk_1 v_SIOOBE_FORMATTER T38.heap n0 Z38 c46 hc7_1_13_1 c47 c48 c49 c50 c51 hr_v_SIOOBE_FORMATTER (fun _ => by decide) (fun q => q) (fun q => own_rd q1_8 (by decide) q) (fun q => own_okM hc3 (by decide) q) (fun q => own_eqM hc3 (by decide) q)) hZ1 (own_h hw 227 rfl) (own_h hw 213 rfl) (by decide) (by decide)) (g := (mkF m 167 #[.val (.int p0), .val (.ref r_1), .val (.ref rs_1), .val (.int (1 : Int32)), .val (.long (own_v p0)), .second, .val (.int (own_nd p0)), .val (.int (own_sz 5 p0))] [(.int (own_nd p0)), (.long (own_v p0)), (.int (1 : Int32)), (.int (own_sz 5 p0)), (.int (6 : Int32)), (.ref rs_1)])) rfl (by rw [hml]; rfl) (argsL := [(.ref rs_1), (.int (6 : Int32)), (.int (own_sz 5 p0)), (.int (1 : Int32)), (.long (own_v p0)), (.int (own_nd p0))]) (rest := []) (lenOf pd_32 rfl) rfl (Nat.le_of_eq rfl) (hb hby at_167) (fun _ _ => ⟨rfl, rfl, (by decide : 21 + 1 ≤ _), (by decide : 3045 + 10 ≤ _)⟩)
    dsimp only [Pt.U, Pt.locs, Pt.cells, Pt.slots] at X45 l45 y45 z45 st45 hQ45
    subst l45 y45 z45
    obtain ⟨rfl, Nq45, q45_0⟩ := hQ45
    have N45 := Fr.app N38 Nq45
    refine Go.of st45 ?_
    have J45 : Keep T1.heap T45.heap [] := (J38).trans q45_0 all0
    have K45 : Keep h0 T45.heap [] := (K38).trans q45_0 all0
    have Z45 : n0 ≤ T45.heap.size := Nat.le_trans Z38 q45_0.1
    show Go p e below _ (T45.setTop (mkF m 170 #[.val (.int p0), .val (.ref r_1), .val (.ref rs_1), .val (.int (1 : Int32)), .val (.long (own_v p0)), .second, .val (.int (own_nd p0)), .val (.int (own_sz 5 p0))] [(.int (1 : Int32))]))
    refine Go.of (fun _ k => XS.ifNo X45.here hx rfl (hb hby at_170) rfl ((if0 _ _).trans (feq (by decide : ¬ ((1 : Int32) = (0 : Int32)))).1) k) ?_
    show Go p e below _ (T45.setTop (mkF m 173 #[.val (.int p0), .val (.ref r_1), .val (.ref rs_1), .val (.int (1 : Int32)), .val (.long (own_v p0)), .second, .val (.int (own_nd p0)), .val (.int (own_sz 5 p0))] []))
    refine Go.of (fun _ k => XS.aloadN X45.here hx rfl (hb hby at_173) rfl rfl k) ?_
    refine Go.of (fun _ k => XS.bipush X45.here hx rfl (hb hby at_174) k) ?_
    refine Go.of (fun _ k => XS.iload X45.here hx rfl (hb hby at_176) rfl  k) ?_
    refine Go.of (fun _ k => XS.iloadN X45.here hx rfl (hb hby at_178) rfl  k) ?_
    refine Go.of (fun _ k => XS.lload X45.here hx rfl (hb hby at_179) rfl  k) ?_
    refine Go.of (fun _ k => XS.iload X45.here hx rfl (hb hby at_181) rfl  k) ?_
    have c53 : Sta Z T45.heap "java/lang/String" "COMPACT_STRINGS" "Z" (.int w_COMPACT_STRINGS) := (own_Sta_keep S_COMPACT_STRINGS K45 own_p0)
    have c54 : Fld Z T45.heap rs_1 "java/lang/String" "coder" "B" (.int (0 : Int32)) := (c47.keep q45_0 nin0)
    have c55 : Exa Z T45.heap rs_1 "java/lang/String" := (c48.keep q45_0)
    have c56 : Fld Z T45.heap rs_1 "java/lang/String" "value" "[B" (.ref rb_1) := (c49.keep q45_0 nin0)
    have c57 : Arv Z T45.heap rb_1 rk_1 .byte (own_sz 5 p0) ro_1 (.int (0 : Int32)) := (c50.keep q45_0 nin0)
    have c58 : Sta Z T45.heap "jdk/internal/util/Preconditions" "SIOOBE_FORMATTER" "Ljava/util/function/BiFunction;" v_SIOOBE_FORMATTER := (own_Sta_keep S_SIOOBE_FORMATTER K45 own_p0)
    obtain ⟨_, _, ⟨T52, L52, k52, n52⟩, -, X52, ⟨Lc52, hQ52, l52, y52, z52⟩, st52⟩ := Jvm.LawKit.callS X45 hx (y := own_y_EngineExceptionHttpStatusPinLaw_at_41) hown1 (mvT hZ1 (own_h hw 225 rfl)) (mvT hZ1 (own_h hw 226 rfl)) (mvT hZ1 (own_h hw 213 rfl)) (mvT hZ1 (own_h hw 227 rfl)) (by decide) (backOf (W := 0) (rm36 l Z a0 hw [] rs_1 (7 : Int32) (own_sz 5 p0) (1 : Int32) (own_v p0) (own_nd p0) (own_sz 5 p0) ro_1 (own_by p0 (7 : Int32)) w_COMPACT_STRINGS rb_1 rk_1 v_SIOOBE_FORMATTER T45.heap n0 Z45 c53 hc7_1_13_1 c54 c55 c56 c57 c58 hr_v_SIOOBE_FORMATTER (fun _ => by decide) (fun q => q) (fun q => own_rd q1_8 (by decide) q) (fun q => own_okM hc3 (by decide) q) (fun q => own_eqM hc3 (by decide) q)) hZ1 (own_h hw 227 rfl) (own_h hw 213 rfl) (by decide) (by decide)) (g := (mkF m 183 #[.val (.int p0), .val (.ref r_1), .val (.ref rs_1), .val (.int (1 : Int32)), .val (.long (own_v p0)), .second, .val (.int (own_nd p0)), .val (.int (own_sz 5 p0))] [(.int (own_nd p0)), (.long (own_v p0)), (.int (1 : Int32)), (.int (own_sz 5 p0)), (.int (7 : Int32)), (.ref rs_1)])) rfl (by rw [hml]; rfl) (argsL := [(.ref rs_1), (.int (7 : Int32)), (.int (own_sz 5 p0)), (.int (1 : Int32)), (.long (own_v p0)), (.int (own_nd p0))]) (rest := []) (lenOf pd_32 rfl) rfl (Nat.le_of_eq rfl) (hb hby at_183) (fun _ _ => ⟨rfl, rfl, (by decide : 22 + 1 ≤ _), (by decide : 3055 + 10 ≤ _)⟩)
    dsimp only [Pt.U, Pt.locs, Pt.cells, Pt.slots] at X52 l52 y52 z52 st52 hQ52
    subst l52 y52 z52
    obtain ⟨rfl, Nq52, q52_0⟩ := hQ52
    have N52 := Fr.app N45 Nq52
    refine Go.of st52 ?_
    have J52 : Keep T1.heap T52.heap [] := (J45).trans q52_0 all0
    have K52 : Keep h0 T52.heap [] := (K45).trans q52_0 all0
    have Z52 : n0 ≤ T52.heap.size := Nat.le_trans Z45 q52_0.1
    show Go p e below _ (T52.setTop (mkF m 186 #[.val (.int p0), .val (.ref r_1), .val (.ref rs_1), .val (.int (1 : Int32)), .val (.long (own_v p0)), .second, .val (.int (own_nd p0)), .val (.int (own_sz 5 p0))] [(.int (1 : Int32))]))
    refine Go.of (fun _ k => XS.ifNo X52.here hx rfl (hb hby at_186) rfl ((if0 _ _).trans (feq (by decide : ¬ ((1 : Int32) = (0 : Int32)))).1) k) ?_
    show Go p e below _ (T52.setTop (mkF m 189 #[.val (.int p0), .val (.ref r_1), .val (.ref rs_1), .val (.int (1 : Int32)), .val (.long (own_v p0)), .second, .val (.int (own_nd p0)), .val (.int (own_sz 5 p0))] []))
    refine Go.of (fun _ k => XS.aloadN X52.here hx rfl (hb hby at_189) rfl rfl k) ?_
    refine Go.of (fun _ k => XS.bipush X52.here hx rfl (hb hby at_190) k) ?_
    refine Go.of (fun _ k => XS.iload X52.here hx rfl (hb hby at_192) rfl  k) ?_
    refine Go.of (fun _ k => XS.iloadN X52.here hx rfl (hb hby at_194) rfl  k) ?_
    refine Go.of (fun _ k => XS.lload X52.here hx rfl (hb hby at_195) rfl  k) ?_
    refine Go.of (fun _ k => XS.iload X52.here hx rfl (hb hby at_197) rfl  k) ?_
    have c60 : Sta Z T52.heap "java/lang/String" "COMPACT_STRINGS" "Z" (.int w_COMPACT_STRINGS) := (own_Sta_keep S_COMPACT_STRINGS K52 own_p0)
    have c61 : Fld Z T52.heap rs_1 "java/lang/String" "coder" "B" (.int (0 : Int32)) := (c54.keep q52_0 nin0)
    have c62 : Exa Z T52.heap rs_1 "java/lang/String" := (c55.keep q52_0)
    have c63 : Fld Z T52.heap rs_1 "java/lang/String" "value" "[B" (.ref rb_1) := (c56.keep q52_0 nin0)
    have c64 : Arv Z T52.heap rb_1 rk_1 .byte (own_sz 5 p0) ro_1 (.int (0 : Int32)) := (c57.keep q52_0 nin0)
    have c65 : Sta Z T52.heap "jdk/internal/util/Preconditions" "SIOOBE_FORMATTER" "Ljava/util/function/BiFunction;" v_SIOOBE_FORMATTER := (own_Sta_keep S_SIOOBE_FORMATTER K52 own_p0)
    obtain ⟨_, _, ⟨T59, L59, k59, n59⟩, -, X59, ⟨Lc59, hQ59, l59, y59, z59⟩, st59⟩ := Jvm.LawKit.callS X52 hx (y := own_y_EngineExceptionHttpStatusPinLaw_at_41) hown1 (mvT hZ1 (own_h hw 225 rfl)) (mvT hZ1 (own_h hw 226 rfl)) (mvT hZ1 (own_h hw 213 rfl)) (mvT hZ1 (own_h hw 227 rfl)) (by decide) (backOf (W := 0) (rm36 l Z a0 hw [] rs_1 (8 : Int32) (own_sz 5 p0) (1 : Int32) (own_v p0) (own_nd p0) (own_sz 5 p0) ro_1 (own_by p0 (8 : Int32)) w_COMPACT_STRINGS rb_1 rk_1 v_SIOOBE_FORMATTER T52.heap n0 Z52 c60 hc7_1_13_1 c61 c62 c63 c64 c65 hr_v_SIOOBE_FORMATTER (fun _ => by decide) (fun q => q) (fun q => own_rd q1_8 (by decide) q) (fun q => own_okM hc3 (by decide) q) (fun q => own_eqM hc3 (by decide) q)) hZ1 (own_h hw 227 rfl) (own_h hw 213 rfl) (by decide) (by decide)) (g := (mkF m 199 #[.val (.int p0), .val (.ref r_1), .val (.ref rs_1), .val (.int (1 : Int32)), .val (.long (own_v p0)), .second, .val (.int (own_nd p0)), .val (.int (own_sz 5 p0))] [(.int (own_nd p0)), (.long (own_v p0)), (.int (1 : Int32)), (.int (own_sz 5 p0)), (.int (8 : Int32)), (.ref rs_1)])) rfl (by rw [hml]; rfl) (argsL := [(.ref rs_1), (.int (8 : Int32)), (.int (own_sz 5 p0)), (.int (1 : Int32)), (.long (own_v p0)), (.int (own_nd p0))]) (rest := []) (lenOf pd_32 rfl) rfl (Nat.le_of_eq rfl) (hb hby at_199) (fun _ _ => ⟨rfl, rfl, (by decide : 23 + 1 ≤ _), (by decide : 3065 + 10 ≤ _)⟩)
    dsimp only [Pt.U, Pt.locs, Pt.cells, Pt.slots] at X59 l59 y59 z59 st59 hQ59
    subst l59 y59 z59
    obtain ⟨rfl, Nq59, q59_0⟩ := hQ59
    have N59 := Fr.app N52 Nq59
    refine Go.of st59 ?_
    have J59 : Keep T1.heap T59.heap [] := (J52).trans q59_0 all0
    have K59 : Keep h0 T59.heap [] := (K52).trans q59_0 all0
    have Z59 : n0 ≤ T59.heap.size := Nat.le_trans Z52 q59_0.1
    show Go p e below _ (T59.setTop (mkF m 202 #[.val (.int p0), .val (.ref r_1), .val (.ref rs_1), .val (.int (1 : Int32)), .val (.long (own_v p0)), .second, .val (.int (own_nd p0)), .val (.int (own_sz 5 p0))] [(.int (1 : Int32))]))
    refine Go.of (fun _ k => XS.ifNo X59.here hx rfl (hb hby at_202) rfl ((if0 _ _).trans (feq (by decide : ¬ ((1 : Int32) = (0 : Int32)))).1) k) ?_
    show Go p e below _ (T59.setTop (mkF m 205 #[.val (.int p0), .val (.ref r_1), .val (.ref rs_1), .val (.int (1 : Int32)), .val (.long (own_v p0)), .second, .val (.int (own_nd p0)), .val (.int (own_sz 5 p0))] []))
    refine Go.of (fun _ k => XS.aloadN X59.here hx rfl (hb hby at_205) rfl rfl k) ?_
    refine Go.of (fun _ k => XS.bipush X59.here hx rfl (hb hby at_206) k) ?_
    refine Go.of (fun _ k => XS.iload X59.here hx rfl (hb hby at_208) rfl  k) ?_
    refine Go.of (fun _ k => XS.iloadN X59.here hx rfl (hb hby at_210) rfl  k) ?_
    refine Go.of (fun _ k => XS.lload X59.here hx rfl (hb hby at_211) rfl  k) ?_
    refine Go.of (fun _ k => XS.iload X59.here hx rfl (hb hby at_213) rfl  k) ?_
    have c67 : Sta Z T59.heap "java/lang/String" "COMPACT_STRINGS" "Z" (.int w_COMPACT_STRINGS) := (own_Sta_keep S_COMPACT_STRINGS K59 own_p0)
    have c68 : Fld Z T59.heap rs_1 "java/lang/String" "coder" "B" (.int (0 : Int32)) := (c61.keep q59_0 nin0)
    have c69 : Exa Z T59.heap rs_1 "java/lang/String" := (c62.keep q59_0)
    have c70 : Fld Z T59.heap rs_1 "java/lang/String" "value" "[B" (.ref rb_1) := (c63.keep q59_0 nin0)
    have c71 : Arv Z T59.heap rb_1 rk_1 .byte (own_sz 5 p0) ro_1 (.int (0 : Int32)) := (c64.keep q59_0 nin0)
    have c72 : Sta Z T59.heap "jdk/internal/util/Preconditions" "SIOOBE_FORMATTER" "Ljava/util/function/BiFunction;" v_SIOOBE_FORMATTER := (own_Sta_keep S_SIOOBE_FORMATTER K59 own_p0)
    obtain ⟨_, _, ⟨T66, L66, k66, n66⟩, -, X66, ⟨Lc66, hQ66, l66, y66, z66⟩, st66⟩ := Jvm.LawKit.callS X59 hx (y := own_y_EngineExceptionHttpStatusPinLaw_at_41) hown1 (mvT hZ1 (own_h hw 225 rfl)) (mvT hZ1 (own_h hw 226 rfl)) (mvT hZ1 (own_h hw 213 rfl)) (mvT hZ1 (own_h hw 227 rfl)) (by decide) (backOf (W := 0) (rm36 l Z a0 hw [] rs_1 (9 : Int32) (own_sz 5 p0) (1 : Int32) (own_v p0) (own_nd p0) (own_sz 5 p0) ro_1 (own_by p0 (9 : Int32)) w_COMPACT_STRINGS rb_1 rk_1 v_SIOOBE_FORMATTER T59.heap n0 Z59 c67 hc7_1_13_1 c68 c69 c70 c71 c72 hr_v_SIOOBE_FORMATTER (fun _ => by decide) (fun q => q) (fun q => own_rd q1_8 (by decide) q) (fun q => own_okM hc3 (by decide) q) (fun q => own_eqM hc3 (by decide) q)) hZ1 (own_h hw 227 rfl) (own_h hw 213 rfl) (by decide) (by decide)) (g := (mkF m 215 #[.val (.int p0), .val (.ref r_1), .val (.ref rs_1), .val (.int (1 : Int32)), .val (.long (own_v p0)), .second, .val (.int (own_nd p0)), .val (.int (own_sz 5 p0))] [(.int (own_nd p0)), (.long (own_v p0)), (.int (1 : Int32)), (.int (own_sz 5 p0)), (.int (9 : Int32)), (.ref rs_1)])) rfl (by rw [hml]; rfl) (argsL := [(.ref rs_1), (.int (9 : Int32)), (.int (own_sz 5 p0)), (.int (1 : Int32)), (.long (own_v p0)), (.int (own_nd p0))]) (rest := []) (lenOf pd_32 rfl) rfl (Nat.le_of_eq rfl) (hb hby at_215) (fun _ _ => ⟨rfl, rfl, (by decide : 24 + 1 ≤ _), (by decide : 3075 + 10 ≤ _)⟩)
    dsimp only [Pt.U, Pt.locs, Pt.cells, Pt.slots] at X66 l66 y66 z66 st66 hQ66
    subst l66 y66 z66
    obtain ⟨rfl, Nq66, q66_0⟩ := hQ66
    have N66 := Fr.app N59 Nq66
    refine Go.of st66 ?_
    have J66 : Keep T1.heap T66.heap [] := (J59).trans q66_0 all0
    have K66 : Keep h0 T66.heap [] := (K59).trans q66_0 all0
    have Z66 : n0 ≤ T66.heap.size := Nat.le_trans Z59 q66_0.1
    show Go p e below _ (T66.setTop (mkF m 218 #[.val (.int p0), .val (.ref r_1), .val (.ref rs_1), .val (.int (1 : Int32)), .val (.long (own_v p0)), .second, .val (.int (own_nd p0)), .val (.int (own_sz 5 p0))] [(.int (1 : Int32))]))
    refine Go.of (fun _ k => XS.ifNo X66.here hx rfl (hb hby at_218) rfl ((if0 _ _).trans (feq (by decide : ¬ ((1 : Int32) = (0 : Int32)))).1) k) ?_
    show Go p e below _ (T66.setTop (mkF m 221 #[.val (.int p0), .val (.ref r_1), .val (.ref rs_1), .val (.int (1 : Int32)), .val (.long (own_v p0)), .second, .val (.int (own_nd p0)), .val (.int (own_sz 5 p0))] []))
    refine Go.of (fun _ k => XS.aloadN X66.here hx rfl (hb hby at_221) rfl rfl k) ?_
    refine Go.of (fun _ k => XS.bipush X66.here hx rfl (hb hby at_222) k) ?_
    refine Go.of (fun _ k => XS.iload X66.here hx rfl (hb hby at_224) rfl  k) ?_
    refine Go.of (fun _ k => XS.iloadN X66.here hx rfl (hb hby at_226) rfl  k) ?_
    refine Go.of (fun _ k => XS.lload X66.here hx rfl (hb hby at_227) rfl  k) ?_
    refine Go.of (fun _ k => XS.iload X66.here hx rfl (hb hby at_229) rfl  k) ?_
    have c74 : Sta Z T66.heap "java/lang/String" "COMPACT_STRINGS" "Z" (.int w_COMPACT_STRINGS) := (own_Sta_keep S_COMPACT_STRINGS K66 own_p0)
    have c75 : Fld Z T66.heap rs_1 "java/lang/String" "coder" "B" (.int (0 : Int32)) := (c68.keep q66_0 nin0)
    have c76 : Exa Z T66.heap rs_1 "java/lang/String" := (c69.keep q66_0)
    have c77 : Fld Z T66.heap rs_1 "java/lang/String" "value" "[B" (.ref rb_1) := (c70.keep q66_0 nin0)
    have c78 : Arv Z T66.heap rb_1 rk_1 .byte (own_sz 5 p0) ro_1 (.int (0 : Int32)) := (c71.keep q66_0 nin0)
    have c79 : Sta Z T66.heap "jdk/internal/util/Preconditions" "SIOOBE_FORMATTER" "Ljava/util/function/BiFunction;" v_SIOOBE_FORMATTER := (own_Sta_keep S_SIOOBE_FORMATTER K66 own_p0)
    obtain ⟨_, _, ⟨T73, L73, k73, n73⟩, -, X73, ⟨Lc73, hQ73, l73, y73, z73⟩, st73⟩ := Jvm.LawKit.callS X66 hx (y := own_y_EngineExceptionHttpStatusPinLaw_at_41) hown1 (mvT hZ1 (own_h hw 225 rfl)) (mvT hZ1 (own_h hw 226 rfl)) (mvT hZ1 (own_h hw 213 rfl)) (mvT hZ1 (own_h hw 227 rfl)) (by decide) (backOf (W := 0) (rm36 l Z a0 hw [] rs_1 (10 : Int32) (own_sz 5 p0) (1 : Int32) (own_v p0) (own_nd p0) (own_sz 5 p0) ro_1 (own_by p0 (10 : Int32)) w_COMPACT_STRINGS rb_1 rk_1 v_SIOOBE_FORMATTER T66.heap n0 Z66 c74 hc7_1_13_1 c75 c76 c77 c78 c79 hr_v_SIOOBE_FORMATTER (fun _ => by decide) (fun q => q) (fun q => own_rd q1_8 (by decide) q) (fun q => own_okM hc3 (by decide) q) (fun q => own_eqM hc3 (by decide) q)) hZ1 (own_h hw 227 rfl) (own_h hw 213 rfl) (by decide) (by decide)) (g := (mkF m 231 #[.val (.int p0), .val (.ref r_1), .val (.ref rs_1), .val (.int (1 : Int32)), .val (.long (own_v p0)), .second, .val (.int (own_nd p0)), .val (.int (own_sz 5 p0))] [(.int (own_nd p0)), (.long (own_v p0)), (.int (1 : Int32)), (.int (own_sz 5 p0)), (.int (10 : Int32)), (.ref rs_1)])) rfl (by rw [hml]; rfl) (argsL := [(.ref rs_1), (.int (10 : Int32)), (.int (own_sz 5 p0)), (.int (1 : Int32)), (.long (own_v p0)), (.int (own_nd p0))]) (rest := []) (lenOf pd_32 rfl) rfl (Nat.le_of_eq rfl) (hb hby at_231) (fun _ _ => ⟨rfl, rfl, (by decide : 25 + 1 ≤ _), (by decide : 3085 + 10 ≤ _)⟩)
    dsimp only [Pt.U, Pt.locs, Pt.cells, Pt.slots] at X73 l73 y73 z73 st73 hQ73
    subst l73 y73 z73
    obtain ⟨rfl, Nq73, q73_0⟩ := hQ73
    have N73 := Fr.app N66 Nq73
    refine Go.of st73 ?_
    have J73 : Keep T1.heap T73.heap [] := (J66).trans q73_0 all0
    have K73 : Keep h0 T73.heap [] := (K66).trans q73_0 all0
    have Z73 : n0 ≤ T73.heap.size := Nat.le_trans Z66 q73_0.1
    show Go p e below _ (T73.setTop (mkF m 234 #[.val (.int p0), .val (.ref r_1), .val (.ref rs_1), .val (.int (1 : Int32)), .val (.long (own_v p0)), .second, .val (.int (own_nd p0)), .val (.int (own_sz 5 p0))] [(.int (1 : Int32))]))
    refine Go.of (fun _ k => XS.ifNo X73.here hx rfl (hb hby at_234) rfl ((if0 _ _).trans (feq (by decide : ¬ ((1 : Int32) = (0 : Int32)))).1) k) ?_
    show Go p e below _ (T73.setTop (mkF m 237 #[.val (.int p0), .val (.ref r_1), .val (.ref rs_1), .val (.int (1 : Int32)), .val (.long (own_v p0)), .second, .val (.int (own_nd p0)), .val (.int (own_sz 5 p0))] []))
    refine Go.of (fun _ k => XS.aloadN X73.here hx rfl (hb hby at_237) rfl rfl k) ?_
    refine Go.of (fun _ k => XS.bipush X73.here hx rfl (hb hby at_238) k) ?_
    refine Go.of (fun _ k => XS.iload X73.here hx rfl (hb hby at_240) rfl  k) ?_
    refine Go.of (fun _ k => XS.iloadN X73.here hx rfl (hb hby at_242) rfl  k) ?_
    refine Go.of (fun _ k => XS.lload X73.here hx rfl (hb hby at_243) rfl  k) ?_
    refine Go.of (fun _ k => XS.iload X73.here hx rfl (hb hby at_245) rfl  k) ?_
    have c81 : Sta Z T73.heap "java/lang/String" "COMPACT_STRINGS" "Z" (.int w_COMPACT_STRINGS) := (own_Sta_keep S_COMPACT_STRINGS K73 own_p0)
    have c82 : Fld Z T73.heap rs_1 "java/lang/String" "coder" "B" (.int (0 : Int32)) := (c75.keep q73_0 nin0)
    have c83 : Exa Z T73.heap rs_1 "java/lang/String" := (c76.keep q73_0)
    have c84 : Fld Z T73.heap rs_1 "java/lang/String" "value" "[B" (.ref rb_1) := (c77.keep q73_0 nin0)
    have c85 : Arv Z T73.heap rb_1 rk_1 .byte (own_sz 5 p0) ro_1 (.int (0 : Int32)) := (c78.keep q73_0 nin0)
    have c86 : Sta Z T73.heap "jdk/internal/util/Preconditions" "SIOOBE_FORMATTER" "Ljava/util/function/BiFunction;" v_SIOOBE_FORMATTER := (own_Sta_keep S_SIOOBE_FORMATTER K73 own_p0)
    obtain ⟨_, _, ⟨T80, L80, k80, n80⟩, -, X80, ⟨Lc80, hQ80, l80, y80, z80⟩, st80⟩ := Jvm.LawKit.callS X73 hx (y := own_y_EngineExceptionHttpStatusPinLaw_at_41) hown1 (mvT hZ1 (own_h hw 225 rfl)) (mvT hZ1 (own_h hw 226 rfl)) (mvT hZ1 (own_h hw 213 rfl)) (mvT hZ1 (own_h hw 227 rfl)) (by decide) (backOf (W := 0) (rm36 l Z a0 hw [] rs_1 (11 : Int32) (own_sz 5 p0) (1 : Int32) (own_v p0) (own_nd p0) (own_sz 5 p0) ro_1 (own_by p0 (11 : Int32)) w_COMPACT_STRINGS rb_1 rk_1 v_SIOOBE_FORMATTER T73.heap n0 Z73 c81 hc7_1_13_1 c82 c83 c84 c85 c86 hr_v_SIOOBE_FORMATTER (fun _ => by decide) (fun q => q) (fun q => own_rd q1_8 (by decide) q) (fun q => own_okM hc3 (by decide) q) (fun q => own_eqM hc3 (by decide) q)) hZ1 (own_h hw 227 rfl) (own_h hw 213 rfl) (by decide) (by decide)) (g := (mkF m 247 #[.val (.int p0), .val (.ref r_1), .val (.ref rs_1), .val (.int (1 : Int32)), .val (.long (own_v p0)), .second, .val (.int (own_nd p0)), .val (.int (own_sz 5 p0))] [(.int (own_nd p0)), (.long (own_v p0)), (.int (1 : Int32)), (.int (own_sz 5 p0)), (.int (11 : Int32)), (.ref rs_1)])) rfl (by rw [hml]; rfl) (argsL := [(.ref rs_1), (.int (11 : Int32)), (.int (own_sz 5 p0)), (.int (1 : Int32)), (.long (own_v p0)), (.int (own_nd p0))]) (rest := []) (lenOf pd_32 rfl) rfl (Nat.le_of_eq rfl) (hb hby at_247) (fun _ _ => ⟨rfl, rfl, (by decide : 26 + 1 ≤ _), (by decide : 3095 + 10 ≤ _)⟩)
    dsimp only [Pt.U, Pt.locs, Pt.cells, Pt.slots] at X80 l80 y80 z80 st80 hQ80
    subst l80 y80 z80
    obtain ⟨rfl, Nq80, q80_0⟩ := hQ80
    have N80 := Fr.app N73 Nq80
    refine Go.of st80 ?_
    have J80 : Keep T1.heap T80.heap [] := (J73).trans q80_0 all0
    have K80 : Keep h0 T80.heap [] := (K73).trans q80_0 all0
    have Z80 : n0 ≤ T80.heap.size := Nat.le_trans Z73 q80_0.1
    show Go p e below _ (T80.setTop (mkF m 250 #[.val (.int p0), .val (.ref r_1), .val (.ref rs_1), .val (.int (1 : Int32)), .val (.long (own_v p0)), .second, .val (.int (own_nd p0)), .val (.int (own_sz 5 p0))] [(.int (1 : Int32))]))
    refine Go.of (fun _ k => XS.ifNo X80.here hx rfl (hb hby at_250) rfl ((if0 _ _).trans (feq (by decide : ¬ ((1 : Int32) = (0 : Int32)))).1) k) ?_
    show Go p e below _ (T80.setTop (mkF m 253 #[.val (.int p0), .val (.ref r_1), .val (.ref rs_1), .val (.int (1 : Int32)), .val (.long (own_v p0)), .second, .val (.int (own_nd p0)), .val (.int (own_sz 5 p0))] []))
    refine Go.of (fun _ k => XS.aloadN X80.here hx rfl (hb hby at_253) rfl rfl k) ?_
    refine Go.of (fun _ k => XS.bipush X80.here hx rfl (hb hby at_254) k) ?_
    refine Go.of (fun _ k => XS.iload X80.here hx rfl (hb hby at_256) rfl  k) ?_
    refine Go.of (fun _ k => XS.iloadN X80.here hx rfl (hb hby at_258) rfl  k) ?_
    refine Go.of (fun _ k => XS.lload X80.here hx rfl (hb hby at_259) rfl  k) ?_
    refine Go.of (fun _ k => XS.iload X80.here hx rfl (hb hby at_261) rfl  k) ?_
    have c88 : Sta Z T80.heap "java/lang/String" "COMPACT_STRINGS" "Z" (.int w_COMPACT_STRINGS) := (own_Sta_keep S_COMPACT_STRINGS K80 own_p0)
    have c89 : Fld Z T80.heap rs_1 "java/lang/String" "coder" "B" (.int (0 : Int32)) := (c82.keep q80_0 nin0)
    have c90 : Exa Z T80.heap rs_1 "java/lang/String" := (c83.keep q80_0)
    have c91 : Fld Z T80.heap rs_1 "java/lang/String" "value" "[B" (.ref rb_1) := (c84.keep q80_0 nin0)
    have c92 : Arv Z T80.heap rb_1 rk_1 .byte (own_sz 5 p0) ro_1 (.int (0 : Int32)) := (c85.keep q80_0 nin0)
    have c93 : Sta Z T80.heap "jdk/internal/util/Preconditions" "SIOOBE_FORMATTER" "Ljava/util/function/BiFunction;" v_SIOOBE_FORMATTER := (own_Sta_keep S_SIOOBE_FORMATTER K80 own_p0)
    obtain ⟨_, _, ⟨T87, L87, k87, n87⟩, -, X87, ⟨Lc87, hQ87, l87, y87, z87⟩, st87⟩ := Jvm.LawKit.callS X80 hx (y := own_y_EngineExceptionHttpStatusPinLaw_at_41) hown1 (mvT hZ1 (own_h hw 225 rfl)) (mvT hZ1 (own_h hw 226 rfl)) (mvT hZ1 (own_h hw 213 rfl)) (mvT hZ1 (own_h hw 227 rfl)) (by decide) (backOf (W := 0) (rm36 l Z a0 hw [] rs_1 (12 : Int32) (own_sz 5 p0) (1 : Int32) (own_v p0) (own_nd p0) (own_sz 5 p0) ro_1 (own_by p0 (12 : Int32)) w_COMPACT_STRINGS rb_1 rk_1 v_SIOOBE_FORMATTER T80.heap n0 Z80 c88 hc7_1_13_1 c89 c90 c91 c92 c93 hr_v_SIOOBE_FORMATTER (fun _ => by decide) (fun q => q) (fun q => own_rd q1_8 (by decide) q) (fun q => own_okM hc3 (by decide) q) (fun q => own_eqM hc3 (by decide) q)) hZ1 (own_h hw 227 rfl) (own_h hw 213 rfl) (by decide) (by decide)) (g := (mkF m 263 #[.val (.int p0), .val (.ref r_1), .val (.ref rs_1), .val (.int (1 : Int32)), .val (.long (own_v p0)), .second, .val (.int (own_nd p0)), .val (.int (own_sz 5 p0))] [(.int (own_nd p0)), (.long (own_v p0)), (.int (1 : Int32)), (.int (own_sz 5 p0)), (.int (12 : Int32)), (.ref rs_1)])) rfl (by rw [hml]; rfl) (argsL := [(.ref rs_1), (.int (12 : Int32)), (.int (own_sz 5 p0)), (.int (1 : Int32)), (.long (own_v p0)), (.int (own_nd p0))]) (rest := []) (lenOf pd_32 rfl) rfl (Nat.le_of_eq rfl) (hb hby at_263) (fun _ _ => ⟨rfl, rfl, (by decide : 27 + 1 ≤ _), (by decide : 3105 + 10 ≤ _)⟩)
    dsimp only [Pt.U, Pt.locs, Pt.cells, Pt.slots] at X87 l87 y87 z87 st87 hQ87
    subst l87 y87 z87
    obtain ⟨rfl, Nq87, q87_0⟩ := hQ87
    have N87 := Fr.app N80 Nq87
    refine Go.of st87 ?_
    have J87 : Keep T1.heap T87.heap [] := (J80).trans q87_0 all0
    have K87 : Keep h0 T87.heap [] := (K80).trans q87_0 all0
    have Z87 : n0 ≤ T87.heap.size := Nat.le_trans Z80 q87_0.1
    show Go p e below _ (T87.setTop (mkF m 266 #[.val (.int p0), .val (.ref r_1), .val (.ref rs_1), .val (.int (1 : Int32)), .val (.long (own_v p0)), .second, .val (.int (own_nd p0)), .val (.int (own_sz 5 p0))] [(.int (1 : Int32))]))
    refine Go.of (fun _ k => XS.ifNo X87.here hx rfl (hb hby at_266) rfl ((if0 _ _).trans (feq (by decide : ¬ ((1 : Int32) = (0 : Int32)))).1) k) ?_
    show Go p e below _ (T87.setTop (mkF m 269 #[.val (.int p0), .val (.ref r_1), .val (.ref rs_1), .val (.int (1 : Int32)), .val (.long (own_v p0)), .second, .val (.int (own_nd p0)), .val (.int (own_sz 5 p0))] []))
    refine Go.of (fun _ k => XS.aloadN X87.here hx rfl (hb hby at_269) rfl rfl k) ?_
    refine Go.of (fun _ k => XS.bipush X87.here hx rfl (hb hby at_270) k) ?_
    refine Go.of (fun _ k => XS.iload X87.here hx rfl (hb hby at_272) rfl  k) ?_
    refine Go.of (fun _ k => XS.iloadN X87.here hx rfl (hb hby at_274) rfl  k) ?_
    refine Go.of (fun _ k => XS.lload X87.here hx rfl (hb hby at_275) rfl  k) ?_
    refine Go.of (fun _ k => XS.iload X87.here hx rfl (hb hby at_277) rfl  k) ?_
    have c95 : Sta Z T87.heap "java/lang/String" "COMPACT_STRINGS" "Z" (.int w_COMPACT_STRINGS) := (own_Sta_keep S_COMPACT_STRINGS K87 own_p0)
    have c96 : Fld Z T87.heap rs_1 "java/lang/String" "coder" "B" (.int (0 : Int32)) := (c89.keep q87_0 nin0)
    have c97 : Exa Z T87.heap rs_1 "java/lang/String" := (c90.keep q87_0)
    have c98 : Fld Z T87.heap rs_1 "java/lang/String" "value" "[B" (.ref rb_1) := (c91.keep q87_0 nin0)
    have c99 : Arv Z T87.heap rb_1 rk_1 .byte (own_sz 5 p0) ro_1 (.int (0 : Int32)) := (c92.keep q87_0 nin0)
    have c100 : Sta Z T87.heap "jdk/internal/util/Preconditions" "SIOOBE_FORMATTER" "Ljava/util/function/BiFunction;" v_SIOOBE_FORMATTER := (own_Sta_keep S_SIOOBE_FORMATTER K87 own_p0)
    obtain ⟨_, _, ⟨T94, L94, k94, n94⟩, -, X94, ⟨Lc94, hQ94, l94, y94, z94⟩, st94⟩ := Jvm.LawKit.callS X87 hx (y := own_y_EngineExceptionHttpStatusPinLaw_at_41) hown1 (mvT hZ1 (own_h hw 225 rfl)) (mvT hZ1 (own_h hw 226 rfl)) (mvT hZ1 (own_h hw 213 rfl)) (mvT hZ1 (own_h hw 227 rfl)) (by decide) (backOf (W := 0) (rm36 l Z a0 hw [] rs_1 (13 : Int32) (own_sz 5 p0) (1 : Int32) (own_v p0) (own_nd p0) (own_sz 5 p0) ro_1 (own_by p0 (13 : Int32)) w_COMPACT_STRINGS rb_1 rk_1 v_SIOOBE_FORMATTER T87.heap n0 Z87 c95 hc7_1_13_1 c96 c97 c98 c99 c100 hr_v_SIOOBE_FORMATTER (fun _ => by decide) (fun q => q) (fun q => own_rd q1_8 (by decide) q) (fun q => own_okM hc3 (by decide) q) (fun q => own_eqM hc3 (by decide) q)) hZ1 (own_h hw 227 rfl) (own_h hw 213 rfl) (by decide) (by decide)) (g := (mkF m 279 #[.val (.int p0), .val (.ref r_1), .val (.ref rs_1), .val (.int (1 : Int32)), .val (.long (own_v p0)), .second, .val (.int (own_nd p0)), .val (.int (own_sz 5 p0))] [(.int (own_nd p0)), (.long (own_v p0)), (.int (1 : Int32)), (.int (own_sz 5 p0)), (.int (13 : Int32)), (.ref rs_1)])) rfl (by rw [hml]; rfl) (argsL := [(.ref rs_1), (.int (13 : Int32)), (.int (own_sz 5 p0)), (.int (1 : Int32)), (.long (own_v p0)), (.int (own_nd p0))]) (rest := []) (lenOf pd_32 rfl) rfl (Nat.le_of_eq rfl) (hb hby at_279) (fun _ _ => ⟨rfl, rfl, (by decide : 28 + 1 ≤ _), (by decide : 3115 + 10 ≤ _)⟩)
    dsimp only [Pt.U, Pt.locs, Pt.cells, Pt.slots] at X94 l94 y94 z94 st94 hQ94
    subst l94 y94 z94
    obtain ⟨rfl, Nq94, q94_0⟩ := hQ94
    have N94 := Fr.app N87 Nq94
    refine Go.of st94 ?_
    have J94 : Keep T1.heap T94.heap [] := (J87).trans q94_0 all0
    have K94 : Keep h0 T94.heap [] := (K87).trans q94_0 all0
    have Z94 : n0 ≤ T94.heap.size := Nat.le_trans Z87 q94_0.1
    show Go p e below _ (T94.setTop (mkF m 282 #[.val (.int p0), .val (.ref r_1), .val (.ref rs_1), .val (.int (1 : Int32)), .val (.long (own_v p0)), .second, .val (.int (own_nd p0)), .val (.int (own_sz 5 p0))] [(.int (1 : Int32))]))
    refine Go.of (fun _ k => XS.ifNo X94.here hx rfl (hb hby at_282) rfl ((if0 _ _).trans (feq (by decide : ¬ ((1 : Int32) = (0 : Int32)))).1) k) ?_
    show Go p e below _ (T94.setTop (mkF m 285 #[.val (.int p0), .val (.ref r_1), .val (.ref rs_1), .val (.int (1 : Int32)), .val (.long (own_v p0)), .second, .val (.int (own_nd p0)), .val (.int (own_sz 5 p0))] []))
    refine Go.of (fun _ k => XS.aloadN X94.here hx rfl (hb hby at_285) rfl rfl k) ?_
    refine Go.of (fun _ k => XS.bipush X94.here hx rfl (hb hby at_286) k) ?_
    refine Go.of (fun _ k => XS.iload X94.here hx rfl (hb hby at_288) rfl  k) ?_
    refine Go.of (fun _ k => XS.iloadN X94.here hx rfl (hb hby at_290) rfl  k) ?_
    refine Go.of (fun _ k => XS.lload X94.here hx rfl (hb hby at_291) rfl  k) ?_
    refine Go.of (fun _ k => XS.iload X94.here hx rfl (hb hby at_293) rfl  k) ?_
    have c102 : Sta Z T94.heap "java/lang/String" "COMPACT_STRINGS" "Z" (.int w_COMPACT_STRINGS) := (own_Sta_keep S_COMPACT_STRINGS K94 own_p0)
    have c103 : Fld Z T94.heap rs_1 "java/lang/String" "coder" "B" (.int (0 : Int32)) := (c96.keep q94_0 nin0)
    have c104 : Exa Z T94.heap rs_1 "java/lang/String" := (c97.keep q94_0)
    have c105 : Fld Z T94.heap rs_1 "java/lang/String" "value" "[B" (.ref rb_1) := (c98.keep q94_0 nin0)
    have c106 : Arv Z T94.heap rb_1 rk_1 .byte (own_sz 5 p0) ro_1 (.int (0 : Int32)) := (c99.keep q94_0 nin0)
    have c107 : Sta Z T94.heap "jdk/internal/util/Preconditions" "SIOOBE_FORMATTER" "Ljava/util/function/BiFunction;" v_SIOOBE_FORMATTER := (own_Sta_keep S_SIOOBE_FORMATTER K94 own_p0)
    obtain ⟨_, _, ⟨T101, L101, k101, n101⟩, -, X101, ⟨Lc101, hQ101, l101, y101, z101⟩, st101⟩ := Jvm.LawKit.callS X94 hx (y := own_y_EngineExceptionHttpStatusPinLaw_at_41) hown1 (mvT hZ1 (own_h hw 225 rfl)) (mvT hZ1 (own_h hw 226 rfl)) (mvT hZ1 (own_h hw 213 rfl)) (mvT hZ1 (own_h hw 227 rfl)) (by decide) (backOf (W := 0) (rm36 l Z a0 hw [] rs_1 (14 : Int32) (own_sz 5 p0) (1 : Int32) (own_v p0) (own_nd p0) (own_sz 5 p0) ro_1 (own_by p0 (14 : Int32)) w_COMPACT_STRINGS rb_1 rk_1 v_SIOOBE_FORMATTER T94.heap n0 Z94 c102 hc7_1_13_1 c103 c104 c105 c106 c107 hr_v_SIOOBE_FORMATTER (fun _ => by decide) (fun q => q) (fun q => own_rd q1_8 (by decide) q) (fun q => own_okM hc3 (by decide) q) (fun q => own_eqM hc3 (by decide) q)) hZ1 (own_h hw 227 rfl) (own_h hw 213 rfl) (by decide) (by decide)) (g := (mkF m 295 #[.val (.int p0), .val (.ref r_1), .val (.ref rs_1), .val (.int (1 : Int32)), .val (.long (own_v p0)), .second, .val (.int (own_nd p0)), .val (.int (own_sz 5 p0))] [(.int (own_nd p0)), (.long (own_v p0)), (.int (1 : Int32)), (.int (own_sz 5 p0)), (.int (14 : Int32)), (.ref rs_1)])) rfl (by rw [hml]; rfl) (argsL := [(.ref rs_1), (.int (14 : Int32)), (.int (own_sz 5 p0)), (.int (1 : Int32)), (.long (own_v p0)), (.int (own_nd p0))]) (rest := []) (lenOf pd_32 rfl) rfl (Nat.le_of_eq rfl) (hb hby at_295) (fun _ _ => ⟨rfl, rfl, (by decide : 29 + 1 ≤ _), (by decide : 3125 + 10 ≤ _)⟩)
    dsimp only [Pt.U, Pt.locs, Pt.cells, Pt.slots] at X101 l101 y101 z101 st101 hQ101
    subst l101 y101 z101
    obtain ⟨rfl, Nq101, q101_0⟩ := hQ101
    have N101 := Fr.app N94 Nq101
    refine Go.of st101 ?_
    have J101 : Keep T1.heap T101.heap [] := (J94).trans q101_0 all0
    have K101 : Keep h0 T101.heap [] := (K94).trans q101_0 all0
    have Z101 : n0 ≤ T101.heap.size := Nat.le_trans Z94 q101_0.1
    show Go p e below _ (T101.setTop (mkF m 298 #[.val (.int p0), .val (.ref r_1), .val (.ref rs_1), .val (.int (1 : Int32)), .val (.long (own_v p0)), .second, .val (.int (own_nd p0)), .val (.int (own_sz 5 p0))] [(.int (1 : Int32))]))
    refine Go.of (fun _ k => XS.ifNo X101.here hx rfl (hb hby at_298) rfl ((if0 _ _).trans (feq (by decide : ¬ ((1 : Int32) = (0 : Int32)))).1) k) ?_
    show Go p e below _ (T101.setTop (mkF m 301 #[.val (.int p0), .val (.ref r_1), .val (.ref rs_1), .val (.int (1 : Int32)), .val (.long (own_v p0)), .second, .val (.int (own_nd p0)), .val (.int (own_sz 5 p0))] []))
    refine Go.of (fun _ k => XS.aloadN X101.here hx rfl (hb hby at_301) rfl rfl k) ?_
    refine Go.of (fun _ k => XS.bipush X101.here hx rfl (hb hby at_302) k) ?_
    refine Go.of (fun _ k => XS.iload X101.here hx rfl (hb hby at_304) rfl  k) ?_
    refine Go.of (fun _ k => XS.iloadN X101.here hx rfl (hb hby at_306) rfl  k) ?_
    refine Go.of (fun _ k => XS.lload X101.here hx rfl (hb hby at_307) rfl  k) ?_
    refine Go.of (fun _ k => XS.iload X101.here hx rfl (hb hby at_309) rfl  k) ?_
    have c109 : Sta Z T101.heap "java/lang/String" "COMPACT_STRINGS" "Z" (.int w_COMPACT_STRINGS) := (own_Sta_keep S_COMPACT_STRINGS K101 own_p0)
    have c110 : Fld Z T101.heap rs_1 "java/lang/String" "coder" "B" (.int (0 : Int32)) := (c103.keep q101_0 nin0)
    have c111 : Exa Z T101.heap rs_1 "java/lang/String" := (c104.keep q101_0)
    have c112 : Fld Z T101.heap rs_1 "java/lang/String" "value" "[B" (.ref rb_1) := (c105.keep q101_0 nin0)
    have c113 : Arv Z T101.heap rb_1 rk_1 .byte (own_sz 5 p0) ro_1 (.int (0 : Int32)) := (c106.keep q101_0 nin0)
    have c114 : Sta Z T101.heap "jdk/internal/util/Preconditions" "SIOOBE_FORMATTER" "Ljava/util/function/BiFunction;" v_SIOOBE_FORMATTER := (own_Sta_keep S_SIOOBE_FORMATTER K101 own_p0)
    obtain ⟨_, _, ⟨T108, L108, k108, n108⟩, -, X108, ⟨Lc108, hQ108, l108, y108, z108⟩, st108⟩ := Jvm.LawKit.callS X101 hx (y := own_y_EngineExceptionHttpStatusPinLaw_at_41) hown1 (mvT hZ1 (own_h hw 225 rfl)) (mvT hZ1 (own_h hw 226 rfl)) (mvT hZ1 (own_h hw 213 rfl)) (mvT hZ1 (own_h hw 227 rfl)) (by decide) (backOf (W := 0) (rm36 l Z a0 hw [] rs_1 (15 : Int32) (own_sz 5 p0) (1 : Int32) (own_v p0) (own_nd p0) (own_sz 5 p0) ro_1 (own_by p0 (15 : Int32)) w_COMPACT_STRINGS rb_1 rk_1 v_SIOOBE_FORMATTER T101.heap n0 Z101 c109 hc7_1_13_1 c110 c111 c112 c113 c114 hr_v_SIOOBE_FORMATTER (fun _ => by decide) (fun q => q) (fun q => own_rd q1_8 (by decide) q) (fun q => own_okM hc3 (by decide) q) (fun q => own_eqM hc3 (by decide) q)) hZ1 (own_h hw 227 rfl) (own_h hw 213 rfl) (by decide) (by decide)) (g := (mkF m 311 #[.val (.int p0), .val (.ref r_1), .val (.ref rs_1), .val (.int (1 : Int32)), .val (.long (own_v p0)), .second, .val (.int (own_nd p0)), .val (.int (own_sz 5 p0))] [(.int (own_nd p0)), (.long (own_v p0)), (.int (1 : Int32)), (.int (own_sz 5 p0)), (.int (15 : Int32)), (.ref rs_1)])) rfl (by rw [hml]; rfl) (argsL := [(.ref rs_1), (.int (15 : Int32)), (.int (own_sz 5 p0)), (.int (1 : Int32)), (.long (own_v p0)), (.int (own_nd p0))]) (rest := []) (lenOf pd_32 rfl) rfl (Nat.le_of_eq rfl) (hb hby at_311) (fun _ _ => ⟨rfl, rfl, (by decide : 30 + 1 ≤ _), (by decide : 3135 + 10 ≤ _)⟩)
    dsimp only [Pt.U, Pt.locs, Pt.cells, Pt.slots] at X108 l108 y108 z108 st108 hQ108
    subst l108 y108 z108
    obtain ⟨rfl, Nq108, q108_0⟩ := hQ108
    have N108 := Fr.app N101 Nq108
    refine Go.of st108 ?_
    have J108 : Keep T1.heap T108.heap [] := (J101).trans q108_0 all0
    have K108 : Keep h0 T108.heap [] := (K101).trans q108_0 all0
    have Z108 : n0 ≤ T108.heap.size := Nat.le_trans Z101 q108_0.1
    show Go p e below _ (T108.setTop (mkF m 314 #[.val (.int p0), .val (.ref r_1), .val (.ref rs_1), .val (.int (1 : Int32)), .val (.long (own_v p0)), .second, .val (.int (own_nd p0)), .val (.int (own_sz 5 p0))] [(.int (1 : Int32))]))
    refine Go.of (fun _ k => XS.ifNo X108.here hx rfl (hb hby at_314) rfl ((if0 _ _).trans (feq (by decide : ¬ ((1 : Int32) = (0 : Int32)))).1) k) ?_
    show Go p e below _ (T108.setTop (mkF m 317 #[.val (.int p0), .val (.ref r_1), .val (.ref rs_1), .val (.int (1 : Int32)), .val (.long (own_v p0)), .second, .val (.int (own_nd p0)), .val (.int (own_sz 5 p0))] []))
    refine Go.of (fun _ k => XS.iconst X108.here hx rfl (hb hby at_317) k) ?_
    refine Go.of (fun _ k => XS.goto X108.here hx rfl (pc0 := 318) (pc' := 322) rfl (hb hby at_318) (by decide) (by decide) k) ?_
    show Go p e below _ (T108.setTop (mkF m 322 #[.val (.int p0), .val (.ref r_1), .val (.ref rs_1), .val (.int (1 : Int32)), .val (.long (own_v p0)), .second, .val (.int (own_nd p0)), .val (.int (own_sz 5 p0))] [(.int (1 : Int32))]))
    obtain ⟨fs, hr, hrun, hended, hRW⟩ := X108.leaveW (s := s) hS1 (by exact Nat.le_trans hk1 (J108).1) (v := some (.int (1 : Int32))) (fun h => by rw [Bd.returns] at h; cases h)
    refine Go.mk _ _ ?_ hrun hended ⟨_, _, rfl, ?_, ⟨hRW.1, hRW.2.1, hRW.2.2.1, hRW.2.2.2.mono (by decide) (by decide)⟩⟩
    · exact retN X108 hx (t := .boolean) Bd.returns (by simp) (hb hby at_322) hr
    · show Q0 Z p0 w_COMPACT_STRINGS tst td1 td2 tD1 tD2 w_UNASSIGNED_STACK w_SUPPRESSED_SENTINEL v_SIOOBE_FORMATTER h0 n0 _ T108.heap _
      exact ⟨rfl, N108⟩
  ·
    refine Go.of (fun _ k => XS.ifYes X2.here hx rfl (pc0 := 17) (pc' := 24) rfl (hb hby at_17) rfl ((if0 _ _).trans (flt hc3).2.1) (by decide) (by decide) k) ?_
    show Go p e below _ (T2.setTop (mkF m 24 #[.val (.int p0), .val (.ref r_1), .val (.ref rs_1), .unset, .unset, .unset, .unset, .unset] []))
    refine Go.of (fun _ k => XS.iconst X2.here hx rfl (hb hby at_24) k) ?_
    refine Go.of (fun _ k => XS.istoreN X2.here hx rfl (hb hby at_25) rfl (l' := #[.val (.int p0), .val (.ref r_1), .val (.ref rs_1), .val (.int (0 : Int32)), .unset, .unset, .unset, .unset]) rfl k) ?_
    show Go p e below _ (T2.setTop (mkF m 26 #[.val (.int p0), .val (.ref r_1), .val (.ref rs_1), .val (.int (0 : Int32)), .unset, .unset, .unset, .unset] []))
    refine Go.of (fun _ k => XS.iloadN X2.here hx rfl (hb hby at_26) rfl  k) ?_
    refine Go.of (fun _ k => XS.i2l X2.here hx rfl (hb hby at_27) rfl k) ?_
    show Go p e below _ (T2.setTop (mkF m 28 #[.val (.int p0), .val (.ref r_1), .val (.ref rs_1), .val (.int (0 : Int32)), .unset, .unset, .unset, .unset] [(.long (p0.toInt64))]))
    obtain ⟨_, _, ⟨T116, L116, k116, n116⟩, -, X116, ⟨Lc116, hQ116, l116, y116, z116⟩, st116⟩ := Jvm.LawKit.callS X2 hx (y := own_y_Math_abs_39) hown1 (mvT hZ1 (own_h hw 208 rfl)) (mvT hZ1 (own_h hw 209 rfl)) (mvT hZ1 (own_h hw 146 rfl)) (mvT hZ1 (own_h hw 210 rfl)) (by decide) (backOf (W := 0) (rm34_p l Z a0 hw [] (p0.toInt64) T1.heap n0 Z1 (own_lcP hc3)) hZ1 (own_h hw 210 rfl) (own_h hw 146 rfl) (by decide) (by decide)) (g := (mkF m 28 #[.val (.int p0), .val (.ref r_1), .val (.ref rs_1), .val (.int (0 : Int32)), .unset, .unset, .unset, .unset] [(.long (p0.toInt64))])) rfl (by rw [hml]; rfl) (argsL := [(.long (p0.toInt64))]) (rest := []) (lenOf pd_30 rfl) rfl (Nat.le_of_eq rfl) (hb hby at_28) (fun _ _ => ⟨rfl, q2_0, (by decide : 15 + 0 ≤ _), (by decide : 2985 + 0 ≤ _)⟩)
    dsimp only [Pt.U, Pt.locs, Pt.cells, Pt.slots] at X116 l116 y116 z116 st116 hQ116
    subst l116 y116 z116
    obtain ⟨rfl, Nq116, q116_0⟩ := hQ116
    have N116 := Fr.app N2 Nq116
    refine Go.of st116 ?_
    show Go p e below _ (T116.setTop (mkF m 31 #[.val (.int p0), .val (.ref r_1), .val (.ref rs_1), .val (.int (0 : Int32)), .unset, .unset, .unset, .unset] [(.long (p0.toInt64))]))
    rw [own_absP hc3]
    show Go p e below _ (T116.setTop (mkF m 31 #[.val (.int p0), .val (.ref r_1), .val (.ref rs_1), .val (.int (0 : Int32)), .unset, .unset, .unset, .unset] [(.long (own_v p0))]))
    refine Go.of (fun _ k => XS.lstore X116.here hx rfl (hb hby at_31) rfl (l' := #[.val (.int p0), .val (.ref r_1), .val (.ref rs_1), .val (.int (0 : Int32)), .val (.long (own_v p0)), .second, .unset, .unset]) rfl k) ?_
    show Go p e below _ (T116.setTop (mkF m 33 #[.val (.int p0), .val (.ref r_1), .val (.ref rs_1), .val (.int (0 : Int32)), .val (.long (own_v p0)), .second, .unset, .unset] []))
    refine Go.of (fun _ k => XS.lload X116.here hx rfl (hb hby at_33) rfl  k) ?_
    obtain ⟨_, _, ⟨T117, L117, k117, n117⟩, -, X117, ⟨Lc117, hQ117, l117, y117, z117⟩, st117⟩ := Jvm.LawKit.callS X116 hx (y := own_y_EngineExceptionHttpStatusPinLaw_digits_40) hown1 (mvT hZ1 (own_h hw 211 rfl)) (mvT hZ1 (own_h hw 212 rfl)) (mvT hZ1 (own_h hw 213 rfl)) (mvT hZ1 (own_h hw 214 rfl)) (by decide) (backOf (W := 0) (rm35 l Z a0 hw [] (own_v p0) T1.heap n0 Z1 ) hZ1 (own_h hw 214 rfl) (own_h hw 213 rfl) (by decide) (by decide)) (g := (mkF m 35 #[.val (.int p0), .val (.ref r_1), .val (.ref rs_1), .val (.int (0 : Int32)), .val (.long (own_v p0)), .second, .unset, .unset] [(.long (own_v p0))])) rfl (by rw [hml]; rfl) (argsL := [(.long (own_v p0))]) (rest := []) (lenOf pd_31 rfl) rfl (Nat.le_of_eq rfl) (hb hby at_35) (fun _ _ => ⟨rfl, q116_0, (by decide : 15 + 0 ≤ _), (by decide : 2985 + 0 ≤ _)⟩)
    dsimp only [Pt.U, Pt.locs, Pt.cells, Pt.slots] at X117 l117 y117 z117 st117 hQ117
    subst l117 y117 z117
    obtain ⟨rfl, Nq117, q117_0⟩ := hQ117
    have N117 := Fr.app N116 Nq117
    refine Go.of st117 ?_
    show Go p e below _ (T117.setTop (mkF m 38 #[.val (.int p0), .val (.ref r_1), .val (.ref rs_1), .val (.int (0 : Int32)), .val (.long (own_v p0)), .second, .unset, .unset] [(.int (own_dig (own_v p0)))]))
    rw [own_digv p0]
    show Go p e below _ (T117.setTop (mkF m 38 #[.val (.int p0), .val (.ref r_1), .val (.ref rs_1), .val (.int (0 : Int32)), .val (.long (own_v p0)), .second, .unset, .unset] [(.int (own_nd p0))]))
    refine Go.of (fun _ k => XS.istore X117.here hx rfl (hb hby at_38) rfl (l' := #[.val (.int p0), .val (.ref r_1), .val (.ref rs_1), .val (.int (0 : Int32)), .val (.long (own_v p0)), .second, .val (.int (own_nd p0)), .unset]) rfl k) ?_
    show Go p e below _ (T117.setTop (mkF m 40 #[.val (.int p0), .val (.ref r_1), .val (.ref rs_1), .val (.int (0 : Int32)), .val (.long (own_v p0)), .second, .val (.int (own_nd p0)), .unset] []))
    refine Go.of (fun _ k => XS.iconst X117.here hx rfl (hb hby at_40) k) ?_
    refine Go.of (fun _ k => XS.iloadN X117.here hx rfl (hb hby at_41) rfl  k) ?_
    refine Go.of (fun _ k => XS.ifYes X117.here hx rfl (pc0 := 42) (pc' := 49) rfl (hb hby at_42) rfl ((if0 _ _).trans (teq (by decide : (0 : Int32) = (0 : Int32))).1) (by decide) (by decide) k) ?_
    show Go p e below _ (T117.setTop (mkF m 49 #[.val (.int p0), .val (.ref r_1), .val (.ref rs_1), .val (.int (0 : Int32)), .val (.long (own_v p0)), .second, .val (.int (own_nd p0)), .unset] [(.int (5 : Int32))]))
    refine Go.of (fun _ k => XS.iconst X117.here hx rfl (hb hby at_49) k) ?_
    refine Go.of (fun _ k => XS.iadd X117.here hx rfl (hb hby at_50) rfl k) ?_
    show Go p e below _ (T117.setTop (mkF m 51 #[.val (.int p0), .val (.ref r_1), .val (.ref rs_1), .val (.int (0 : Int32)), .val (.long (own_v p0)), .second, .val (.int (own_nd p0)), .unset] [(.int (5 : Int32))]))
    refine Go.of (fun _ k => XS.iload X117.here hx rfl (hb hby at_51) rfl  k) ?_
    refine Go.of (fun _ k => XS.iadd X117.here hx rfl (hb hby at_53) rfl k) ?_
    show Go p e below _ (T117.setTop (mkF m 54 #[.val (.int p0), .val (.ref r_1), .val (.ref rs_1), .val (.int (0 : Int32)), .val (.long (own_v p0)), .second, .val (.int (own_nd p0)), .unset] [(.int ((5 : Int32) + (own_nd p0)))]))
    rw [own_lenP hc3]
    show Go p e below _ (T117.setTop (mkF m 54 #[.val (.int p0), .val (.ref r_1), .val (.ref rs_1), .val (.int (0 : Int32)), .val (.long (own_v p0)), .second, .val (.int (own_nd p0)), .unset] [(.int (own_sz 5 p0))]))
    refine Go.of (fun _ k => XS.istore X117.here hx rfl (hb hby at_54) rfl (l' := #[.val (.int p0), .val (.ref r_1), .val (.ref rs_1), .val (.int (0 : Int32)), .val (.long (own_v p0)), .second, .val (.int (own_nd p0)), .val (.int (own_sz 5 p0))]) rfl k) ?_
    show Go p e below _ (T117.setTop (mkF m 56 #[.val (.int p0), .val (.ref r_1), .val (.ref rs_1), .val (.int (0 : Int32)), .val (.long (own_v p0)), .second, .val (.int (own_nd p0)), .val (.int (own_sz 5 p0))] []))
    refine Go.of (fun _ k => XS.aloadN X117.here hx rfl (hb hby at_56) rfl rfl k) ?_
    have c119 : Sta Z T1.heap "java/lang/String" "COMPACT_STRINGS" "Z" (.int w_COMPACT_STRINGS) := (own_Sta_keep S_COMPACT_STRINGS K1 own_p0)
    obtain ⟨cq118, kq118, q118a, q118b, q118c⟩ := isOf hZ1 q117_0 q1_4
    obtain ⟨_, _, ⟨T118, L118, k118, n118⟩, -, X118, ⟨Lc118, hQ118, l118, y118, z118⟩, st118⟩ := X117.virtualBack hx (y := own_y_String_length_4) (z := own_y_String_length_4) hown1 (mvT hZ1 (own_h hw 224 rfl)) (mvT hZ1 (own_h hw 45 rfl)) (notFace_of_selects (args := #[]) (mvT hZ1 (own_h hw 47 rfl))) (mvT hZ1 (own_h hw 47 rfl)) (mvT hZ1 (own_h hw 46 rfl)) (by decide) (backOf (W := 0) (rm7 l Z a0 hw [] rs_1 (own_sz 5 p0) ro_1 rb_1 rk_1 w_COMPACT_STRINGS T1.heap n0 Z1 q1_6 q1_7 c119 hc7_1_13_1 q1_5 q1_4) hZ1 (own_h hw 48 rfl) (own_h hw 22 rfl) (by decide) (by decide)) q118a q118c (g := (mkF m 57 #[.val (.int p0), .val (.ref r_1), .val (.ref rs_1), .val (.int (0 : Int32)), .val (.long (own_v p0)), .second, .val (.int (own_nd p0)), .val (.int (own_sz 5 p0))] [(.ref rs_1)])) rfl (by rw [hml]; rfl) (Steps.refl _) (argsL := []) (rest := []) (lenOf pd_4 rfl) rfl (Nat.le_of_eq rfl) (hb hby at_57) (fun _ _ => ⟨rfl, q117_0, (by decide : 15 + 0 ≤ _), (by decide : 2985 + 0 ≤ _)⟩)
    dsimp only [Pt.U, Pt.locs, Pt.cells, Pt.slots] at X118 l118 y118 z118 st118 hQ118
    subst l118 y118 z118
    obtain ⟨rfl, Nq118, q118_0⟩ := hQ118
    have N118 := Fr.app N117 Nq118
    refine Go.tr st118 ?_
    show Go p e below _ (T118.setTop (mkF m 60 #[.val (.int p0), .val (.ref r_1), .val (.ref rs_1), .val (.int (0 : Int32)), .val (.long (own_v p0)), .second, .val (.int (own_nd p0)), .val (.int (own_sz 5 p0))] [(.int (own_sz 5 p0))]))
    refine Go.of (fun _ k => XS.iload X118.here hx rfl (hb hby at_60) rfl  k) ?_
    refine Go.of (fun _ k => XS.icmpYes X118.here hx rfl (pc0 := 62) (pc' := 67) rfl (hb hby at_62) rfl (teq (rfl : (own_sz 5 p0) = (own_sz 5 p0))).1 (by decide) (by decide) k) ?_
    show Go p e below _ (T118.setTop (mkF m 67 #[.val (.int p0), .val (.ref r_1), .val (.ref rs_1), .val (.int (0 : Int32)), .val (.long (own_v p0)), .second, .val (.int (own_nd p0)), .val (.int (own_sz 5 p0))] []))
    refine Go.of (fun _ k => XS.aloadN X118.here hx rfl (hb hby at_67) rfl rfl k) ?_
    refine Go.of (fun _ k => XS.iconst X118.here hx rfl (hb hby at_68) k) ?_
    refine Go.of (fun _ k => XS.iload X118.here hx rfl (hb hby at_69) rfl  k) ?_
    refine Go.of (fun _ k => XS.iloadN X118.here hx rfl (hb hby at_71) rfl  k) ?_
    refine Go.of (fun _ k => XS.lload X118.here hx rfl (hb hby at_72) rfl  k) ?_
    refine Go.of (fun _ k => XS.iload X118.here hx rfl (hb hby at_74) rfl  k) ?_
    have c121 : Sta Z T1.heap "jdk/internal/util/Preconditions" "SIOOBE_FORMATTER" "Ljava/util/function/BiFunction;" v_SIOOBE_FORMATTER := (own_Sta_keep S_SIOOBE_FORMATTER K1 own_p0)
    obtain ⟨_, _, ⟨T120, L120, k120, n120⟩, -, X120, ⟨Lc120, hQ120, l120, y120, z120⟩, st120⟩ := Jvm.LawKit.callS X118 hx (y := own_y_EngineExceptionHttpStatusPinLaw_at_41) hown1 (mvT hZ1 (own_h hw 225 rfl)) (mvT hZ1 (own_h hw 226 rfl)) (mvT hZ1 (own_h hw 213 rfl)) (mvT hZ1 (own_h hw 227 rfl)) (by decide) (backOf (W := 0) (rm36 l Z a0 hw [] rs_1 (0 : Int32) (own_sz 5 p0) (0 : Int32) (own_v p0) (own_nd p0) (own_sz 5 p0) ro_1 (own_by p0 (0 : Int32)) w_COMPACT_STRINGS rb_1 rk_1 v_SIOOBE_FORMATTER T1.heap n0 Z1 c119 hc7_1_13_1 q1_5 q1_4 q1_6 q1_7 c121 hr_v_SIOOBE_FORMATTER (fun _ => by decide) (fun q => q) (fun q => own_rd q1_8 (by decide) q) (fun q => own_okP hc3 (by decide) q) (fun q => own_eqP hc3 (by decide) q)) hZ1 (own_h hw 227 rfl) (own_h hw 213 rfl) (by decide) (by decide)) (g := (mkF m 76 #[.val (.int p0), .val (.ref r_1), .val (.ref rs_1), .val (.int (0 : Int32)), .val (.long (own_v p0)), .second, .val (.int (own_nd p0)), .val (.int (own_sz 5 p0))] [(.int (own_nd p0)), (.long (own_v p0)), (.int (0 : Int32)), (.int (own_sz 5 p0)), (.int (0 : Int32)), (.ref rs_1)])) rfl (by rw [hml]; rfl) (argsL := [(.ref rs_1), (.int (0 : Int32)), (.int (own_sz 5 p0)), (.int (0 : Int32)), (.long (own_v p0)), (.int (own_nd p0))]) (rest := []) (lenOf pd_32 rfl) rfl (Nat.le_of_eq rfl) (hb hby at_76) (fun _ _ => ⟨rfl, q118_0, (by decide : 15 + 1 ≤ _), (by decide : 2985 + 10 ≤ _)⟩)
    dsimp only [Pt.U, Pt.locs, Pt.cells, Pt.slots] at X120 l120 y120 z120 st120 hQ120
    subst l120 y120 z120
    obtain ⟨rfl, Nq120, q120_0⟩ := hQ120
    have N120 := Fr.app N118 Nq120
    refine Go.of st120 ?_
    have J120 : Keep T1.heap T120.heap [] := ((Keep.refl T1.heap [])).trans q120_0 all0
    have K120 : Keep h0 T120.heap [] := (K1).trans q120_0 all0
    have Z120 : n0 ≤ T120.heap.size := Nat.le_trans Z1 q120_0.1
    show Go p e below _ (T120.setTop (mkF m 79 #[.val (.int p0), .val (.ref r_1), .val (.ref rs_1), .val (.int (0 : Int32)), .val (.long (own_v p0)), .second, .val (.int (own_nd p0)), .val (.int (own_sz 5 p0))] [(.int (1 : Int32))]))
    refine Go.of (fun _ k => XS.ifNo X120.here hx rfl (hb hby at_79) rfl ((if0 _ _).trans (feq (by decide : ¬ ((1 : Int32) = (0 : Int32)))).1) k) ?_
    show Go p e below _ (T120.setTop (mkF m 82 #[.val (.int p0), .val (.ref r_1), .val (.ref rs_1), .val (.int (0 : Int32)), .val (.long (own_v p0)), .second, .val (.int (own_nd p0)), .val (.int (own_sz 5 p0))] []))
    refine Go.of (fun _ k => XS.aloadN X120.here hx rfl (hb hby at_82) rfl rfl k) ?_
    refine Go.of (fun _ k => XS.iconst X120.here hx rfl (hb hby at_83) k) ?_
    refine Go.of (fun _ k => XS.iload X120.here hx rfl (hb hby at_84) rfl  k) ?_
    refine Go.of (fun _ k => XS.iloadN X120.here hx rfl (hb hby at_86) rfl  k) ?_
    refine Go.of (fun _ k => XS.lload X120.here hx rfl (hb hby at_87) rfl  k) ?_
    refine Go.of (fun _ k => XS.iload X120.here hx rfl (hb hby at_89) rfl  k) ?_
    have c123 : Sta Z T120.heap "java/lang/String" "COMPACT_STRINGS" "Z" (.int w_COMPACT_STRINGS) := (own_Sta_keep S_COMPACT_STRINGS K120 own_p0)
    have c124 : Fld Z T120.heap rs_1 "java/lang/String" "coder" "B" (.int (0 : Int32)) := (q1_5.keep q120_0 nin0)
    have c125 : Exa Z T120.heap rs_1 "java/lang/String" := (q1_4.keep q120_0)
    have c126 : Fld Z T120.heap rs_1 "java/lang/String" "value" "[B" (.ref rb_1) := (q1_6.keep q120_0 nin0)
    have c127 : Arv Z T120.heap rb_1 rk_1 .byte (own_sz 5 p0) ro_1 (.int (0 : Int32)) := (q1_7.keep q120_0 nin0)
    have c128 : Sta Z T120.heap "jdk/internal/util/Preconditions" "SIOOBE_FORMATTER" "Ljava/util/function/BiFunction;" v_SIOOBE_FORMATTER := (own_Sta_keep S_SIOOBE_FORMATTER K120 own_p0)
    obtain ⟨_, _, ⟨T122, L122, k122, n122⟩, -, X122, ⟨Lc122, hQ122, l122, y122, z122⟩, st122⟩ := Jvm.LawKit.callS X120 hx (y := own_y_EngineExceptionHttpStatusPinLaw_at_41) hown1 (mvT hZ1 (own_h hw 225 rfl)) (mvT hZ1 (own_h hw 226 rfl)) (mvT hZ1 (own_h hw 213 rfl)) (mvT hZ1 (own_h hw 227 rfl)) (by decide) (backOf (W := 0) (rm36 l Z a0 hw [] rs_1 (1 : Int32) (own_sz 5 p0) (0 : Int32) (own_v p0) (own_nd p0) (own_sz 5 p0) ro_1 (own_by p0 (1 : Int32)) w_COMPACT_STRINGS rb_1 rk_1 v_SIOOBE_FORMATTER T120.heap n0 Z120 c123 hc7_1_13_1 c124 c125 c126 c127 c128 hr_v_SIOOBE_FORMATTER (fun _ => by decide) (fun q => q) (fun q => own_rd q1_8 (by decide) q) (fun q => own_okP hc3 (by decide) q) (fun q => own_eqP hc3 (by decide) q)) hZ1 (own_h hw 227 rfl) (own_h hw 213 rfl) (by decide) (by decide)) (g := (mkF m 91 #[.val (.int p0), .val (.ref r_1), .val (.ref rs_1), .val (.int (0 : Int32)), .val (.long (own_v p0)), .second, .val (.int (own_nd p0)), .val (.int (own_sz 5 p0))] [(.int (own_nd p0)), (.long (own_v p0)), (.int (0 : Int32)), (.int (own_sz 5 p0)), (.int (1 : Int32)), (.ref rs_1)])) rfl (by rw [hml]; rfl) (argsL := [(.ref rs_1), (.int (1 : Int32)), (.int (own_sz 5 p0)), (.int (0 : Int32)), (.long (own_v p0)), (.int (own_nd p0))]) (rest := []) (lenOf pd_32 rfl) rfl (Nat.le_of_eq rfl) (hb hby at_91) (fun _ _ => ⟨rfl, rfl, (by decide : 16 + 1 ≤ _), (by decide : 2995 + 10 ≤ _)⟩)
    dsimp only [Pt.U, Pt.locs, Pt.cells, Pt.slots] at X122 l122 y122 z122 st122 hQ122
    subst l122 y122 z122
    obtain ⟨rfl, Nq122, q122_0⟩ := hQ122
    have N122 := Fr.app N120 Nq122
    refine Go.of st122 ?_
    have J122 : Keep T1.heap T122.heap [] := (J120).trans q122_0 all0
    have K122 : Keep h0 T122.heap [] := (K120).trans q122_0 all0
    have Z122 : n0 ≤ T122.heap.size := Nat.le_trans Z120 q122_0.1
    show Go p e below _ (T122.setTop (mkF m 94 #[.val (.int p0), .val (.ref r_1), .val (.ref rs_1), .val (.int (0 : Int32)), .val (.long (own_v p0)), .second, .val (.int (own_nd p0)), .val (.int (own_sz 5 p0))] [(.int (1 : Int32))]))
    refine Go.of (fun _ k => XS.ifNo X122.here hx rfl (hb hby at_94) rfl ((if0 _ _).trans (feq (by decide : ¬ ((1 : Int32) = (0 : Int32)))).1) k) ?_
    show Go p e below _ (T122.setTop (mkF m 97 #[.val (.int p0), .val (.ref r_1), .val (.ref rs_1), .val (.int (0 : Int32)), .val (.long (own_v p0)), .second, .val (.int (own_nd p0)), .val (.int (own_sz 5 p0))] []))
    refine Go.of (fun _ k => XS.aloadN X122.here hx rfl (hb hby at_97) rfl rfl k) ?_
    refine Go.of (fun _ k => XS.iconst X122.here hx rfl (hb hby at_98) k) ?_
    refine Go.of (fun _ k => XS.iload X122.here hx rfl (hb hby at_99) rfl  k) ?_
    refine Go.of (fun _ k => XS.iloadN X122.here hx rfl (hb hby at_101) rfl  k) ?_
    refine Go.of (fun _ k => XS.lload X122.here hx rfl (hb hby at_102) rfl  k) ?_
    refine Go.of (fun _ k => XS.iload X122.here hx rfl (hb hby at_104) rfl  k) ?_
    have c130 : Sta Z T122.heap "java/lang/String" "COMPACT_STRINGS" "Z" (.int w_COMPACT_STRINGS) := (own_Sta_keep S_COMPACT_STRINGS K122 own_p0)
    have c131 : Fld Z T122.heap rs_1 "java/lang/String" "coder" "B" (.int (0 : Int32)) := (c124.keep q122_0 nin0)
    have c132 : Exa Z T122.heap rs_1 "java/lang/String" := (c125.keep q122_0)
    have c133 : Fld Z T122.heap rs_1 "java/lang/String" "value" "[B" (.ref rb_1) := (c126.keep q122_0 nin0)
    have c134 : Arv Z T122.heap rb_1 rk_1 .byte (own_sz 5 p0) ro_1 (.int (0 : Int32)) := (c127.keep q122_0 nin0)
    have c135 : Sta Z T122.heap "jdk/internal/util/Preconditions" "SIOOBE_FORMATTER" "Ljava/util/function/BiFunction;" v_SIOOBE_FORMATTER := (own_Sta_keep S_SIOOBE_FORMATTER K122 own_p0)
    obtain ⟨_, _, ⟨T129, L129, k129, n129⟩, -, X129, ⟨Lc129, hQ129, l129, y129, z129⟩, st129⟩ := Jvm.LawKit.callS X122 hx (y := own_y_EngineExceptionHttpStatusPinLaw_at_41) hown1 (mvT hZ1 (own_h hw 225 rfl)) (mvT hZ1 (own_h hw 226 rfl)) (mvT hZ1 (own_h hw 213 rfl)) (mvT hZ1 (own_h hw 227 rfl)) (by decide) (backOf (W := 0) (rm36 l Z a0 hw [] rs_1 (2 : Int32) (own_sz 5 p0) (0 : Int32) (own_v p0) (own_nd p0) (own_sz 5 p0) ro_1 (own_by p0 (2 : Int32)) w_COMPACT_STRINGS rb_1 rk_1 v_SIOOBE_FORMATTER T122.heap n0 Z122 c130 hc7_1_13_1 c131 c132 c133 c134 c135 hr_v_SIOOBE_FORMATTER (fun _ => by decide) (fun q => q) (fun q => own_rd q1_8 (by decide) q) (fun q => own_okP hc3 (by decide) q) (fun q => own_eqP hc3 (by decide) q)) hZ1 (own_h hw 227 rfl) (own_h hw 213 rfl) (by decide) (by decide)) (g := (mkF m 106 #[.val (.int p0), .val (.ref r_1), .val (.ref rs_1), .val (.int (0 : Int32)), .val (.long (own_v p0)), .second, .val (.int (own_nd p0)), .val (.int (own_sz 5 p0))] [(.int (own_nd p0)), (.long (own_v p0)), (.int (0 : Int32)), (.int (own_sz 5 p0)), (.int (2 : Int32)), (.ref rs_1)])) rfl (by rw [hml]; rfl) (argsL := [(.ref rs_1), (.int (2 : Int32)), (.int (own_sz 5 p0)), (.int (0 : Int32)), (.long (own_v p0)), (.int (own_nd p0))]) (rest := []) (lenOf pd_32 rfl) rfl (Nat.le_of_eq rfl) (hb hby at_106) (fun _ _ => ⟨rfl, rfl, (by decide : 17 + 1 ≤ _), (by decide : 3005 + 10 ≤ _)⟩)
    dsimp only [Pt.U, Pt.locs, Pt.cells, Pt.slots] at X129 l129 y129 z129 st129 hQ129
    subst l129 y129 z129
    obtain ⟨rfl, Nq129, q129_0⟩ := hQ129
    have N129 := Fr.app N122 Nq129
    refine Go.of st129 ?_
    have J129 : Keep T1.heap T129.heap [] := (J122).trans q129_0 all0
    have K129 : Keep h0 T129.heap [] := (K122).trans q129_0 all0
    have Z129 : n0 ≤ T129.heap.size := Nat.le_trans Z122 q129_0.1
    show Go p e below _ (T129.setTop (mkF m 109 #[.val (.int p0), .val (.ref r_1), .val (.ref rs_1), .val (.int (0 : Int32)), .val (.long (own_v p0)), .second, .val (.int (own_nd p0)), .val (.int (own_sz 5 p0))] [(.int (1 : Int32))]))
    refine Go.of (fun _ k => XS.ifNo X129.here hx rfl (hb hby at_109) rfl ((if0 _ _).trans (feq (by decide : ¬ ((1 : Int32) = (0 : Int32)))).1) k) ?_
    show Go p e below _ (T129.setTop (mkF m 112 #[.val (.int p0), .val (.ref r_1), .val (.ref rs_1), .val (.int (0 : Int32)), .val (.long (own_v p0)), .second, .val (.int (own_nd p0)), .val (.int (own_sz 5 p0))] []))
    refine Go.of (fun _ k => XS.aloadN X129.here hx rfl (hb hby at_112) rfl rfl k) ?_
    refine Go.of (fun _ k => XS.iconst X129.here hx rfl (hb hby at_113) k) ?_
    refine Go.of (fun _ k => XS.iload X129.here hx rfl (hb hby at_114) rfl  k) ?_
    refine Go.of (fun _ k => XS.iloadN X129.here hx rfl (hb hby at_116) rfl  k) ?_
    refine Go.of (fun _ k => XS.lload X129.here hx rfl (hb hby at_117) rfl  k) ?_
    refine Go.of (fun _ k => XS.iload X129.here hx rfl (hb hby at_119) rfl  k) ?_
    have c137 : Sta Z T129.heap "java/lang/String" "COMPACT_STRINGS" "Z" (.int w_COMPACT_STRINGS) := (own_Sta_keep S_COMPACT_STRINGS K129 own_p0)
    have c138 : Fld Z T129.heap rs_1 "java/lang/String" "coder" "B" (.int (0 : Int32)) := (c131.keep q129_0 nin0)
    have c139 : Exa Z T129.heap rs_1 "java/lang/String" := (c132.keep q129_0)
    have c140 : Fld Z T129.heap rs_1 "java/lang/String" "value" "[B" (.ref rb_1) := (c133.keep q129_0 nin0)
    have c141 : Arv Z T129.heap rb_1 rk_1 .byte (own_sz 5 p0) ro_1 (.int (0 : Int32)) := (c134.keep q129_0 nin0)
    have c142 : Sta Z T129.heap "jdk/internal/util/Preconditions" "SIOOBE_FORMATTER" "Ljava/util/function/BiFunction;" v_SIOOBE_FORMATTER := (own_Sta_keep S_SIOOBE_FORMATTER K129 own_p0)
    obtain ⟨_, _, ⟨T136, L136, k136, n136⟩, -, X136, ⟨Lc136, hQ136, l136, y136, z136⟩, st136⟩ := Jvm.LawKit.callS X129 hx (y := own_y_EngineExceptionHttpStatusPinLaw_at_41) hown1 (mvT hZ1 (own_h hw 225 rfl)) (mvT hZ1 (own_h hw 226 rfl)) (mvT hZ1 (own_h hw 213 rfl)) (mvT hZ1 (own_h hw 227 rfl)) (by decide) (backOf (W := 0) (rm36 l Z a0 hw [] rs_1 (3 : Int32) (own_sz 5 p0) (0 : Int32) (own_v p0) (own_nd p0) (own_sz 5 p0) ro_1 (own_by p0 (3 : Int32)) w_COMPACT_STRINGS rb_1 rk_1 v_SIOOBE_FORMATTER T129.heap n0 Z129 c137 hc7_1_13_1 c138 c139 c140 c141 c142 hr_v_SIOOBE_FORMATTER (fun _ => by decide) (fun q => q) (fun q => own_rd q1_8 (by decide) q) (fun q => own_okP hc3 (by decide) q) (fun q => own_eqP hc3 (by decide) q)) hZ1 (own_h hw 227 rfl) (own_h hw 213 rfl) (by decide) (by decide)) (g := (mkF m 121 #[.val (.int p0), .val (.ref r_1), .val (.ref rs_1), .val (.int (0 : Int32)), .val (.long (own_v p0)), .second, .val (.int (own_nd p0)), .val (.int (own_sz 5 p0))] [(.int (own_nd p0)), (.long (own_v p0)), (.int (0 : Int32)), (.int (own_sz 5 p0)), (.int (3 : Int32)), (.ref rs_1)])) rfl (by rw [hml]; rfl) (argsL := [(.ref rs_1), (.int (3 : Int32)), (.int (own_sz 5 p0)), (.int (0 : Int32)), (.long (own_v p0)), (.int (own_nd p0))]) (rest := []) (lenOf pd_32 rfl) rfl (Nat.le_of_eq rfl) (hb hby at_121) (fun _ _ => ⟨rfl, rfl, (by decide : 18 + 1 ≤ _), (by decide : 3015 + 10 ≤ _)⟩)
    dsimp only [Pt.U, Pt.locs, Pt.cells, Pt.slots] at X136 l136 y136 z136 st136 hQ136
    subst l136 y136 z136
    obtain ⟨rfl, Nq136, q136_0⟩ := hQ136
    have N136 := Fr.app N129 Nq136
    refine Go.of st136 ?_
    have J136 : Keep T1.heap T136.heap [] := (J129).trans q136_0 all0
    have K136 : Keep h0 T136.heap [] := (K129).trans q136_0 all0
    have Z136 : n0 ≤ T136.heap.size := Nat.le_trans Z129 q136_0.1
    show Go p e below _ (T136.setTop (mkF m 124 #[.val (.int p0), .val (.ref r_1), .val (.ref rs_1), .val (.int (0 : Int32)), .val (.long (own_v p0)), .second, .val (.int (own_nd p0)), .val (.int (own_sz 5 p0))] [(.int (1 : Int32))]))
    refine Go.of (fun _ k => XS.ifNo X136.here hx rfl (hb hby at_124) rfl ((if0 _ _).trans (feq (by decide : ¬ ((1 : Int32) = (0 : Int32)))).1) k) ?_
    show Go p e below _ (T136.setTop (mkF m 127 #[.val (.int p0), .val (.ref r_1), .val (.ref rs_1), .val (.int (0 : Int32)), .val (.long (own_v p0)), .second, .val (.int (own_nd p0)), .val (.int (own_sz 5 p0))] []))
    refine Go.of (fun _ k => XS.aloadN X136.here hx rfl (hb hby at_127) rfl rfl k) ?_
    refine Go.of (fun _ k => XS.iconst X136.here hx rfl (hb hby at_128) k) ?_
    refine Go.of (fun _ k => XS.iload X136.here hx rfl (hb hby at_129) rfl  k) ?_
    refine Go.of (fun _ k => XS.iloadN X136.here hx rfl (hb hby at_131) rfl  k) ?_
    refine Go.of (fun _ k => XS.lload X136.here hx rfl (hb hby at_132) rfl  k) ?_
    refine Go.of (fun _ k => XS.iload X136.here hx rfl (hb hby at_134) rfl  k) ?_
    have c144 : Sta Z T136.heap "java/lang/String" "COMPACT_STRINGS" "Z" (.int w_COMPACT_STRINGS) := (own_Sta_keep S_COMPACT_STRINGS K136 own_p0)
    have c145 : Fld Z T136.heap rs_1 "java/lang/String" "coder" "B" (.int (0 : Int32)) := (c138.keep q136_0 nin0)
    have c146 : Exa Z T136.heap rs_1 "java/lang/String" := (c139.keep q136_0)
    have c147 : Fld Z T136.heap rs_1 "java/lang/String" "value" "[B" (.ref rb_1) := (c140.keep q136_0 nin0)
    have c148 : Arv Z T136.heap rb_1 rk_1 .byte (own_sz 5 p0) ro_1 (.int (0 : Int32)) := (c141.keep q136_0 nin0)
    have c149 : Sta Z T136.heap "jdk/internal/util/Preconditions" "SIOOBE_FORMATTER" "Ljava/util/function/BiFunction;" v_SIOOBE_FORMATTER := (own_Sta_keep S_SIOOBE_FORMATTER K136 own_p0)
    obtain ⟨_, _, ⟨T143, L143, k143, n143⟩, -, X143, ⟨Lc143, hQ143, l143, y143, z143⟩, st143⟩ := Jvm.LawKit.callS X136 hx (y := own_y_EngineExceptionHttpStatusPinLaw_at_41) hown1 (mvT hZ1 (own_h hw 225 rfl)) (mvT hZ1 (own_h hw 226 rfl)) (mvT hZ1 (own_h hw 213 rfl)) (mvT hZ1 (own_h hw 227 rfl)) (by decide) (backOf (W := 0) (rm36 l Z a0 hw [] rs_1 (4 : Int32) (own_sz 5 p0) (0 : Int32) (own_v p0) (own_nd p0) (own_sz 5 p0) ro_1 (own_by p0 (4 : Int32)) w_COMPACT_STRINGS rb_1 rk_1 v_SIOOBE_FORMATTER T136.heap n0 Z136 c144 hc7_1_13_1 c145 c146 c147 c148 c149 hr_v_SIOOBE_FORMATTER (fun _ => by decide) (fun q => q) (fun q => own_rd q1_8 (by decide) q) (fun q => own_okP hc3 (by decide) q) (fun q => own_eqP hc3 (by decide) q)) hZ1 (own_h hw 227 rfl) (own_h hw 213 rfl) (by decide) (by decide)) (g := (mkF m 136 #[.val (.int p0), .val (.ref r_1), .val (.ref rs_1), .val (.int (0 : Int32)), .val (.long (own_v p0)), .second, .val (.int (own_nd p0)), .val (.int (own_sz 5 p0))] [(.int (own_nd p0)), (.long (own_v p0)), (.int (0 : Int32)), (.int (own_sz 5 p0)), (.int (4 : Int32)), (.ref rs_1)])) rfl (by rw [hml]; rfl) (argsL := [(.ref rs_1), (.int (4 : Int32)), (.int (own_sz 5 p0)), (.int (0 : Int32)), (.long (own_v p0)), (.int (own_nd p0))]) (rest := []) (lenOf pd_32 rfl) rfl (Nat.le_of_eq rfl) (hb hby at_136) (fun _ _ => ⟨rfl, rfl, (by decide : 19 + 1 ≤ _), (by decide : 3025 + 10 ≤ _)⟩)
    dsimp only [Pt.U, Pt.locs, Pt.cells, Pt.slots] at X143 l143 y143 z143 st143 hQ143
    subst l143 y143 z143
    obtain ⟨rfl, Nq143, q143_0⟩ := hQ143
    have N143 := Fr.app N136 Nq143
    refine Go.of st143 ?_
    have J143 : Keep T1.heap T143.heap [] := (J136).trans q143_0 all0
    have K143 : Keep h0 T143.heap [] := (K136).trans q143_0 all0
    have Z143 : n0 ≤ T143.heap.size := Nat.le_trans Z136 q143_0.1
    show Go p e below _ (T143.setTop (mkF m 139 #[.val (.int p0), .val (.ref r_1), .val (.ref rs_1), .val (.int (0 : Int32)), .val (.long (own_v p0)), .second, .val (.int (own_nd p0)), .val (.int (own_sz 5 p0))] [(.int (1 : Int32))]))
    refine Go.of (fun _ k => XS.ifNo X143.here hx rfl (hb hby at_139) rfl ((if0 _ _).trans (feq (by decide : ¬ ((1 : Int32) = (0 : Int32)))).1) k) ?_
    show Go p e below _ (T143.setTop (mkF m 142 #[.val (.int p0), .val (.ref r_1), .val (.ref rs_1), .val (.int (0 : Int32)), .val (.long (own_v p0)), .second, .val (.int (own_nd p0)), .val (.int (own_sz 5 p0))] []))
    refine Go.of (fun _ k => XS.aloadN X143.here hx rfl (hb hby at_142) rfl rfl k) ?_
    refine Go.of (fun _ k => XS.iconst X143.here hx rfl (hb hby at_143) k) ?_
    refine Go.of (fun _ k => XS.iload X143.here hx rfl (hb hby at_144) rfl  k) ?_
    refine Go.of (fun _ k => XS.iloadN X143.here hx rfl (hb hby at_146) rfl  k) ?_
    refine Go.of (fun _ k => XS.lload X143.here hx rfl (hb hby at_147) rfl  k) ?_
    refine Go.of (fun _ k => XS.iload X143.here hx rfl (hb hby at_149) rfl  k) ?_
    have c151 : Sta Z T143.heap "java/lang/String" "COMPACT_STRINGS" "Z" (.int w_COMPACT_STRINGS) := (own_Sta_keep S_COMPACT_STRINGS K143 own_p0)
    have c152 : Fld Z T143.heap rs_1 "java/lang/String" "coder" "B" (.int (0 : Int32)) := (c145.keep q143_0 nin0)
    have c153 : Exa Z T143.heap rs_1 "java/lang/String" := (c146.keep q143_0)
    have c154 : Fld Z T143.heap rs_1 "java/lang/String" "value" "[B" (.ref rb_1) := (c147.keep q143_0 nin0)
    have c155 : Arv Z T143.heap rb_1 rk_1 .byte (own_sz 5 p0) ro_1 (.int (0 : Int32)) := (c148.keep q143_0 nin0)
    have c156 : Sta Z T143.heap "jdk/internal/util/Preconditions" "SIOOBE_FORMATTER" "Ljava/util/function/BiFunction;" v_SIOOBE_FORMATTER := (own_Sta_keep S_SIOOBE_FORMATTER K143 own_p0)
    obtain ⟨_, _, ⟨T150, L150, k150, n150⟩, -, X150, ⟨Lc150, hQ150, l150, y150, z150⟩, st150⟩ := Jvm.LawKit.callS X143 hx (y := own_y_EngineExceptionHttpStatusPinLaw_at_41) hown1 (mvT hZ1 (own_h hw 225 rfl)) (mvT hZ1 (own_h hw 226 rfl)) (mvT hZ1 (own_h hw 213 rfl)) (mvT hZ1 (own_h hw 227 rfl)) (by decide) (backOf (W := 0) (rm36 l Z a0 hw [] rs_1 (5 : Int32) (own_sz 5 p0) (0 : Int32) (own_v p0) (own_nd p0) (own_sz 5 p0) ro_1 (own_by p0 (5 : Int32)) w_COMPACT_STRINGS rb_1 rk_1 v_SIOOBE_FORMATTER T143.heap n0 Z143 c151 hc7_1_13_1 c152 c153 c154 c155 c156 hr_v_SIOOBE_FORMATTER (fun _ => by decide) (fun q => q) (fun q => own_rd q1_8 (by decide) q) (fun q => own_okP hc3 (by decide) q) (fun q => own_eqP hc3 (by decide) q)) hZ1 (own_h hw 227 rfl) (own_h hw 213 rfl) (by decide) (by decide)) (g := (mkF m 151 #[.val (.int p0), .val (.ref r_1), .val (.ref rs_1), .val (.int (0 : Int32)), .val (.long (own_v p0)), .second, .val (.int (own_nd p0)), .val (.int (own_sz 5 p0))] [(.int (own_nd p0)), (.long (own_v p0)), (.int (0 : Int32)), (.int (own_sz 5 p0)), (.int (5 : Int32)), (.ref rs_1)])) rfl (by rw [hml]; rfl) (argsL := [(.ref rs_1), (.int (5 : Int32)), (.int (own_sz 5 p0)), (.int (0 : Int32)), (.long (own_v p0)), (.int (own_nd p0))]) (rest := []) (lenOf pd_32 rfl) rfl (Nat.le_of_eq rfl) (hb hby at_151) (fun _ _ => ⟨rfl, rfl, (by decide : 20 + 1 ≤ _), (by decide : 3035 + 10 ≤ _)⟩)
    dsimp only [Pt.U, Pt.locs, Pt.cells, Pt.slots] at X150 l150 y150 z150 st150 hQ150
    subst l150 y150 z150
    obtain ⟨rfl, Nq150, q150_0⟩ := hQ150
    have N150 := Fr.app N143 Nq150
    refine Go.of st150 ?_
    have J150 : Keep T1.heap T150.heap [] := (J143).trans q150_0 all0
    have K150 : Keep h0 T150.heap [] := (K143).trans q150_0 all0
    have Z150 : n0 ≤ T150.heap.size := Nat.le_trans Z143 q150_0.1
    show Go p e below _ (T150.setTop (mkF m 154 #[.val (.int p0), .val (.ref r_1), .val (.ref rs_1), .val (.int (0 : Int32)), .val (.long (own_v p0)), .second, .val (.int (own_nd p0)), .val (.int (own_sz 5 p0))] [(.int (1 : Int32))]))
    refine Go.of (fun _ k => XS.ifNo X150.here hx rfl (hb hby at_154) rfl ((if0 _ _).trans (feq (by decide : ¬ ((1 : Int32) = (0 : Int32)))).1) k) ?_
    show Go p e below _ (T150.setTop (mkF m 157 #[.val (.int p0), .val (.ref r_1), .val (.ref rs_1), .val (.int (0 : Int32)), .val (.long (own_v p0)), .second, .val (.int (own_nd p0)), .val (.int (own_sz 5 p0))] []))
    refine Go.of (fun _ k => XS.aloadN X150.here hx rfl (hb hby at_157) rfl rfl k) ?_
    refine Go.of (fun _ k => XS.bipush X150.here hx rfl (hb hby at_158) k) ?_
    refine Go.of (fun _ k => XS.iload X150.here hx rfl (hb hby at_160) rfl  k) ?_
    refine Go.of (fun _ k => XS.iloadN X150.here hx rfl (hb hby at_162) rfl  k) ?_
    refine Go.of (fun _ k => XS.lload X150.here hx rfl (hb hby at_163) rfl  k) ?_
    refine Go.of (fun _ k => XS.iload X150.here hx rfl (hb hby at_165) rfl  k) ?_
    have c158 : Sta Z T150.heap "java/lang/String" "COMPACT_STRINGS" "Z" (.int w_COMPACT_STRINGS) := (own_Sta_keep S_COMPACT_STRINGS K150 own_p0)
    have c159 : Fld Z T150.heap rs_1 "java/lang/String" "coder" "B" (.int (0 : Int32)) := (c152.keep q150_0 nin0)
    have c160 : Exa Z T150.heap rs_1 "java/lang/String" := (c153.keep q150_0)
    have c161 : Fld Z T150.heap rs_1 "java/lang/String" "value" "[B" (.ref rb_1) := (c154.keep q150_0 nin0)
    have c162 : Arv Z T150.heap rb_1 rk_1 .byte (own_sz 5 p0) ro_1 (.int (0 : Int32)) := (c155.keep q150_0 nin0)
    have c163 : Sta Z T150.heap "jdk/internal/util/Preconditions" "SIOOBE_FORMATTER" "Ljava/util/function/BiFunction;" v_SIOOBE_FORMATTER := (own_Sta_keep S_SIOOBE_FORMATTER K150 own_p0)
    obtain ⟨_, _, ⟨T157, L157, k157, n157⟩, -, X157, ⟨Lc157, hQ157, l157, y157, z157⟩, st157⟩ := Jvm.LawKit.callS X150 hx (y := own_y_EngineExceptionHttpStatusPinLaw_at_41) hown1 (mvT hZ1 (own_h hw 225 rfl)) (mvT hZ1 (own_h hw 226 rfl)) (mvT hZ1 (own_h hw 213 rfl)) (mvT hZ1 (own_h hw 227 rfl)) (by decide) (backOf (W := 0) (rm36 l Z a0 hw [] rs_1 (6 : Int32) (own_sz 5 p0) (0 : Int32) (own_v p0) (own_nd p0) (own_sz 5 p0) ro_1 (own_by p0 (6 : Int32)) w_COMPACT_STRINGS rb_1 rk_1 v_SIOOBE_FORMATTER T150.heap n0 Z150 c158 hc7_1_13_1 c159 c160 c161 c162 c163 hr_v_SIOOBE_FORMATTER (fun _ => by decide) (fun q => q) (fun q => own_rd q1_8 (by decide) q) (fun q => own_okP hc3 (by decide) q) (fun q => own_eqP hc3 (by decide) q)) hZ1 (own_h hw 227 rfl) (own_h hw 213 rfl) (by decide) (by decide)) (g := (mkF m 167 #[.val (.int p0), .val (.ref r_1), .val (.ref rs_1), .val (.int (0 : Int32)), .val (.long (own_v p0)), .second, .val (.int (own_nd p0)), .val (.int (own_sz 5 p0))] [(.int (own_nd p0)), (.long (own_v p0)), (.int (0 : Int32)), (.int (own_sz 5 p0)), (.int (6 : Int32)), (.ref rs_1)])) rfl (by rw [hml]; rfl) (argsL := [(.ref rs_1), (.int (6 : Int32)), (.int (own_sz 5 p0)), (.int (0 : Int32)), (.long (own_v p0)), (.int (own_nd p0))]) (rest := []) (lenOf pd_32 rfl) rfl (Nat.le_of_eq rfl) (hb hby at_167) (fun _ _ => ⟨rfl, rfl, (by decide : 21 + 1 ≤ _), (by decide : 3045 + 10 ≤ _)⟩)
    dsimp only [Pt.U, Pt.locs, Pt.cells, Pt.slots] at X157 l157 y157 z157 st157 hQ157
    subst l157 y157 z157
    obtain ⟨rfl, Nq157, q157_0⟩ := hQ157
    have N157 := Fr.app N150 Nq157
    refine Go.of st157 ?_
    have J157 : Keep T1.heap T157.heap [] := (J150).trans q157_0 all0
    have K157 : Keep h0 T157.heap [] := (K150).trans q157_0 all0
    have Z157 : n0 ≤ T157.heap.size := Nat.le_trans Z150 q157_0.1
    show Go p e below _ (T157.setTop (mkF m 170 #[.val (.int p0), .val (.ref r_1), .val (.ref rs_1), .val (.int (0 : Int32)), .val (.long (own_v p0)), .second, .val (.int (own_nd p0)), .val (.int (own_sz 5 p0))] [(.int (1 : Int32))]))
    refine Go.of (fun _ k => XS.ifNo X157.here hx rfl (hb hby at_170) rfl ((if0 _ _).trans (feq (by decide : ¬ ((1 : Int32) = (0 : Int32)))).1) k) ?_
    show Go p e below _ (T157.setTop (mkF m 173 #[.val (.int p0), .val (.ref r_1), .val (.ref rs_1), .val (.int (0 : Int32)), .val (.long (own_v p0)), .second, .val (.int (own_nd p0)), .val (.int (own_sz 5 p0))] []))
    refine Go.of (fun _ k => XS.aloadN X157.here hx rfl (hb hby at_173) rfl rfl k) ?_
    refine Go.of (fun _ k => XS.bipush X157.here hx rfl (hb hby at_174) k) ?_
    refine Go.of (fun _ k => XS.iload X157.here hx rfl (hb hby at_176) rfl  k) ?_
    refine Go.of (fun _ k => XS.iloadN X157.here hx rfl (hb hby at_178) rfl  k) ?_
    refine Go.of (fun _ k => XS.lload X157.here hx rfl (hb hby at_179) rfl  k) ?_
    refine Go.of (fun _ k => XS.iload X157.here hx rfl (hb hby at_181) rfl  k) ?_
    have c165 : Sta Z T157.heap "java/lang/String" "COMPACT_STRINGS" "Z" (.int w_COMPACT_STRINGS) := (own_Sta_keep S_COMPACT_STRINGS K157 own_p0)
    have c166 : Fld Z T157.heap rs_1 "java/lang/String" "coder" "B" (.int (0 : Int32)) := (c159.keep q157_0 nin0)
    have c167 : Exa Z T157.heap rs_1 "java/lang/String" := (c160.keep q157_0)
    have c168 : Fld Z T157.heap rs_1 "java/lang/String" "value" "[B" (.ref rb_1) := (c161.keep q157_0 nin0)
    have c169 : Arv Z T157.heap rb_1 rk_1 .byte (own_sz 5 p0) ro_1 (.int (0 : Int32)) := (c162.keep q157_0 nin0)
    have c170 : Sta Z T157.heap "jdk/internal/util/Preconditions" "SIOOBE_FORMATTER" "Ljava/util/function/BiFunction;" v_SIOOBE_FORMATTER := (own_Sta_keep S_SIOOBE_FORMATTER K157 own_p0)
    obtain ⟨_, _, ⟨T164, L164, k164, n164⟩, -, X164, ⟨Lc164, hQ164, l164, y164, z164⟩, st164⟩ := Jvm.LawKit.callS X157 hx (y := own_y_EngineExceptionHttpStatusPinLaw_at_41) hown1 (mvT hZ1 (own_h hw 225 rfl)) (mvT hZ1 (own_h hw 226 rfl)) (mvT hZ1 (own_h hw 213 rfl)) (mvT hZ1 (own_h hw 227 rfl)) (by decide) (backOf (W := 0) (rm36 l Z a0 hw [] rs_1 (7 : Int32) (own_sz 5 p0) (0 : Int32) (own_v p0) (own_nd p0) (own_sz 5 p0) ro_1 (own_by p0 (7 : Int32)) w_COMPACT_STRINGS rb_1 rk_1 v_SIOOBE_FORMATTER T157.heap n0 Z157 c165 hc7_1_13_1 c166 c167 c168 c169 c170 hr_v_SIOOBE_FORMATTER (fun _ => by decide) (fun q => q) (fun q => own_rd q1_8 (by decide) q) (fun q => own_okP hc3 (by decide) q) (fun q => own_eqP hc3 (by decide) q)) hZ1 (own_h hw 227 rfl) (own_h hw 213 rfl) (by decide) (by decide)) (g := (mkF m 183 #[.val (.int p0), .val (.ref r_1), .val (.ref rs_1), .val (.int (0 : Int32)), .val (.long (own_v p0)), .second, .val (.int (own_nd p0)), .val (.int (own_sz 5 p0))] [(.int (own_nd p0)), (.long (own_v p0)), (.int (0 : Int32)), (.int (own_sz 5 p0)), (.int (7 : Int32)), (.ref rs_1)])) rfl (by rw [hml]; rfl) (argsL := [(.ref rs_1), (.int (7 : Int32)), (.int (own_sz 5 p0)), (.int (0 : Int32)), (.long (own_v p0)), (.int (own_nd p0))]) (rest := []) (lenOf pd_32 rfl) rfl (Nat.le_of_eq rfl) (hb hby at_183) (fun _ _ => ⟨rfl, rfl, (by decide : 22 + 1 ≤ _), (by decide : 3055 + 10 ≤ _)⟩)
    dsimp only [Pt.U, Pt.locs, Pt.cells, Pt.slots] at X164 l164 y164 z164 st164 hQ164
    subst l164 y164 z164
    obtain ⟨rfl, Nq164, q164_0⟩ := hQ164
    have N164 := Fr.app N157 Nq164
    refine Go.of st164 ?_
    have J164 : Keep T1.heap T164.heap [] := (J157).trans q164_0 all0
    have K164 : Keep h0 T164.heap [] := (K157).trans q164_0 all0
    have Z164 : n0 ≤ T164.heap.size := Nat.le_trans Z157 q164_0.1
    show Go p e below _ (T164.setTop (mkF m 186 #[.val (.int p0), .val (.ref r_1), .val (.ref rs_1), .val (.int (0 : Int32)), .val (.long (own_v p0)), .second, .val (.int (own_nd p0)), .val (.int (own_sz 5 p0))] [(.int (1 : Int32))]))
    refine Go.of (fun _ k => XS.ifNo X164.here hx rfl (hb hby at_186) rfl ((if0 _ _).trans (feq (by decide : ¬ ((1 : Int32) = (0 : Int32)))).1) k) ?_
    show Go p e below _ (T164.setTop (mkF m 189 #[.val (.int p0), .val (.ref r_1), .val (.ref rs_1), .val (.int (0 : Int32)), .val (.long (own_v p0)), .second, .val (.int (own_nd p0)), .val (.int (own_sz 5 p0))] []))
    refine Go.of (fun _ k => XS.aloadN X164.here hx rfl (hb hby at_189) rfl rfl k) ?_
    refine Go.of (fun _ k => XS.bipush X164.here hx rfl (hb hby at_190) k) ?_
    refine Go.of (fun _ k => XS.iload X164.here hx rfl (hb hby at_192) rfl  k) ?_
    refine Go.of (fun _ k => XS.iloadN X164.here hx rfl (hb hby at_194) rfl  k) ?_
    refine Go.of (fun _ k => XS.lload X164.here hx rfl (hb hby at_195) rfl  k) ?_
    refine Go.of (fun _ k => XS.iload X164.here hx rfl (hb hby at_197) rfl  k) ?_
    have c172 : Sta Z T164.heap "java/lang/String" "COMPACT_STRINGS" "Z" (.int w_COMPACT_STRINGS) := (own_Sta_keep S_COMPACT_STRINGS K164 own_p0)
    have c173 : Fld Z T164.heap rs_1 "java/lang/String" "coder" "B" (.int (0 : Int32)) := (c166.keep q164_0 nin0)
    have c174 : Exa Z T164.heap rs_1 "java/lang/String" := (c167.keep q164_0)
    have c175 : Fld Z T164.heap rs_1 "java/lang/String" "value" "[B" (.ref rb_1) := (c168.keep q164_0 nin0)
    have c176 : Arv Z T164.heap rb_1 rk_1 .byte (own_sz 5 p0) ro_1 (.int (0 : Int32)) := (c169.keep q164_0 nin0)
    have c177 : Sta Z T164.heap "jdk/internal/util/Preconditions" "SIOOBE_FORMATTER" "Ljava/util/function/BiFunction;" v_SIOOBE_FORMATTER := (own_Sta_keep S_SIOOBE_FORMATTER K164 own_p0)
    obtain ⟨_, _, ⟨T171, L171, k171, n171⟩, -, X171, ⟨Lc171, hQ171, l171, y171, z171⟩, st171⟩ := Jvm.LawKit.callS X164 hx (y := own_y_EngineExceptionHttpStatusPinLaw_at_41) hown1 (mvT hZ1 (own_h hw 225 rfl)) (mvT hZ1 (own_h hw 226 rfl)) (mvT hZ1 (own_h hw 213 rfl)) (mvT hZ1 (own_h hw 227 rfl)) (by decide) (backOf (W := 0) (rm36 l Z a0 hw [] rs_1 (8 : Int32) (own_sz 5 p0) (0 : Int32) (own_v p0) (own_nd p0) (own_sz 5 p0) ro_1 (own_by p0 (8 : Int32)) w_COMPACT_STRINGS rb_1 rk_1 v_SIOOBE_FORMATTER T164.heap n0 Z164 c172 hc7_1_13_1 c173 c174 c175 c176 c177 hr_v_SIOOBE_FORMATTER (fun _ => by decide) (fun q => q) (fun q => own_rd q1_8 (by decide) q) (fun q => own_okP hc3 (by decide) q) (fun q => own_eqP hc3 (by decide) q)) hZ1 (own_h hw 227 rfl) (own_h hw 213 rfl) (by decide) (by decide)) (g := (mkF m 199 #[.val (.int p0), .val (.ref r_1), .val (.ref rs_1), .val (.int (0 : Int32)), .val (.long (own_v p0)), .second, .val (.int (own_nd p0)), .val (.int (own_sz 5 p0))] [(.int (own_nd p0)), (.long (own_v p0)), (.int (0 : Int32)), (.int (own_sz 5 p0)), (.int (8 : Int32)), (.ref rs_1)])) rfl (by rw [hml]; rfl) (argsL := [(.ref rs_1), (.int (8 : Int32)), (.int (own_sz 5 p0)), (.int (0 : Int32)), (.long (own_v p0)), (.int (own_nd p0))]) (rest := []) (lenOf pd_32 rfl) rfl (Nat.le_of_eq rfl) (hb hby at_199) (fun _ _ => ⟨rfl, rfl, (by decide : 23 + 1 ≤ _), (by decide : 3065 + 10 ≤ _)⟩)
    dsimp only [Pt.U, Pt.locs, Pt.cells, Pt.slots] at X171 l171 y171 z171 st171 hQ171
    subst l171 y171 z171
    obtain ⟨rfl, Nq171, q171_0⟩ := hQ171
    have N171 := Fr.app N164 Nq171
    refine Go.of st171 ?_
    have J171 : Keep T1.heap T171.heap [] := (J164).trans q171_0 all0
    have K171 : Keep h0 T171.heap [] := (K164).trans q171_0 all0
    have Z171 : n0 ≤ T171.heap.size := Nat.le_trans Z164 q171_0.1
    show Go p e below _ (T171.setTop (mkF m 202 #[.val (.int p0), .val (.ref r_1), .val (.ref rs_1), .val (.int (0 : Int32)), .val (.long (own_v p0)), .second, .val (.int (own_nd p0)), .val (.int (own_sz 5 p0))] [(.int (1 : Int32))]))
    refine Go.of (fun _ k => XS.ifNo X171.here hx rfl (hb hby at_202) rfl ((if0 _ _).trans (feq (by decide : ¬ ((1 : Int32) = (0 : Int32)))).1) k) ?_
    show Go p e below _ (T171.setTop (mkF m 205 #[.val (.int p0), .val (.ref r_1), .val (.ref rs_1), .val (.int (0 : Int32)), .val (.long (own_v p0)), .second, .val (.int (own_nd p0)), .val (.int (own_sz 5 p0))] []))
    refine Go.of (fun _ k => XS.aloadN X171.here hx rfl (hb hby at_205) rfl rfl k) ?_
    refine Go.of (fun _ k => XS.bipush X171.here hx rfl (hb hby at_206) k) ?_
    refine Go.of (fun _ k => XS.iload X171.here hx rfl (hb hby at_208) rfl  k) ?_
    refine Go.of (fun _ k => XS.iloadN X171.here hx rfl (hb hby at_210) rfl  k) ?_
    refine Go.of (fun _ k => XS.lload X171.here hx rfl (hb hby at_211) rfl  k) ?_
    refine Go.of (fun _ k => XS.iload X171.here hx rfl (hb hby at_213) rfl  k) ?_
    have c179 : Sta Z T171.heap "java/lang/String" "COMPACT_STRINGS" "Z" (.int w_COMPACT_STRINGS) := (own_Sta_keep S_COMPACT_STRINGS K171 own_p0)
    have c180 : Fld Z T171.heap rs_1 "java/lang/String" "coder" "B" (.int (0 : Int32)) := (c173.keep q171_0 nin0)
    have c181 : Exa Z T171.heap rs_1 "java/lang/String" := (c174.keep q171_0)
    have c182 : Fld Z T171.heap rs_1 "java/lang/String" "value" "[B" (.ref rb_1) := (c175.keep q171_0 nin0)
    have c183 : Arv Z T171.heap rb_1 rk_1 .byte (own_sz 5 p0) ro_1 (.int (0 : Int32)) := (c176.keep q171_0 nin0)
    have c184 : Sta Z T171.heap "jdk/internal/util/Preconditions" "SIOOBE_FORMATTER" "Ljava/util/function/BiFunction;" v_SIOOBE_FORMATTER := (own_Sta_keep S_SIOOBE_FORMATTER K171 own_p0)
    obtain ⟨_, _, ⟨T178, L178, k178, n178⟩, -, X178, ⟨Lc178, hQ178, l178, y178, z178⟩, st178⟩ := Jvm.LawKit.callS X171 hx (y := own_y_EngineExceptionHttpStatusPinLaw_at_41) hown1 (mvT hZ1 (own_h hw 225 rfl)) (mvT hZ1 (own_h hw 226 rfl)) (mvT hZ1 (own_h hw 213 rfl)) (mvT hZ1 (own_h hw 227 rfl)) (by decide) (backOf (W := 0) (rm36 l Z a0 hw [] rs_1 (9 : Int32) (own_sz 5 p0) (0 : Int32) (own_v p0) (own_nd p0) (own_sz 5 p0) ro_1 (own_by p0 (9 : Int32)) w_COMPACT_STRINGS rb_1 rk_1 v_SIOOBE_FORMATTER T171.heap n0 Z171 c179 hc7_1_13_1 c180 c181 c182 c183 c184 hr_v_SIOOBE_FORMATTER (fun _ => by decide) (fun q => q) (fun q => own_rd q1_8 (by decide) q) (fun q => own_okP hc3 (by decide) q) (fun q => own_eqP hc3 (by decide) q)) hZ1 (own_h hw 227 rfl) (own_h hw 213 rfl) (by decide) (by decide)) (g := (mkF m 215 #[.val (.int p0), .val (.ref r_1), .val (.ref rs_1), .val (.int (0 : Int32)), .val (.long (own_v p0)), .second, .val (.int (own_nd p0)), .val (.int (own_sz 5 p0))] [(.int (own_nd p0)), (.long (own_v p0)), (.int (0 : Int32)), (.int (own_sz 5 p0)), (.int (9 : Int32)), (.ref rs_1)])) rfl (by rw [hml]; rfl) (argsL := [(.ref rs_1), (.int (9 : Int32)), (.int (own_sz 5 p0)), (.int (0 : Int32)), (.long (own_v p0)), (.int (own_nd p0))]) (rest := []) (lenOf pd_32 rfl) rfl (Nat.le_of_eq rfl) (hb hby at_215) (fun _ _ => ⟨rfl, rfl, (by decide : 24 + 1 ≤ _), (by decide : 3075 + 10 ≤ _)⟩)
    dsimp only [Pt.U, Pt.locs, Pt.cells, Pt.slots] at X178 l178 y178 z178 st178 hQ178
    subst l178 y178 z178
    obtain ⟨rfl, Nq178, q178_0⟩ := hQ178
    have N178 := Fr.app N171 Nq178
    refine Go.of st178 ?_
    have J178 : Keep T1.heap T178.heap [] := (J171).trans q178_0 all0
    have K178 : Keep h0 T178.heap [] := (K171).trans q178_0 all0
    have Z178 : n0 ≤ T178.heap.size := Nat.le_trans Z171 q178_0.1
    show Go p e below _ (T178.setTop (mkF m 218 #[.val (.int p0), .val (.ref r_1), .val (.ref rs_1), .val (.int (0 : Int32)), .val (.long (own_v p0)), .second, .val (.int (own_nd p0)), .val (.int (own_sz 5 p0))] [(.int (1 : Int32))]))
    refine Go.of (fun _ k => XS.ifNo X178.here hx rfl (hb hby at_218) rfl ((if0 _ _).trans (feq (by decide : ¬ ((1 : Int32) = (0 : Int32)))).1) k) ?_
    show Go p e below _ (T178.setTop (mkF m 221 #[.val (.int p0), .val (.ref r_1), .val (.ref rs_1), .val (.int (0 : Int32)), .val (.long (own_v p0)), .second, .val (.int (own_nd p0)), .val (.int (own_sz 5 p0))] []))
    refine Go.of (fun _ k => XS.aloadN X178.here hx rfl (hb hby at_221) rfl rfl k) ?_
    refine Go.of (fun _ k => XS.bipush X178.here hx rfl (hb hby at_222) k) ?_
    refine Go.of (fun _ k => XS.iload X178.here hx rfl (hb hby at_224) rfl  k) ?_
    refine Go.of (fun _ k => XS.iloadN X178.here hx rfl (hb hby at_226) rfl  k) ?_
    refine Go.of (fun _ k => XS.lload X178.here hx rfl (hb hby at_227) rfl  k) ?_
    refine Go.of (fun _ k => XS.iload X178.here hx rfl (hb hby at_229) rfl  k) ?_
    have c186 : Sta Z T178.heap "java/lang/String" "COMPACT_STRINGS" "Z" (.int w_COMPACT_STRINGS) := (own_Sta_keep S_COMPACT_STRINGS K178 own_p0)
    have c187 : Fld Z T178.heap rs_1 "java/lang/String" "coder" "B" (.int (0 : Int32)) := (c180.keep q178_0 nin0)
    have c188 : Exa Z T178.heap rs_1 "java/lang/String" := (c181.keep q178_0)
    have c189 : Fld Z T178.heap rs_1 "java/lang/String" "value" "[B" (.ref rb_1) := (c182.keep q178_0 nin0)
    have c190 : Arv Z T178.heap rb_1 rk_1 .byte (own_sz 5 p0) ro_1 (.int (0 : Int32)) := (c183.keep q178_0 nin0)
    have c191 : Sta Z T178.heap "jdk/internal/util/Preconditions" "SIOOBE_FORMATTER" "Ljava/util/function/BiFunction;" v_SIOOBE_FORMATTER := (own_Sta_keep S_SIOOBE_FORMATTER K178 own_p0)
    obtain ⟨_, _, ⟨T185, L185, k185, n185⟩, -, X185, ⟨Lc185, hQ185, l185, y185, z185⟩, st185⟩ := Jvm.LawKit.callS X178 hx (y := own_y_EngineExceptionHttpStatusPinLaw_at_41) hown1 (mvT hZ1 (own_h hw 225 rfl)) (mvT hZ1 (own_h hw 226 rfl)) (mvT hZ1 (own_h hw 213 rfl)) (mvT hZ1 (own_h hw 227 rfl)) (by decide) (backOf (W := 0) (rm36 l Z a0 hw [] rs_1 (10 : Int32) (own_sz 5 p0) (0 : Int32) (own_v p0) (own_nd p0) (own_sz 5 p0) ro_1 (own_by p0 (10 : Int32)) w_COMPACT_STRINGS rb_1 rk_1 v_SIOOBE_FORMATTER T178.heap n0 Z178 c186 hc7_1_13_1 c187 c188 c189 c190 c191 hr_v_SIOOBE_FORMATTER (fun _ => by decide) (fun q => q) (fun q => own_rd q1_8 (by decide) q) (fun q => own_okP hc3 (by decide) q) (fun q => own_eqP hc3 (by decide) q)) hZ1 (own_h hw 227 rfl) (own_h hw 213 rfl) (by decide) (by decide)) (g := (mkF m 231 #[.val (.int p0), .val (.ref r_1), .val (.ref rs_1), .val (.int (0 : Int32)), .val (.long (own_v p0)), .second, .val (.int (own_nd p0)), .val (.int (own_sz 5 p0))] [(.int (own_nd p0)), (.long (own_v p0)), (.int (0 : Int32)), (.int (own_sz 5 p0)), (.int (10 : Int32)), (.ref rs_1)])) rfl (by rw [hml]; rfl) (argsL := [(.ref rs_1), (.int (10 : Int32)), (.int (own_sz 5 p0)), (.int (0 : Int32)), (.long (own_v p0)), (.int (own_nd p0))]) (rest := []) (lenOf pd_32 rfl) rfl (Nat.le_of_eq rfl) (hb hby at_231) (fun _ _ => ⟨rfl, rfl, (by decide : 25 + 1 ≤ _), (by decide : 3085 + 10 ≤ _)⟩)
    dsimp only [Pt.U, Pt.locs, Pt.cells, Pt.slots] at X185 l185 y185 z185 st185 hQ185
    subst l185 y185 z185
    obtain ⟨rfl, Nq185, q185_0⟩ := hQ185
    have N185 := Fr.app N178 Nq185
    refine Go.of st185 ?_
    have J185 : Keep T1.heap T185.heap [] := (J178).trans q185_0 all0
    have K185 : Keep h0 T185.heap [] := (K178).trans q185_0 all0
    have Z185 : n0 ≤ T185.heap.size := Nat.le_trans Z178 q185_0.1
    show Go p e below _ (T185.setTop (mkF m 234 #[.val (.int p0), .val (.ref r_1), .val (.ref rs_1), .val (.int (0 : Int32)), .val (.long (own_v p0)), .second, .val (.int (own_nd p0)), .val (.int (own_sz 5 p0))] [(.int (1 : Int32))]))
    refine Go.of (fun _ k => XS.ifNo X185.here hx rfl (hb hby at_234) rfl ((if0 _ _).trans (feq (by decide : ¬ ((1 : Int32) = (0 : Int32)))).1) k) ?_
    show Go p e below _ (T185.setTop (mkF m 237 #[.val (.int p0), .val (.ref r_1), .val (.ref rs_1), .val (.int (0 : Int32)), .val (.long (own_v p0)), .second, .val (.int (own_nd p0)), .val (.int (own_sz 5 p0))] []))
    refine Go.of (fun _ k => XS.aloadN X185.here hx rfl (hb hby at_237) rfl rfl k) ?_
    refine Go.of (fun _ k => XS.bipush X185.here hx rfl (hb hby at_238) k) ?_
    refine Go.of (fun _ k => XS.iload X185.here hx rfl (hb hby at_240) rfl  k) ?_
    refine Go.of (fun _ k => XS.iloadN X185.here hx rfl (hb hby at_242) rfl  k) ?_
    refine Go.of (fun _ k => XS.lload X185.here hx rfl (hb hby at_243) rfl  k) ?_
    refine Go.of (fun _ k => XS.iload X185.here hx rfl (hb hby at_245) rfl  k) ?_
    have c193 : Sta Z T185.heap "java/lang/String" "COMPACT_STRINGS" "Z" (.int w_COMPACT_STRINGS) := (own_Sta_keep S_COMPACT_STRINGS K185 own_p0)
    have c194 : Fld Z T185.heap rs_1 "java/lang/String" "coder" "B" (.int (0 : Int32)) := (c187.keep q185_0 nin0)
    have c195 : Exa Z T185.heap rs_1 "java/lang/String" := (c188.keep q185_0)
    have c196 : Fld Z T185.heap rs_1 "java/lang/String" "value" "[B" (.ref rb_1) := (c189.keep q185_0 nin0)
    have c197 : Arv Z T185.heap rb_1 rk_1 .byte (own_sz 5 p0) ro_1 (.int (0 : Int32)) := (c190.keep q185_0 nin0)
    have c198 : Sta Z T185.heap "jdk/internal/util/Preconditions" "SIOOBE_FORMATTER" "Ljava/util/function/BiFunction;" v_SIOOBE_FORMATTER := (own_Sta_keep S_SIOOBE_FORMATTER K185 own_p0)
    obtain ⟨_, _, ⟨T192, L192, k192, n192⟩, -, X192, ⟨Lc192, hQ192, l192, y192, z192⟩, st192⟩ := Jvm.LawKit.callS X185 hx (y := own_y_EngineExceptionHttpStatusPinLaw_at_41) hown1 (mvT hZ1 (own_h hw 225 rfl)) (mvT hZ1 (own_h hw 226 rfl)) (mvT hZ1 (own_h hw 213 rfl)) (mvT hZ1 (own_h hw 227 rfl)) (by decide) (backOf (W := 0) (rm36 l Z a0 hw [] rs_1 (11 : Int32) (own_sz 5 p0) (0 : Int32) (own_v p0) (own_nd p0) (own_sz 5 p0) ro_1 (own_by p0 (11 : Int32)) w_COMPACT_STRINGS rb_1 rk_1 v_SIOOBE_FORMATTER T185.heap n0 Z185 c193 hc7_1_13_1 c194 c195 c196 c197 c198 hr_v_SIOOBE_FORMATTER (fun _ => by decide) (fun q => q) (fun q => own_rd q1_8 (by decide) q) (fun q => own_okP hc3 (by decide) q) (fun q => own_eqP hc3 (by decide) q)) hZ1 (own_h hw 227 rfl) (own_h hw 213 rfl) (by decide) (by decide)) (g := (mkF m 247 #[.val (.int p0), .val (.ref r_1), .val (.ref rs_1), .val (.int (0 : Int32)), .val (.long (own_v p0)), .second, .val (.int (own_nd p0)), .val (.int (own_sz 5 p0))] [(.int (own_nd p0)), (.long (own_v p0)), (.int (0 : Int32)), (.int (own_sz 5 p0)), (.int (11 : Int32)), (.ref rs_1)])) rfl (by rw [hml]; rfl) (argsL := [(.ref rs_1), (.int (11 : Int32)), (.int (own_sz 5 p0)), (.int (0 : Int32)), (.long (own_v p0)), (.int (own_nd p0))]) (rest := []) (lenOf pd_32 rfl) rfl (Nat.le_of_eq rfl) (hb hby at_247) (fun _ _ => ⟨rfl, rfl, (by decide : 26 + 1 ≤ _), (by decide : 3095 + 10 ≤ _)⟩)
    dsimp only [Pt.U, Pt.locs, Pt.cells, Pt.slots] at X192 l192 y192 z192 st192 hQ192
    subst l192 y192 z192
    obtain ⟨rfl, Nq192, q192_0⟩ := hQ192
    have N192 := Fr.app N185 Nq192
    refine Go.of st192 ?_
    have J192 : Keep T1.heap T192.heap [] := (J185).trans q192_0 all0
    have K192 : Keep h0 T192.heap [] := (K185).trans q192_0 all0
    have Z192 : n0 ≤ T192.heap.size := Nat.le_trans Z185 q192_0.1
    show Go p e below _ (T192.setTop (mkF m 250 #[.val (.int p0), .val (.ref r_1), .val (.ref rs_1), .val (.int (0 : Int32)), .val (.long (own_v p0)), .second, .val (.int (own_nd p0)), .val (.int (own_sz 5 p0))] [(.int (1 : Int32))]))
    refine Go.of (fun _ k => XS.ifNo X192.here hx rfl (hb hby at_250) rfl ((if0 _ _).trans (feq (by decide : ¬ ((1 : Int32) = (0 : Int32)))).1) k) ?_
    show Go p e below _ (T192.setTop (mkF m 253 #[.val (.int p0), .val (.ref r_1), .val (.ref rs_1), .val (.int (0 : Int32)), .val (.long (own_v p0)), .second, .val (.int (own_nd p0)), .val (.int (own_sz 5 p0))] []))
    refine Go.of (fun _ k => XS.aloadN X192.here hx rfl (hb hby at_253) rfl rfl k) ?_
    refine Go.of (fun _ k => XS.bipush X192.here hx rfl (hb hby at_254) k) ?_
    refine Go.of (fun _ k => XS.iload X192.here hx rfl (hb hby at_256) rfl  k) ?_
    refine Go.of (fun _ k => XS.iloadN X192.here hx rfl (hb hby at_258) rfl  k) ?_
    refine Go.of (fun _ k => XS.lload X192.here hx rfl (hb hby at_259) rfl  k) ?_
    refine Go.of (fun _ k => XS.iload X192.here hx rfl (hb hby at_261) rfl  k) ?_
    have c200 : Sta Z T192.heap "java/lang/String" "COMPACT_STRINGS" "Z" (.int w_COMPACT_STRINGS) := (own_Sta_keep S_COMPACT_STRINGS K192 own_p0)
    have c201 : Fld Z T192.heap rs_1 "java/lang/String" "coder" "B" (.int (0 : Int32)) := (c194.keep q192_0 nin0)
    have c202 : Exa Z T192.heap rs_1 "java/lang/String" := (c195.keep q192_0)
    have c203 : Fld Z T192.heap rs_1 "java/lang/String" "value" "[B" (.ref rb_1) := (c196.keep q192_0 nin0)
    have c204 : Arv Z T192.heap rb_1 rk_1 .byte (own_sz 5 p0) ro_1 (.int (0 : Int32)) := (c197.keep q192_0 nin0)
    have c205 : Sta Z T192.heap "jdk/internal/util/Preconditions" "SIOOBE_FORMATTER" "Ljava/util/function/BiFunction;" v_SIOOBE_FORMATTER := (own_Sta_keep S_SIOOBE_FORMATTER K192 own_p0)
    obtain ⟨_, _, ⟨T199, L199, k199, n199⟩, -, X199, ⟨Lc199, hQ199, l199, y199, z199⟩, st199⟩ := Jvm.LawKit.callS X192 hx (y := own_y_EngineExceptionHttpStatusPinLaw_at_41) hown1 (mvT hZ1 (own_h hw 225 rfl)) (mvT hZ1 (own_h hw 226 rfl)) (mvT hZ1 (own_h hw 213 rfl)) (mvT hZ1 (own_h hw 227 rfl)) (by decide) (backOf (W := 0) (rm36 l Z a0 hw [] rs_1 (12 : Int32) (own_sz 5 p0) (0 : Int32) (own_v p0) (own_nd p0) (own_sz 5 p0) ro_1 (own_by p0 (12 : Int32)) w_COMPACT_STRINGS rb_1 rk_1 v_SIOOBE_FORMATTER T192.heap n0 Z192 c200 hc7_1_13_1 c201 c202 c203 c204 c205 hr_v_SIOOBE_FORMATTER (fun _ => by decide) (fun q => q) (fun q => own_rd q1_8 (by decide) q) (fun q => own_okP hc3 (by decide) q) (fun q => own_eqP hc3 (by decide) q)) hZ1 (own_h hw 227 rfl) (own_h hw 213 rfl) (by decide) (by decide)) (g := (mkF m 263 #[.val (.int p0), .val (.ref r_1), .val (.ref rs_1), .val (.int (0 : Int32)), .val (.long (own_v p0)), .second, .val (.int (own_nd p0)), .val (.int (own_sz 5 p0))] [(.int (own_nd p0)), (.long (own_v p0)), (.int (0 : Int32)), (.int (own_sz 5 p0)), (.int (12 : Int32)), (.ref rs_1)])) rfl (by rw [hml]; rfl) (argsL := [(.ref rs_1), (.int (12 : Int32)), (.int (own_sz 5 p0)), (.int (0 : Int32)), (.long (own_v p0)), (.int (own_nd p0))]) (rest := []) (lenOf pd_32 rfl) rfl (Nat.le_of_eq rfl) (hb hby at_263) (fun _ _ => ⟨rfl, rfl, (by decide : 27 + 1 ≤ _), (by decide : 3105 + 10 ≤ _)⟩)
    dsimp only [Pt.U, Pt.locs, Pt.cells, Pt.slots] at X199 l199 y199 z199 st199 hQ199
    subst l199 y199 z199
    obtain ⟨rfl, Nq199, q199_0⟩ := hQ199
    have N199 := Fr.app N192 Nq199
    refine Go.of st199 ?_
    have J199 : Keep T1.heap T199.heap [] := (J192).trans q199_0 all0
    have K199 : Keep h0 T199.heap [] := (K192).trans q199_0 all0
    have Z199 : n0 ≤ T199.heap.size := Nat.le_trans Z192 q199_0.1
    show Go p e below _ (T199.setTop (mkF m 266 #[.val (.int p0), .val (.ref r_1), .val (.ref rs_1), .val (.int (0 : Int32)), .val (.long (own_v p0)), .second, .val (.int (own_nd p0)), .val (.int (own_sz 5 p0))] [(.int (1 : Int32))]))
    refine Go.of (fun _ k => XS.ifNo X199.here hx rfl (hb hby at_266) rfl ((if0 _ _).trans (feq (by decide : ¬ ((1 : Int32) = (0 : Int32)))).1) k) ?_
    show Go p e below _ (T199.setTop (mkF m 269 #[.val (.int p0), .val (.ref r_1), .val (.ref rs_1), .val (.int (0 : Int32)), .val (.long (own_v p0)), .second, .val (.int (own_nd p0)), .val (.int (own_sz 5 p0))] []))
    refine Go.of (fun _ k => XS.aloadN X199.here hx rfl (hb hby at_269) rfl rfl k) ?_
    refine Go.of (fun _ k => XS.bipush X199.here hx rfl (hb hby at_270) k) ?_
    refine Go.of (fun _ k => XS.iload X199.here hx rfl (hb hby at_272) rfl  k) ?_
    refine Go.of (fun _ k => XS.iloadN X199.here hx rfl (hb hby at_274) rfl  k) ?_
    refine Go.of (fun _ k => XS.lload X199.here hx rfl (hb hby at_275) rfl  k) ?_
    refine Go.of (fun _ k => XS.iload X199.here hx rfl (hb hby at_277) rfl  k) ?_
    have c207 : Sta Z T199.heap "java/lang/String" "COMPACT_STRINGS" "Z" (.int w_COMPACT_STRINGS) := (own_Sta_keep S_COMPACT_STRINGS K199 own_p0)
    have c208 : Fld Z T199.heap rs_1 "java/lang/String" "coder" "B" (.int (0 : Int32)) := (c201.keep q199_0 nin0)
    have c209 : Exa Z T199.heap rs_1 "java/lang/String" := (c202.keep q199_0)
    have c210 : Fld Z T199.heap rs_1 "java/lang/String" "value" "[B" (.ref rb_1) := (c203.keep q199_0 nin0)
    have c211 : Arv Z T199.heap rb_1 rk_1 .byte (own_sz 5 p0) ro_1 (.int (0 : Int32)) := (c204.keep q199_0 nin0)
    have c212 : Sta Z T199.heap "jdk/internal/util/Preconditions" "SIOOBE_FORMATTER" "Ljava/util/function/BiFunction;" v_SIOOBE_FORMATTER := (own_Sta_keep S_SIOOBE_FORMATTER K199 own_p0)
    obtain ⟨_, _, ⟨T206, L206, k206, n206⟩, -, X206, ⟨Lc206, hQ206, l206, y206, z206⟩, st206⟩ := Jvm.LawKit.callS X199 hx (y := own_y_EngineExceptionHttpStatusPinLaw_at_41) hown1 (mvT hZ1 (own_h hw 225 rfl)) (mvT hZ1 (own_h hw 226 rfl)) (mvT hZ1 (own_h hw 213 rfl)) (mvT hZ1 (own_h hw 227 rfl)) (by decide) (backOf (W := 0) (rm36 l Z a0 hw [] rs_1 (13 : Int32) (own_sz 5 p0) (0 : Int32) (own_v p0) (own_nd p0) (own_sz 5 p0) ro_1 (own_by p0 (13 : Int32)) w_COMPACT_STRINGS rb_1 rk_1 v_SIOOBE_FORMATTER T199.heap n0 Z199 c207 hc7_1_13_1 c208 c209 c210 c211 c212 hr_v_SIOOBE_FORMATTER (fun _ => by decide) (fun q => q) (fun q => own_rd q1_8 (by decide) q) (fun q => own_okP hc3 (by decide) q) (fun q => own_eqP hc3 (by decide) q)) hZ1 (own_h hw 227 rfl) (own_h hw 213 rfl) (by decide) (by decide)) (g := (mkF m 279 #[.val (.int p0), .val (.ref r_1), .val (.ref rs_1), .val (.int (0 : Int32)), .val (.long (own_v p0)), .second, .val (.int (own_nd p0)), .val (.int (own_sz 5 p0))] [(.int (own_nd p0)), (.long (own_v p0)), (.int (0 : Int32)), (.int (own_sz 5 p0)), (.int (13 : Int32)), (.ref rs_1)])) rfl (by rw [hml]; rfl) (argsL := [(.ref rs_1), (.int (13 : Int32)), (.int (own_sz 5 p0)), (.int (0 : Int32)), (.long (own_v p0)), (.int (own_nd p0))]) (rest := []) (lenOf pd_32 rfl) rfl (Nat.le_of_eq rfl) (hb hby at_279) (fun _ _ => ⟨rfl, rfl, (by decide : 28 + 1 ≤ _), (by decide : 3115 + 10 ≤ _)⟩)
    dsimp only [Pt.U, Pt.locs, Pt.cells, Pt.slots] at X206 l206 y206 z206 st206 hQ206
    subst l206 y206 z206
    obtain ⟨rfl, Nq206, q206_0⟩ := hQ206
    have N206 := Fr.app N199 Nq206
    refine Go.of st206 ?_
    have J206 : Keep T1.heap T206.heap [] := (J199).trans q206_0 all0
    have K206 : Keep h0 T206.heap [] := (K199).trans q206_0 all0
    have Z206 : n0 ≤ T206.heap.size := Nat.le_trans Z199 q206_0.1
    show Go p e below _ (T206.setTop (mkF m 282 #[.val (.int p0), .val (.ref r_1), .val (.ref rs_1), .val (.int (0 : Int32)), .val (.long (own_v p0)), .second, .val (.int (own_nd p0)), .val (.int (own_sz 5 p0))] [(.int (1 : Int32))]))
    refine Go.of (fun _ k => XS.ifNo X206.here hx rfl (hb hby at_282) rfl ((if0 _ _).trans (feq (by decide : ¬ ((1 : Int32) = (0 : Int32)))).1) k) ?_
    show Go p e below _ (T206.setTop (mkF m 285 #[.val (.int p0), .val (.ref r_1), .val (.ref rs_1), .val (.int (0 : Int32)), .val (.long (own_v p0)), .second, .val (.int (own_nd p0)), .val (.int (own_sz 5 p0))] []))
    refine Go.of (fun _ k => XS.aloadN X206.here hx rfl (hb hby at_285) rfl rfl k) ?_
    refine Go.of (fun _ k => XS.bipush X206.here hx rfl (hb hby at_286) k) ?_
    refine Go.of (fun _ k => XS.iload X206.here hx rfl (hb hby at_288) rfl  k) ?_
    refine Go.of (fun _ k => XS.iloadN X206.here hx rfl (hb hby at_290) rfl  k) ?_
    refine Go.of (fun _ k => XS.lload X206.here hx rfl (hb hby at_291) rfl  k) ?_
    refine Go.of (fun _ k => XS.iload X206.here hx rfl (hb hby at_293) rfl  k) ?_
    have c214 : Sta Z T206.heap "java/lang/String" "COMPACT_STRINGS" "Z" (.int w_COMPACT_STRINGS) := (own_Sta_keep S_COMPACT_STRINGS K206 own_p0)
    have c215 : Fld Z T206.heap rs_1 "java/lang/String" "coder" "B" (.int (0 : Int32)) := (c208.keep q206_0 nin0)
    have c216 : Exa Z T206.heap rs_1 "java/lang/String" := (c209.keep q206_0)
    have c217 : Fld Z T206.heap rs_1 "java/lang/String" "value" "[B" (.ref rb_1) := (c210.keep q206_0 nin0)
    have c218 : Arv Z T206.heap rb_1 rk_1 .byte (own_sz 5 p0) ro_1 (.int (0 : Int32)) := (c211.keep q206_0 nin0)
    have c219 : Sta Z T206.heap "jdk/internal/util/Preconditions" "SIOOBE_FORMATTER" "Ljava/util/function/BiFunction;" v_SIOOBE_FORMATTER := (own_Sta_keep S_SIOOBE_FORMATTER K206 own_p0)
    obtain ⟨_, _, ⟨T213, L213, k213, n213⟩, -, X213, ⟨Lc213, hQ213, l213, y213, z213⟩, st213⟩ := Jvm.LawKit.callS X206 hx (y := own_y_EngineExceptionHttpStatusPinLaw_at_41) hown1 (mvT hZ1 (own_h hw 225 rfl)) (mvT hZ1 (own_h hw 226 rfl)) (mvT hZ1 (own_h hw 213 rfl)) (mvT hZ1 (own_h hw 227 rfl)) (by decide) (backOf (W := 0) (rm36 l Z a0 hw [] rs_1 (14 : Int32) (own_sz 5 p0) (0 : Int32) (own_v p0) (own_nd p0) (own_sz 5 p0) ro_1 (own_by p0 (14 : Int32)) w_COMPACT_STRINGS rb_1 rk_1 v_SIOOBE_FORMATTER T206.heap n0 Z206 c214 hc7_1_13_1 c215 c216 c217 c218 c219 hr_v_SIOOBE_FORMATTER (fun _ => by decide) (fun q => q) (fun q => own_rd q1_8 (by decide) q) (fun q => own_okP hc3 (by decide) q) (fun q => own_eqP hc3 (by decide) q)) hZ1 (own_h hw 227 rfl) (own_h hw 213 rfl) (by decide) (by decide)) (g := (mkF m 295 #[.val (.int p0), .val (.ref r_1), .val (.ref rs_1), .val (.int (0 : Int32)), .val (.long (own_v p0)), .second, .val (.int (own_nd p0)), .val (.int (own_sz 5 p0))] [(.int (own_nd p0)), (.long (own_v p0)), (.int (0 : Int32)), (.int (own_sz 5 p0)), (.int (14 : Int32)), (.ref rs_1)])) rfl (by rw [hml]; rfl) (argsL := [(.ref rs_1), (.int (14 : Int32)), (.int (own_sz 5 p0)), (.int (0 : Int32)), (.long (own_v p0)), (.int (own_nd p0))]) (rest := []) (lenOf pd_32 rfl) rfl (Nat.le_of_eq rfl) (hb hby at_295) (fun _ _ => ⟨rfl, rfl, (by decide : 29 + 1 ≤ _), (by decide : 3125 + 10 ≤ _)⟩)
    dsimp only [Pt.U, Pt.locs, Pt.cells, Pt.slots] at X213 l213 y213 z213 st213 hQ213
    subst l213 y213 z213
    obtain ⟨rfl, Nq213, q213_0⟩ := hQ213
    have N213 := Fr.app N206 Nq213
    refine Go.of st213 ?_
    have J213 : Keep T1.heap T213.heap [] := (J206).trans q213_0 all0
    have K213 : Keep h0 T213.heap [] := (K206).trans q213_0 all0
    have Z213 : n0 ≤ T213.heap.size := Nat.le_trans Z206 q213_0.1
    show Go p e below _ (T213.setTop (mkF m 298 #[.val (.int p0), .val (.ref r_1), .val (.ref rs_1), .val (.int (0 : Int32)), .val (.long (own_v p0)), .second, .val (.int (own_nd p0)), .val (.int (own_sz 5 p0))] [(.int (1 : Int32))]))
    refine Go.of (fun _ k => XS.ifNo X213.here hx rfl (hb hby at_298) rfl ((if0 _ _).trans (feq (by decide : ¬ ((1 : Int32) = (0 : Int32)))).1) k) ?_
    show Go p e below _ (T213.setTop (mkF m 301 #[.val (.int p0), .val (.ref r_1), .val (.ref rs_1), .val (.int (0 : Int32)), .val (.long (own_v p0)), .second, .val (.int (own_nd p0)), .val (.int (own_sz 5 p0))] []))
    refine Go.of (fun _ k => XS.aloadN X213.here hx rfl (hb hby at_301) rfl rfl k) ?_
    refine Go.of (fun _ k => XS.bipush X213.here hx rfl (hb hby at_302) k) ?_
    refine Go.of (fun _ k => XS.iload X213.here hx rfl (hb hby at_304) rfl  k) ?_
    refine Go.of (fun _ k => XS.iloadN X213.here hx rfl (hb hby at_306) rfl  k) ?_
    refine Go.of (fun _ k => XS.lload X213.here hx rfl (hb hby at_307) rfl  k) ?_
    refine Go.of (fun _ k => XS.iload X213.here hx rfl (hb hby at_309) rfl  k) ?_
    have c221 : Sta Z T213.heap "java/lang/String" "COMPACT_STRINGS" "Z" (.int w_COMPACT_STRINGS) := (own_Sta_keep S_COMPACT_STRINGS K213 own_p0)
    have c222 : Fld Z T213.heap rs_1 "java/lang/String" "coder" "B" (.int (0 : Int32)) := (c215.keep q213_0 nin0)
    have c223 : Exa Z T213.heap rs_1 "java/lang/String" := (c216.keep q213_0)
    have c224 : Fld Z T213.heap rs_1 "java/lang/String" "value" "[B" (.ref rb_1) := (c217.keep q213_0 nin0)
    have c225 : Arv Z T213.heap rb_1 rk_1 .byte (own_sz 5 p0) ro_1 (.int (0 : Int32)) := (c218.keep q213_0 nin0)
    have c226 : Sta Z T213.heap "jdk/internal/util/Preconditions" "SIOOBE_FORMATTER" "Ljava/util/function/BiFunction;" v_SIOOBE_FORMATTER := (own_Sta_keep S_SIOOBE_FORMATTER K213 own_p0)
    obtain ⟨_, _, ⟨T220, L220, k220, n220⟩, -, X220, ⟨Lc220, hQ220, l220, y220, z220⟩, st220⟩ := Jvm.LawKit.callS X213 hx (y := own_y_EngineExceptionHttpStatusPinLaw_at_41) hown1 (mvT hZ1 (own_h hw 225 rfl)) (mvT hZ1 (own_h hw 226 rfl)) (mvT hZ1 (own_h hw 213 rfl)) (mvT hZ1 (own_h hw 227 rfl)) (by decide) (backOf (W := 0) (rm36 l Z a0 hw [] rs_1 (15 : Int32) (own_sz 5 p0) (0 : Int32) (own_v p0) (own_nd p0) (own_sz 5 p0) ro_1 (own_by p0 (15 : Int32)) w_COMPACT_STRINGS rb_1 rk_1 v_SIOOBE_FORMATTER T213.heap n0 Z213 c221 hc7_1_13_1 c222 c223 c224 c225 c226 hr_v_SIOOBE_FORMATTER (fun _ => by decide) (fun q => q) (fun q => own_rd q1_8 (by decide) q) (fun q => own_okP hc3 (by decide) q) (fun q => own_eqP hc3 (by decide) q)) hZ1 (own_h hw 227 rfl) (own_h hw 213 rfl) (by decide) (by decide)) (g := (mkF m 311 #[.val (.int p0), .val (.ref r_1), .val (.ref rs_1), .val (.int (0 : Int32)), .val (.long (own_v p0)), .second, .val (.int (own_nd p0)), .val (.int (own_sz 5 p0))] [(.int (own_nd p0)), (.long (own_v p0)), (.int (0 : Int32)), (.int (own_sz 5 p0)), (.int (15 : Int32)), (.ref rs_1)])) rfl (by rw [hml]; rfl) (argsL := [(.ref rs_1), (.int (15 : Int32)), (.int (own_sz 5 p0)), (.int (0 : Int32)), (.long (own_v p0)), (.int (own_nd p0))]) (rest := []) (lenOf pd_32 rfl) rfl (Nat.le_of_eq rfl) (hb hby at_311) (fun _ _ => ⟨rfl, rfl, (by decide : 30 + 1 ≤ _), (by decide : 3135 + 10 ≤ _)⟩)
    dsimp only [Pt.U, Pt.locs, Pt.cells, Pt.slots] at X220 l220 y220 z220 st220 hQ220
    subst l220 y220 z220
    obtain ⟨rfl, Nq220, q220_0⟩ := hQ220
    have N220 := Fr.app N213 Nq220
    refine Go.of st220 ?_
    have J220 : Keep T1.heap T220.heap [] := (J213).trans q220_0 all0
    have K220 : Keep h0 T220.heap [] := (K213).trans q220_0 all0
    have Z220 : n0 ≤ T220.heap.size := Nat.le_trans Z213 q220_0.1
    show Go p e below _ (T220.setTop (mkF m 314 #[.val (.int p0), .val (.ref r_1), .val (.ref rs_1), .val (.int (0 : Int32)), .val (.long (own_v p0)), .second, .val (.int (own_nd p0)), .val (.int (own_sz 5 p0))] [(.int (1 : Int32))]))
    refine Go.of (fun _ k => XS.ifNo X220.here hx rfl (hb hby at_314) rfl ((if0 _ _).trans (feq (by decide : ¬ ((1 : Int32) = (0 : Int32)))).1) k) ?_
    show Go p e below _ (T220.setTop (mkF m 317 #[.val (.int p0), .val (.ref r_1), .val (.ref rs_1), .val (.int (0 : Int32)), .val (.long (own_v p0)), .second, .val (.int (own_nd p0)), .val (.int (own_sz 5 p0))] []))
    refine Go.of (fun _ k => XS.iconst X220.here hx rfl (hb hby at_317) k) ?_
    refine Go.of (fun _ k => XS.goto X220.here hx rfl (pc0 := 318) (pc' := 322) rfl (hb hby at_318) (by decide) (by decide) k) ?_
    show Go p e below _ (T220.setTop (mkF m 322 #[.val (.int p0), .val (.ref r_1), .val (.ref rs_1), .val (.int (0 : Int32)), .val (.long (own_v p0)), .second, .val (.int (own_nd p0)), .val (.int (own_sz 5 p0))] [(.int (1 : Int32))]))
    obtain ⟨fs, hr, hrun, hended, hRW⟩ := X220.leaveW (s := s) hS1 (by exact Nat.le_trans hk1 (J220).1) (v := some (.int (1 : Int32))) (fun h => by rw [Bd.returns] at h; cases h)
    refine Go.mk _ _ ?_ hrun hended ⟨_, _, rfl, ?_, ⟨hRW.1, hRW.2.1, hRW.2.2.1, hRW.2.2.2.mono (by decide) (by decide)⟩⟩
    · exact retN X220 hx (t := .boolean) Bd.returns (by simp) (hb hby at_322) hr
    · show Q0 Z p0 w_COMPACT_STRINGS tst td1 td2 tD1 tD2 w_UNASSIGNED_STACK w_SUPPRESSED_SENTINEL v_SIOOBE_FORMATTER h0 n0 _ T220.heap _
      exact ⟨rfl, N220⟩
theorem own_len {args : Array Value} {s : State} {t : Term} {a : Addr} {k : Int32} (ev : t.eval args s none [] s = some (.ref a)) (h : (Jvm.Cond.eq (.length t) (.int k)).value args s none s [] = some true) : ∃ cl : Cell, s.arrayAt? a = some cl ∧ cl.slots.size < 2 ^ 31 ∧ cl.slots.size.toInt32 = k := by
  obtain ⟨x, y, h1, h2, k1, -⟩ := cmp_v (Or.inl h)
  cases h2
  obtain ⟨a', cl, e1, e2, e3⟩ := Term.length_spec h1
  cases ev.symm.trans e1
  subst e3
  refine ⟨cl, e2, ?_, ?_⟩
  · by_cases q : cl.slots.size < 2 ^ 31
    · exact q
    · simp [Term.eval, ev, e2, q] at h1
  · exact gotT (Cond.eq_ints h1 rfl) h
theorem own_eqI {args : Array Value} {s : State} {t : Term} {k : Int32} (h : (Jvm.Cond.eq t (.int k)).value args s none s [] = some true) : t.eval args s none [] s = some (.int k) := by
  obtain ⟨x, y, h1, h2, k1, -⟩ := cmp_v (Or.inl h)
  cases h2
  obtain ⟨z, rfl⟩ : ∃ z, x = .int z := by cases x <;> simp [Kin, Value.isRef] at k1 ⊢
  have e : z = k := gotT (Cond.eq_ints h1 rfl) h
  rw [h1, e]
theorem own_size {n : Nat} {k : Int32} (h : n < 2 ^ 31) (e : n.toInt32 = k) : (n : Int) = k.toInt := by rw [← e, len_toInt h]
theorem own_arrB {args : Array Value} {s : State} {t : Term} {w : Addr} {cl : Cell} (ev : t.eval args s none [] s = some (.ref w)) (hx : (Jvm.Cond.exactly t "[B").value args s none s [] = some true) (wa : (Jvm.Cond.arrayClass .byte).before args s = true) (e : s.arrayAt? w = some cl) : Arr s s.heap w cl .byte := by
  obtain ⟨cell, k, h1, h2, h3, h4, -⟩ := Exa.start ev hx
  obtain ⟨c2, k2, comp, q1, q2, q3⟩ := Cond.arrayClass_spec wa
  have q1' : s.vm.findClass "[B" = some c2 := q1
  cases h2.symm.trans q1'
  simp only [State.arrayAt?, h1, q2, Option.bind_eq_bind, Option.bind_some] at e
  by_cases u : cell.vm = .unknown ∨ cell.vm.isStatics = true
  · rw [if_pos u] at e; cases e
  · rw [if_neg u, q3] at e
    cases e
    exact ⟨h1, ⟨fun q r => (by rw [r] at h4; cases h4), k2, q2, comp, q3⟩, fun r => u (Or.inl r)⟩
theorem own_tab {args : Array Value} {s : State} {C n d : String} {w : Addr} {f : Term} {g : Int32 → Int32} (ev : (Term.static C n d).eval args s none [] s = some (.ref w)) (hx : (Jvm.Cond.exactly (Term.static C n d) "[B").value args s none s [] = some true) (wa : (Jvm.Cond.arrayClass .byte).before args s = true)
    (hl : (Jvm.Cond.eq (.length (Term.static C n d)) (.int 100)).value args s none s [] = some true) (hall : (Jvm.Cond.all (Term.static C n d) (.eq (.elem (Term.static C n d) (.index 0)) f)).value args s none s [] = some true)
    (hf : ∀ i : Nat, f.eval args s none [i] s = some (.int (g (Nat.toInt32 i)))) :
    ∃ cl : Cell, Arr s s.heap w cl .byte ∧ ∀ v : Int32, ¬ v < 0 → v < 100 → ¬ (v < 0 ∨ cl.slots.size ≤ v.toNatClampNeg) ∧ cl.slots[v.toNatClampNeg]? = some (.int (g v)) := by
  obtain ⟨cl, e1, sm, e2⟩ := own_len ev hl
  have A := own_arrB ev hx wa e1
  have sz : cl.slots.size = 100 := by have := own_size sm e2; have : (100 : Int32).toInt = 100 := rfl; omega
  refine ⟨cl, A, fun v h0 h1 => ?_⟩
  have l0 : (0 : Int32).toInt = 0 := rfl
  have l1 : (100 : Int32).toInt = 100 := rfl
  have h0' := h0
  rw [Int32.lt_iff_toInt_lt] at h0' h1
  have nn : (v.toNatClampNeg : Int) = v.toInt := (nat_of h0).symm
  have lt : v.toNatClampNeg < cl.slots.size := by omega
  have h := Cond.all_elim ev e1 hall v.toNatClampNeg lt
  have evi : (Term.static C n d).eval args s none [v.toNatClampNeg] s = some (.ref w) := ev
  have ix : (Term.index 0).eval args s none [v.toNatClampNeg] s = some (.int v) := idx_at h0
  have hb := hf v.toNatClampNeg
  rw [(back32 h0).1] at hb
  obtain ⟨x, y, r1, r2, k1, -⟩ := cmp_v (Or.inl h)
  cases hb.symm.trans r2
  obtain ⟨z, rfl⟩ : ∃ z, x = .int z := by cases x <;> simp [Kin, Value.isRef] at k1 ⊢
  have ez : z = g v := gotT (Cond.eq_ints r1 r2) h
  refine ⟨fun q => by rcases q with q | q <;> first | exact h0 q | omega, ?_⟩
  rw [← ez]
  exact (elem_in r1 evi ix A.1).2
theorem own_known {s : State} {m : MethodId} {args : Array Value} {below : List Frame} (hf : s.frames = .invoking m args :: below) (h1 : framesKnown s = true) (h2 : tablesKnown s = true) : s.vm.MethodsKnown ∧ s.vm.FramesKnown below := by
  refine ⟨fun m' x hx => ?_, fun y hy m' hm' => ?_⟩
  · simp only [Vm.method?, Option.bind_eq_bind, Option.bind_eq_some_iff] at hx
    obtain ⟨k, hk, hm⟩ := hx
    refine ⟨k, hk, fun cf hcf => ?_⟩
    have q := (Array.all_eq_true_iff_forall_mem.mp h2) k (Array.mem_of_getElem? hk)
    simp only [hcf, beq_iff_eq] at q
    have lt := (Array.getElem?_eq_some_iff.mp hm).1
    simp [← q, lt]
  · have q := List.all_eq_true.mp h1 y (by rw [hf]; exact List.mem_cons_of_mem _ hy)
    have mk : ∀ {m : MethodId}, methodKnown s.vm m = true → s.vm.knowsMethod m := fun {m} h => by
      unfold methodKnown at h
      cases hk : s.vm.classes[m.cls]? with
      | none => simp [hk] at h
      | some k =>
        refine ⟨k, hk, fun cf hcf => ?_⟩
        simpa [hk, hcf] using h
    cases y <;> simp [frameMethod?] at hm' <;> (subst hm'; exact mk q)
theorem own_tabs {args : Array Value} {s : State} (wa : (Jvm.Cond.arrayClass .byte).before args s = true)
    (o1 : (Jvm.Cond.laysStatic "java/lang/Integer" "DigitOnes" "[B").before args s = true) (o2 : (Jvm.Cond.initializedFor "java/lang/Integer" "DigitOnes" "[B").before args s = true) (o3 : (Jvm.Cond.exactly (Term.static "java/lang/Integer" "DigitOnes" "[B") "[B").value args s none s [] = some true)
    (o4 : (Jvm.Cond.eq (.length (Term.static "java/lang/Integer" "DigitOnes" "[B")) (.int 100)).value args s none s [] = some true) (o5 : (Jvm.Cond.all (Term.static "java/lang/Integer" "DigitOnes" "[B") (.eq (.elem (Term.static "java/lang/Integer" "DigitOnes" "[B") (.index 0)) (.add (.int 48) (.rem (.index 0) (.int 10))))).value args s none s [] = some true)
    (t1 : (Jvm.Cond.laysStatic "java/lang/Integer" "DigitTens" "[B").before args s = true) (t2 : (Jvm.Cond.initializedFor "java/lang/Integer" "DigitTens" "[B").before args s = true) (t3 : (Jvm.Cond.exactly (Term.static "java/lang/Integer" "DigitTens" "[B") "[B").value args s none s [] = some true)
    (t4 : (Jvm.Cond.eq (.length (Term.static "java/lang/Integer" "DigitTens" "[B")) (.int 100)).value args s none s [] = some true) (t5 : (Jvm.Cond.all (Term.static "java/lang/Integer" "DigitTens" "[B") (.eq (.elem (Term.static "java/lang/Integer" "DigitTens" "[B") (.index 0)) (.add (.int 48) (.div (.index 0) (.int 10))))).value args s none s [] = some true) :
    ∃ (st d1 d2 : Addr) (D1 D2 : Cell), own_tb s s.heap s.heap.size st d1 d2 D1 D2 := by
  have one : ∀ {n : String} {d : Addr} {D : Cell} {g : Int32 → Int32} {c : ClassId} {k : Class} {st : Addr}, s.vm.findClass "java/lang/Integer" = some c → s.vm.classes[c]? = some k → k.statics = some st → (Jvm.Cond.laysStatic "java/lang/Integer" n "[B").before args s = true → Sta s s.heap "java/lang/Integer" n "[B" (.ref d) → Arr s s.heap d D .byte → D.slots.size = 100 →
      (∀ v : Int32, ¬ v < 0 → v < 100 → ¬ (v < 0 ∨ D.slots.size ≤ v.toNatClampNeg) ∧ D.slots[v.toNatClampNeg]? = some (.int (g v))) → Tbl s n st d D ∧ ∀ r, r < 100 → Jvm.Free.SBG.iAt D r = g (Int32.ofNat r) := fun {n d D g c k st} hc hk hst hl S A sz at_ => by
    have hr : ∀ r, r < 100 → D.slots[r]? = some (.int (g (Int32.ofNat r))) := fun r hr => by
      have e : (Int32.ofNat r).toInt = r := Int32.toInt_ofNat_of_lt (by omega)
      have e2 : (Int32.ofNat r).toNatClampNeg = r := by simp only [Int32.toNatClampNeg, e]; rfl
      have := (at_ (Int32.ofNat r) (by rw [Int32.lt_iff_toInt_lt, e, show (0 : Int32).toInt = 0 from rfl]; omega) (by rw [Int32.lt_iff_toInt_lt, e, show (100 : Int32).toInt = 100 from rfl]; omega)).2
      rwa [e2] at this
    have hi : ∀ r, r < 100 → Jvm.Free.SBG.iAt D r = g (Int32.ofNat r) := fun r h => by unfold Jvm.Free.SBG.iAt; rw [Jvm.Free.SBG.getD_of (hr r h)]
    obtain ⟨c2, k2, i2, f2, a2, cell2, y1, y2, y3, y4, y5, y6, -⟩ := Cond.laysStatic_spec hl
    obtain ⟨cf, i, k3, f, st3, cell, z1, z2, z3, z4, z5, z6, z7⟩ := S
    cases y2.symm.trans z1
    cases y1.symm.trans hc
    cases (State.fieldFound?_spec z1).1.symm.trans hk
    cases hst.symm.trans z4
    exact ⟨⟨_, i2, k, f2, cell, z1, z2, z3, z4, z5, (fun q => by rw [q] at z6; cases z6), z7, A.1, A.2.1, A.2.2, sz, fun r h => by rw [hi r h]; exact hr r h⟩, hi⟩
  obtain ⟨d1, ev1⟩ := exa_v o3
  obtain ⟨d2, ev2⟩ := exa_v t3
  obtain ⟨D1, A1, at1⟩ := own_tab (g := fun v => (48 : Int32) + v % (10 : Int32)) ev1 o3 wa o4 o5 (fun _ => rfl)
  obtain ⟨D2, A2, at2⟩ := own_tab (g := fun v => (48 : Int32) + v / (10 : Int32)) ev2 t3 wa t4 t5 (fun _ => rfl)
  have sz : ∀ {n : String} {d : Addr} {D : Cell}, (Term.static "java/lang/Integer" n "[B").eval args s none [] s = some (.ref d) → (Jvm.Cond.eq (.length (Term.static "java/lang/Integer" n "[B")) (.int 100)).value args s none s [] = some true → Arr s s.heap d D .byte → D.slots.size = 100 := fun {n d D} ev hl A => by
    obtain ⟨cl, e1, sm, e2⟩ := own_len ev hl
    cases e1.symm.trans (A.fin (Vm.Alike.refl _))
    have := own_size sm e2
    have e : (100 : Int32).toInt = 100 := rfl
    omega
  obtain ⟨c, k, i, f, st, cell, y1, y2, y3, y4, y5, -⟩ := Cond.laysStatic_spec o1
  have hk := (State.fieldFound?_spec y2).1
  obtain ⟨T1, I1⟩ := one y1 hk y4 o1 (Sta.start ev1 (Or.inl o2)) A1 (sz ev1 o4 A1) at1
  obtain ⟨T2, I2⟩ := one y1 hk y4 t1 (Sta.start ev2 (Or.inl t2)) A2 (sz ev2 t4 A2) at2
  exact ⟨st, d1, d2, D1, D2, T1, T2, fun r h => by rw [I1 r h]; exact Jvm.Free.SBG.ones_num r h, fun r h => by rw [I2 r h]; exact Jvm.Free.SBG.tens_num r h, (Array.getElem?_eq_some_iff.mp y5).1, A1.lt, A2.lt, fun _ q => q, A1.1, A2.1⟩

theorem own_len0 {args : Array Value} {s : State} {t : Term} {k : Int32} (h : (Jvm.Cond.eq (.length t) (.int k)).value args s none s [] = some true) : ∃ _ : Cell, ∃ a : Addr, t.eval args s none [] s = some (.ref a) := by
  obtain ⟨x, y, h1, h2, k1, -⟩ := cmp_v (Or.inl h)
  obtain ⟨a', cl, e1, -, -⟩ := Term.length_spec h1
  exact ⟨cl, a', e1⟩
set_option maxRecDepth 65536 in
set_option maxHeartbeats 40000000 in
theorem comes_1 {Post : Tables → Env → Array Value → State → Outcome → State → Prop} (hpost : ∀ tb e args s v u, (limb_1_1.after args s (.returned v) u = true ∧ limb_1_2.after args s (.returned v) u = true ∧ True) → ReturnedEndW s (.returned v) u (Jvm.fieldLocs frame_1_writes args s ++ Jvm.arrayLocs frame_1_arrays args s ++ Jvm.staticLocs frame_1_statics s) 56 8128 → Post tb e args s (.returned v) u) :
    ArmFor flags0 classFile x code maxLocals ret World_1 tables_1 room_1 Calls_1 rest_1 Pre_1 Post := by
  intro l hfl _ _ p e ha hc hk s m args below hf hA hF happ hP
  obtain ⟨hcalls, hrest, hpre⟩ := hP
  obtain ⟨-, -, -, hnamed, -, -, -, hat⟩ := (Spec.applies_iff hf).mp happ
  obtain ⟨hg, hn⟩ := and_e (Cond.before_iff.mp (show (Jvm.Cond.and given_1 narrow_1).before args s = true from hpre))
  obtain ⟨g1, g2⟩ := and_e hg
  obtain ⟨w0, rfl⟩ : ∃ w0 : Value, args = #[w0] := by
    have hs : args.size = 1 := by simpa [Cond.value, given_1] using g1
    obtain ⟨L⟩ := args
    match L, hs with
    | [w0], _ => exact ⟨w0, rfl⟩
  have hw := fun d (hd : d ∈ tables_1) => atoms_spec (ws := Jvm.Cond.code x code maxLocals ret :: tables_1) hat d (List.mem_cons_of_mem _ hd)
  have hfit : Fit s := fun {y c} hc i hi => by
    obtain ⟨ha, rfl⟩ := Array.getElem?_eq_some_iff.mp hc
    have q := List.all_eq_true.mp ((Array.all_eq_true_iff_forall_mem.mp hF) _ (Array.getElem_mem ha)) i (List.mem_range.mpr hi)
    simpa [Array.getElem?_eq_getElem hi] using q
  obtain ⟨i0, ei0⟩ := is_v g2
  obtain rfl : w0 = (.int i0) := Option.some.inj ei0
  obtain ⟨hsets, hown0⟩ := atoms_of _ (rest_1_c_eq ▸ (show rest_1_c.before _ s = true from hrest))
  have hr0 := Cond.before_iff.mp hown0
  obtain ⟨w_COMPACT_STRINGS, evC⟩ := is_v (Cond.before_iff.mp (hsets _ (List.mem_of_getElem? (i := 1) rfl)))
  have S_COMPACT_STRINGS := Sta.start evC (Or.inl (hsets _ (List.mem_of_getElem? (i := 0) rfl)))
  have hC0 : ¬ (w_COMPACT_STRINGS = (0 : Int32)) := gotF (Cond.eq_ints evC rfl) (not_v (Cond.before_iff.mp (hsets _ (List.mem_of_getElem? (i := 2) rfl))))
  obtain ⟨v_SIOOBE_FORMATTER, evF, hrF⟩ := isR_v (Cond.before_iff.mp (hsets _ (List.mem_of_getElem? (i := 8) rfl)))
  have S_SIOOBE_FORMATTER := Sta.start evF (Or.inl (hsets _ (List.mem_of_getElem? (i := 7) rfl)))
  obtain ⟨tst, td1, td2, tD1, tD2, hTb⟩ := own_tabs (own_h hw 23 rfl) (hsets _ (List.mem_of_getElem? (i := 10) rfl)) (hsets _ (List.mem_of_getElem? (i := 11) rfl)) (Cond.before_iff.mp (hsets _ (List.mem_of_getElem? (i := 12) rfl))) (Cond.before_iff.mp (hsets _ (List.mem_of_getElem? (i := 13) rfl))) (Cond.before_iff.mp (hsets _ (List.mem_of_getElem? (i := 14) rfl))) (hsets _ (List.mem_of_getElem? (i := 15) rfl)) (hsets _ (List.mem_of_getElem? (i := 16) rfl)) (Cond.before_iff.mp (hsets _ (List.mem_of_getElem? (i := 17) rfl))) (Cond.before_iff.mp (hsets _ (List.mem_of_getElem? (i := 18) rfl))) (Cond.before_iff.mp (hsets _ (List.mem_of_getElem? (i := 19) rfl)))
  obtain ⟨clU, evU⟩ := own_len0 (Cond.before_iff.mp (hsets _ (List.mem_of_getElem? (i := 29) rfl)))
  obtain ⟨w_UNASSIGNED_STACK, evU⟩ := evU
  have S_UNASSIGNED_STACK := Sta.start evU (Or.inl (hsets _ (List.mem_of_getElem? (i := 26) rfl)))
  obtain ⟨w_SUPPRESSED_SENTINEL, evS⟩ := exa_v (Cond.before_iff.mp (hsets _ (List.mem_of_getElem? (i := 33) rfl)))
  have S_SUPPRESSED_SENTINEL := Sta.start evS (Or.inl (hsets _ (List.mem_of_getElem? (i := 31) rfl)))
  obtain ⟨hTK, hBelow⟩ := own_known hf hcalls.1 hcalls.2.1
  have hlt : l.stackTraces = true := by unfold Launch.stackTraces; rw [hfl]; decide
  have hCH0 : CHv s own_EL s.vm s.heap := CHv.start (own_ew hw) (fun p hp => by simp only [own_EL, List.mem_cons, List.not_mem_nil, or_false] at hp; rcases hp with rfl | rfl <;> exact hcalls.2.2.1 _ (by simp [consts_1])) (hsets _ (List.mem_of_getElem? (i := 2) rfl)) (own_h hw 23 rfl) (own_h hw 29 rfl)
  obtain ⟨n, o, h1, h2, h3, _, L, rfl, ⟨rfl, N⟩, hq⟩ := rm0 l s _ hw tables_1 i0 w_COMPACT_STRINGS tst td1 td2 tD1 tD2 w_UNASSIGNED_STACK w_SUPPRESSED_SENTINEL v_SIOOBE_FORMATTER s.heap s.heap.size (Nat.le_refl _) S_COMPACT_STRINGS hC0 hTb S_UNASSIGNED_STACK S_SUPPRESSED_SENTINEL hlt S_SIOOBE_FORMATTER hrF p e ha hc hk s m _ below hf ((Spec.applies_iff_loose hf).mp happ).1 ⟨rfl, State.Warmed39.refl s, rfl, hCH0⟩ ⟨hTK, hBelow⟩
  refine ⟨n, _, h1, h2, h3, hpost _ _ _ _ _ _ ⟨Cond.after_iff.mpr rfl, Cond.after_iff.mpr (eq_i res_at (Term.int_eval (1)) rfl), trivial⟩ ⟨hq.1, hq.2.1, hq.2.2.1, (hq.2.2.2.sift fun y hy => Or.inr (N y hy)).mono (by decide) (by decide)⟩⟩
theorem main_1_1 : Claimed_1_1 := comes_1 fun _ _ _ _ _ _ h hF => ⟨h.1, hF⟩
theorem main_1_2 : Claimed_1_2 := comes_1 fun _ _ _ _ _ _ h hF => ⟨h.2.1, hF⟩
end Jvm.Pilot.@@N@@
namespace Jvm.Pilot.@@N@@
open Jvm Jvm.ClassFile Sem Op Lib Jvm.Free Jvm.Stand Jvm.Pilot.@@N@@.Jvm.D
/-! MADE BY PROGRAM (witnessworld.py) out of the Statement's table words and the real class files: 42 classes; the members and pool entries that the words name. The judged class is class 1, her method 1. -/
namespace start1
open Jvm.ClassFile
def u (s : String) : CpInfo := .utf8 (stringToUtf16 s)
/-- a pool by its gaps: so many unusable entries, then the entry; so many at the end -/
def gap : Nat → List CpInfo → List CpInfo
  | 0, r => r
  | n + 1, r => .unusable :: gap n r
def poolList (es : List (Nat × CpInfo)) (last : Nat) : List CpInfo := es.foldr (fun e r => gap e.1 (e.2 :: r)) (gap last [])
def pool (es : List (Nat × CpInfo)) (last : Nat) : Array CpInfo := ⟨poolList es last⟩
def fileOf (pool : Array CpInfo) (this : Nat) (attrs : Array Attribute := #[]) (ms : Array MethodInfo := #[]) (fl : Nat := 33) (sup : Nat := 0) (ifs : Array Nat := #[]) (fds : Array FieldInfo := #[]) : ClassFile where
  minorVersion := 0
  majorVersion := 65
  constantPool := pool
  accessFlags := fl
  thisClass := this
  superClass := sup
  interfaces := ifs
  fields := fds
  methods := ms
  attributes := attrs
def plain (name : String) (sup : Option ClassId) : Class where
  name := name
  kind := .ordinary
  loader := none
  accessFlags := 33
  super := sup
  interfaces := #[]
  cf := none
  fields := #[]
  methods := #[]
  instanceTypes := #[]
  staticTypes := #[]
  resolved := #[]
  callSites := []
  init := .initialized
  statics := none
  mirror := none

def pool0 : Array CpInfo := pool [(5, u "<init>"), (0, u "()V"), (1, .class_ 10), (1, u "java/lang/Object"), (85, u "clone"), (0, u "()Ljava/lang/Object;")] 26

def k0c0 : Code := { maxStack := 0, maxLocals := 1, code := object_method_1_code, exceptionTable := #[], attributes := #[] }
def k0m0 : Method := { name := "<init>", desc := "()V", sig := { parameters := [], returnType := none }, accessFlags := 1, code := some k0c0 }
def k0m1 : Method := { name := "clone", desc := "()Ljava/lang/Object;", sig := { parameters := [], returnType := some (.object "java/lang/Object") }, accessFlags := 260, code := none }
/-- java/lang/Object -/
def k0 : Class := { plain "java/lang/Object" none with
  accessFlags := 33
  interfaces := #[]
  cf := some (fileOf pool0 8 #[] #[{ accessFlags := 1, nameIndex := 5, descriptorIndex := 6, attributes := #[] }, { accessFlags := 260, nameIndex := 96, descriptorIndex := 97, attributes := #[] }] 33 0 #[] #[])
  fields := #[]
  methods := #[k0m0, k0m1]
  instanceTypes := #[]
  staticTypes := #[]
  resolved := Array.replicate 124 none
  statics := none }

def pool1 : Array CpInfo := pool [(2, .class_ 4), (1, u "java/lang/Object"), (0, u "<init>"), (0, u "()V"), (0, .methodref 8 9), (0, .class_ 10), (0, .nameAndType 11 12), (0, u "com/example/metasearchd/metasearchd/engine/EngineException"), (0, u "httpStatus"), (0, u "(I)Lcom/example/metasearchd/metasearchd/engine/EngineException;"), (0, .methodref 8 14), (0, .nameAndType 15 16), (0, u "reason"), (0, u "()Ljava/lang/String;"), (0, .methodref 18 19), (0, .class_ 20), (0, .nameAndType 21 22), (0, u "java/lang/Math"), (0, u "abs"), (0, u "(J)J"), (0, .methodref 24 25), (0, .class_ 26), (0, .nameAndType 27 28), (0, u "com/example/metasearchd/metasearchd/engine/EngineExceptionHttpStatusPinLaw"), (0, u "digits"), (0, u "(J)I"), (0, .methodref 30 31), (0, .class_ 32), (0, .nameAndType 33 34), (0, u "java/lang/String"), (0, u "length"), (0, u "()I"), (0, .methodref 24 36), (0, .nameAndType 37 38), (0, u "at"), (0, u "(Ljava/lang/String;IIZJI)Z"), (0, .long 1000000000), (1, .long 100000000), (1, .long 10000000), (1, .long 1000000), (1, .long 100000), (1, .long 10000), (1, .long 1000), (1, .long 100), (1, .long 10), (1, .methodref 30 58), (0, .nameAndType 59 60), (0, u "charAt"), (0, u "(I)C"), (0, .methodref 24 62), (0, .nameAndType 63 64), (0, u "expected"), (0, u "(IZJI)C"), (0, .methodref 24 66), (0, .nameAndType 67 68), (0, u "pow10"), (0, u "(I)J"), (2, u "law"), (0, u "(I)Z")] 3

def k1m0 : Method := { name := "<init>", desc := "()V", sig := { parameters := [], returnType := none }, accessFlags := 1, code := none }
def k1c1 : Code := { maxStack := 7, maxLocals := 8, code := code, exceptionTable := #[], attributes := #[] }
def k1m1 : Method := { name := "law", desc := "(I)Z", sig := { parameters := [.int], returnType := some .boolean }, accessFlags := 9, code := some k1c1 }
def k1c2 : Code := { maxStack := 4, maxLocals := 2, code := method_3_code, exceptionTable := #[], attributes := #[] }
def k1m2 : Method := { name := "digits", desc := "(J)I", sig := { parameters := [.long], returnType := some .int }, accessFlags := 10, code := some k1c2 }
def k1c3 : Code := { maxStack := 5, maxLocals := 2, code := method_4_code, exceptionTable := #[], attributes := #[] }
def k1m3 : Method := { name := "pow10", desc := "(I)J", sig := { parameters := [.int], returnType := some .long }, accessFlags := 10, code := some k1c3 }
def k1c4 : Code := { maxStack := 6, maxLocals := 7, code := method_5_code, exceptionTable := #[], attributes := #[] }
def k1m4 : Method := { name := "at", desc := "(Ljava/lang/String;IIZJI)Z", sig := { parameters := [(.object "java/lang/String"), .int, .int, .boolean, .long, .int], returnType := some .boolean }, accessFlags := 10, code := some k1c4 }
def k1c5 : Code := { maxStack := 4, maxLocals := 8, code := method_6_code, exceptionTable := #[], attributes := #[] }
def k1m5 : Method := { name := "expected", desc := "(IZJI)C", sig := { parameters := [.int, .boolean, .long, .int], returnType := some .char }, accessFlags := 10, code := some k1c5 }
/-- com/example/metasearchd/metasearchd/engine/EngineExceptionHttpStatusPinLaw -/
def k1 : Class := { plain "com/example/metasearchd/metasearchd/engine/EngineExceptionHttpStatusPinLaw" (some 0) with
  accessFlags := 49
  interfaces := #[]
  cf := some (fileOf pool1 24 #[] #[{ accessFlags := 1, nameIndex := 5, descriptorIndex := 6, attributes := #[] }, { accessFlags := 9, nameIndex := 71, descriptorIndex := 72, attributes := #[] }, { accessFlags := 10, nameIndex := 27, descriptorIndex := 28, attributes := #[] }, { accessFlags := 10, nameIndex := 67, descriptorIndex := 68, attributes := #[] }, { accessFlags := 10, nameIndex := 37, descriptorIndex := 38, attributes := #[] }, { accessFlags := 10, nameIndex := 63, descriptorIndex := 64, attributes := #[] }] 49 2 #[] #[])
  fields := #[]
  methods := #[k1m0, k1m1, k1m2, k1m3, k1m4, k1m5]
  instanceTypes := #[]
  staticTypes := #[]
  resolved := Array.replicate 76 none
  statics := none }

def pool2 : Array CpInfo := pool [(1, .class_ 2), (0, u "java/io/Serializable"), (0, .class_ 4), (0, u "java/lang/Object")] 2

/-- java/io/Serializable -/
def k2 : Class := { plain "java/io/Serializable" (some 0) with
  accessFlags := 1537
  interfaces := #[]
  cf := some (fileOf pool2 1 #[] #[] 1537 3 #[] #[])
  fields := #[]
  methods := #[]
  instanceTypes := #[]
  staticTypes := #[]
  resolved := Array.replicate 7 none
  statics := none }

def pool3 : Array CpInfo := pool [(1, .methodref 2 3), (0, .class_ 4), (0, .nameAndType 5 6), (0, u "java/lang/Object"), (0, u "<init>"), (0, u "()V"), (0, .fieldref 8 9), (0, .class_ 10), (0, .nameAndType 11 12), (0, u "java/lang/Throwable"), (0, u "cause"), (0, u "Ljava/lang/Throwable;"), (0, .fieldref 8 14), (0, .nameAndType 15 16), (0, u "UNASSIGNED_STACK"), (0, u "[Ljava/lang/StackTraceElement;"), (0, .fieldref 8 18), (0, .nameAndType 19 16), (0, u "stackTrace"), (0, .fieldref 8 21), (0, .nameAndType 22 23), (0, u "SUPPRESSED_SENTINEL"), (0, u "Ljava/util/List;"), (0, .fieldref 8 25), (0, .nameAndType 26 23), (0, u "suppressedExceptions"), (0, .methodref 8 28), (0, .nameAndType 29 30), (0, u "fillInStackTrace"), (0, u "()Ljava/lang/Throwable;"), (0, .fieldref 8 32), (0, .nameAndType 33 34), (0, u "detailMessage"), (0, u "Ljava/lang/String;"), (28, u "(Ljava/lang/String;Ljava/lang/Throwable;)V"), (29, .class_ 94), (0, u "java/lang/Throwable$WrappedPrintStream"), (6, .class_ 103), (1, u "java/lang/Throwable$PrintStreamOrWriter"), (61, u "$assertionsDisabled"), (0, u "Z"), (26, .class_ 194), (0, u "java/lang/Throwable$WrappedPrintWriter"), (3, .fieldref 8 199), (0, .nameAndType 200 201), (0, u "backtrace"), (0, u "Ljava/lang/Object;"), (0, .methodref 8 203), (0, .nameAndType 29 204), (0, u "(I)Ljava/lang/Throwable;"), (6, u "depth"), (0, u "I"), (56, .class_ 271), (1, u "java/lang/Throwable$SentinelHolder"), (32, u "EMPTY_THROWABLE_ARRAY"), (0, u "[Ljava/lang/Throwable;"), (12, .class_ 319), (0, u "java/io/Serializable"), (0, u "serialVersionUID"), (0, u "J"), (5, u "NULL_CAUSE_MESSAGE"), (0, u "SELF_SUPPRESSION_MESSAGE"), (0, u "CAUSE_CAPTION"), (0, u "SUPPRESSED_CAPTION")] 73

def k3c0 : Code := { maxStack := 2, maxLocals := 1, code := jdk_78_method_1_code, exceptionTable := #[], attributes := #[] }
def k3m0 : Method := { name := "<init>", desc := "()V", sig := { parameters := [], returnType := none }, accessFlags := 1, code := some k3c0 }
def k3c1 : Code := { maxStack := 2, maxLocals := 3, code := jdk_78_method_3_code, exceptionTable := #[], attributes := #[] }
def k3m1 : Method := { name := "<init>", desc := "(Ljava/lang/String;Ljava/lang/Throwable;)V", sig := { parameters := [(.object "java/lang/String"), (.object "java/lang/Throwable")], returnType := none }, accessFlags := 1, code := some k3c1 }
def k3c2 : Code := { maxStack := 2, maxLocals := 1, code := ⟨#[0x2a, 0xb4, 0x00, 0x11, 0xc7, 0x00, 0x0a, 0x2a, 0xb4, 0x00, 0xc6, 0xc6, 0x00, 0x10, 0x2a, 0x03, 0xb6, 0x00, 0xca, 0x57, 0x2a, 0xb2, 0x00, 0x0d, 0xb5, 0x00, 0x11, 0x2a, 0xb0]⟩, exceptionTable := #[], attributes := #[] }
def k3m2 : Method := { name := "fillInStackTrace", desc := "()Ljava/lang/Throwable;", sig := { parameters := [], returnType := some (.object "java/lang/Throwable") }, accessFlags := 33, code := some k3c2 }
def k3m3 : Method := { name := "fillInStackTrace", desc := "(I)Ljava/lang/Throwable;", sig := { parameters := [.int], returnType := some (.object "java/lang/Throwable") }, accessFlags := 258, code := none }
/-- java/lang/Throwable -/
def k3 : Class := { plain "java/lang/Throwable" (some 0) with
  accessFlags := 33
  interfaces := #[2]
  cf := some (fileOf pool3 8 #[.nestMembers #[193, 93, 101, 269]] #[{ accessFlags := 1, nameIndex := 5, descriptorIndex := 6, attributes := #[] }, { accessFlags := 1, nameIndex := 5, descriptorIndex := 63, attributes := #[] }, { accessFlags := 33, nameIndex := 29, descriptorIndex := 30, attributes := #[] }, { accessFlags := 258, nameIndex := 29, descriptorIndex := 204, attributes := #[] }] 33 2 #[318] #[{ accessFlags := 26, nameIndex := 320, descriptorIndex := 321, attributes := #[] }, { accessFlags := 130, nameIndex := 200, descriptorIndex := 201, attributes := #[] }, { accessFlags := 2, nameIndex := 33, descriptorIndex := 34, attributes := #[] }, { accessFlags := 26, nameIndex := 15, descriptorIndex := 16, attributes := #[] }, { accessFlags := 2, nameIndex := 11, descriptorIndex := 12, attributes := #[] }, { accessFlags := 2, nameIndex := 19, descriptorIndex := 16, attributes := #[] }, { accessFlags := 130, nameIndex := 211, descriptorIndex := 212, attributes := #[] }, { accessFlags := 26, nameIndex := 22, descriptorIndex := 23, attributes := #[] }, { accessFlags := 2, nameIndex := 26, descriptorIndex := 23, attributes := #[] }, { accessFlags := 26, nameIndex := 327, descriptorIndex := 34, attributes := #[] }, { accessFlags := 26, nameIndex := 328, descriptorIndex := 34, attributes := #[] }, { accessFlags := 26, nameIndex := 329, descriptorIndex := 34, attributes := #[] }, { accessFlags := 26, nameIndex := 330, descriptorIndex := 34, attributes := #[] }, { accessFlags := 26, nameIndex := 304, descriptorIndex := 305, attributes := #[] }, { accessFlags := 4120, nameIndex := 165, descriptorIndex := 166, attributes := #[] }])
  fields := #[{ name := "serialVersionUID", type := .long, accessFlags := 26, slot := 0, constantValue := 0 }, { name := "backtrace", type := (.object "java/lang/Object"), accessFlags := 130, slot := 0, constantValue := 0 }, { name := "detailMessage", type := (.object "java/lang/String"), accessFlags := 2, slot := 1, constantValue := 0 }, { name := "UNASSIGNED_STACK", type := (.array (.object "java/lang/StackTraceElement")), accessFlags := 26, slot := 1, constantValue := 0 }, { name := "cause", type := (.object "java/lang/Throwable"), accessFlags := 2, slot := 2, constantValue := 0 }, { name := "stackTrace", type := (.array (.object "java/lang/StackTraceElement")), accessFlags := 2, slot := 3, constantValue := 0 }, { name := "depth", type := .int, accessFlags := 130, slot := 4, constantValue := 0 }, { name := "SUPPRESSED_SENTINEL", type := (.object "java/util/List"), accessFlags := 26, slot := 2, constantValue := 0 }, { name := "suppressedExceptions", type := (.object "java/util/List"), accessFlags := 2, slot := 5, constantValue := 0 }, { name := "NULL_CAUSE_MESSAGE", type := (.object "java/lang/String"), accessFlags := 26, slot := 3, constantValue := 0 }, { name := "SELF_SUPPRESSION_MESSAGE", type := (.object "java/lang/String"), accessFlags := 26, slot := 4, constantValue := 0 }, { name := "CAUSE_CAPTION", type := (.object "java/lang/String"), accessFlags := 26, slot := 5, constantValue := 0 }, { name := "SUPPRESSED_CAPTION", type := (.object "java/lang/String"), accessFlags := 26, slot := 6, constantValue := 0 }, { name := "EMPTY_THROWABLE_ARRAY", type := (.array (.object "java/lang/Throwable")), accessFlags := 26, slot := 7, constantValue := 0 }, { name := "$assertionsDisabled", type := .boolean, accessFlags := 4120, slot := 8, constantValue := 0 }]
  methods := #[k3m0, k3m1, k3m2, k3m3]
  instanceTypes := #[(.object "java/lang/Object"), (.object "java/lang/String"), (.object "java/lang/Throwable"), (.array (.object "java/lang/StackTraceElement")), .int, (.object "java/util/List")]
  staticTypes := #[.long, (.array (.object "java/lang/StackTraceElement")), (.object "java/util/List"), (.object "java/lang/String"), (.object "java/lang/String"), (.object "java/lang/String"), (.object "java/lang/String"), (.array (.object "java/lang/Throwable")), .boolean]
  resolved := Array.replicate 404 none
  statics := some 0 }

def pool4 : Array CpInfo := pool [(2, .class_ 4), (1, u "java/lang/Throwable"), (0, u "<init>"), (0, u "()V"), (3, .methodref 2 11), (0, .nameAndType 5 12), (0, u "(Ljava/lang/String;Ljava/lang/Throwable;)V"), (6, .class_ 20), (0, u "java/lang/Exception"), (0, u "serialVersionUID"), (0, u "J")] 17

def k4m0 : Method := { name := "<init>", desc := "()V", sig := { parameters := [], returnType := none }, accessFlags := 1, code := none }
def k4c1 : Code := { maxStack := 3, maxLocals := 3, code := jdk_59_method_3_code, exceptionTable := #[], attributes := #[] }
def k4m1 : Method := { name := "<init>", desc := "(Ljava/lang/String;Ljava/lang/Throwable;)V", sig := { parameters := [(.object "java/lang/String"), (.object "java/lang/Throwable")], returnType := none }, accessFlags := 1, code := some k4c1 }
/-- java/lang/Exception -/
def k4 : Class := { plain "java/lang/Exception" (some 3) with
  accessFlags := 33
  interfaces := #[]
  cf := some (fileOf pool4 19 #[] #[{ accessFlags := 1, nameIndex := 5, descriptorIndex := 6, attributes := #[] }, { accessFlags := 1, nameIndex := 5, descriptorIndex := 12, attributes := #[] }] 33 2 #[] #[{ accessFlags := 24, nameIndex := 21, descriptorIndex := 22, attributes := #[] }])
  fields := #[{ name := "serialVersionUID", type := .long, accessFlags := 24, slot := 0, constantValue := 0 }]
  methods := #[k4m0, k4m1]
  instanceTypes := #[(.object "java/lang/Object"), (.object "java/lang/String"), (.object "java/lang/Throwable"), (.array (.object "java/lang/StackTraceElement")), .int, (.object "java/util/List")]
  staticTypes := #[.long]
  resolved := Array.replicate 40 none
  statics := none }

def pool5 : Array CpInfo := pool [(1, .methodref 2 3), (0, .class_ 4), (0, .nameAndType 5 6), (0, u "java/lang/Exception"), (0, u "<init>"), (0, u "(Ljava/lang/String;Ljava/lang/Throwable;)V"), (0, .fieldref 8 9), (0, .class_ 10), (0, .nameAndType 11 12), (0, u "com/example/metasearchd/metasearchd/engine/EngineException"), (0, u "reason"), (0, u "Ljava/lang/String;"), (4, .methodref 8 18), (0, .nameAndType 5 19), (0, u "(Ljava/lang/String;Ljava/lang/String;Ljava/lang/Throwable;)V"), (8, .class_ 29), (0, u "java/lang/StringBuilder"), (0, .methodref 28 31), (0, .nameAndType 5 32), (0, u "()V"), (0, .string 34), (0, u "http-"), (0, .methodref 28 36), (0, .nameAndType 37 38), (0, u "append"), (0, u "(Ljava/lang/String;)Ljava/lang/StringBuilder;"), (0, .methodref 28 40), (0, .nameAndType 37 41), (0, u "(I)Ljava/lang/StringBuilder;"), (0, .methodref 28 43), (0, .nameAndType 44 45), (0, u "toString"), (0, u "()Ljava/lang/String;"), (0, .string 47), (0, u "HTTP status "), (8, u "serialVersionUID"), (0, u "J"), (7, u "httpStatus"), (0, u "(I)Lcom/example/metasearchd/metasearchd/engine/EngineException;")] 4

def k5c0 : Code := { maxStack := 3, maxLocals := 4, code := prog_9_method_1_code, exceptionTable := #[], attributes := #[] }
def k5m0 : Method := { name := "<init>", desc := "(Ljava/lang/String;Ljava/lang/String;Ljava/lang/Throwable;)V", sig := { parameters := [(.object "java/lang/String"), (.object "java/lang/String"), (.object "java/lang/Throwable")], returnType := none }, accessFlags := 2, code := some k5c0 }
def k5c1 : Code := { maxStack := 5, maxLocals := 1, code := prog_9_method_4_code, exceptionTable := #[], attributes := #[] }
def k5m1 : Method := { name := "httpStatus", desc := "(I)Lcom/example/metasearchd/metasearchd/engine/EngineException;", sig := { parameters := [.int], returnType := some (.object "com/example/metasearchd/metasearchd/engine/EngineException") }, accessFlags := 9, code := some k5c1 }
def k5c2 : Code := { maxStack := 1, maxLocals := 1, code := prog_9_method_7_code, exceptionTable := #[], attributes := #[] }
def k5m2 : Method := { name := "reason", desc := "()Ljava/lang/String;", sig := { parameters := [], returnType := some (.object "java/lang/String") }, accessFlags := 1, code := some k5c2 }
/-- com/example/metasearchd/metasearchd/engine/EngineException -/
def k5 : Class := { plain "com/example/metasearchd/metasearchd/engine/EngineException" (some 4) with
  accessFlags := 33
  interfaces := #[]
  cf := some (fileOf pool5 8 #[] #[{ accessFlags := 2, nameIndex := 5, descriptorIndex := 19, attributes := #[] }, { accessFlags := 9, nameIndex := 65, descriptorIndex := 66, attributes := #[] }, { accessFlags := 1, nameIndex := 11, descriptorIndex := 45, attributes := #[] }] 33 2 #[] #[{ accessFlags := 26, nameIndex := 56, descriptorIndex := 57, attributes := #[] }, { accessFlags := 18, nameIndex := 11, descriptorIndex := 12, attributes := #[] }])
  fields := #[{ name := "serialVersionUID", type := .long, accessFlags := 26, slot := 0, constantValue := 0 }, { name := "reason", type := (.object "java/lang/String"), accessFlags := 18, slot := 6, constantValue := 0 }]
  methods := #[k5m0, k5m1, k5m2]
  instanceTypes := #[(.object "java/lang/Object"), (.object "java/lang/String"), (.object "java/lang/Throwable"), (.array (.object "java/lang/StackTraceElement")), .int, (.object "java/util/List"), (.object "java/lang/String")]
  staticTypes := #[.long]
  resolved := Array.replicate 71 none
  statics := none }

def pool6 : Array CpInfo := pool [(1, .class_ 2), (0, u "java/lang/Appendable"), (0, .class_ 4), (0, u "java/lang/Object")] 9

/-- java/lang/Appendable -/
def k6 : Class := { plain "java/lang/Appendable" (some 0) with
  accessFlags := 1537
  interfaces := #[]
  cf := some (fileOf pool6 1 #[] #[] 1537 3 #[] #[])
  fields := #[]
  methods := #[]
  instanceTypes := #[]
  staticTypes := #[]
  resolved := Array.replicate 14 none
  statics := none }

def pool7 : Array CpInfo := pool [(2, .class_ 4), (1, u "java/lang/CharSequence"), (42, .class_ 48), (0, u "java/lang/CharSequence$1CodePointIterator"), (10, .class_ 60), (0, u "java/lang/CharSequence$1CharIterator"), (5, .class_ 67), (0, u "java/lang/Object")] 63

/-- java/lang/CharSequence -/
def k7 : Class := { plain "java/lang/CharSequence" (some 0) with
  accessFlags := 1537
  interfaces := #[]
  cf := some (fileOf pool7 2 #[.nestMembers #[47, 59]] #[] 1537 66 #[] #[])
  fields := #[]
  methods := #[]
  instanceTypes := #[]
  staticTypes := #[]
  resolved := Array.replicate 131 none
  statics := none }

def pool8 : Array CpInfo := pool [(1, .class_ 2), (0, u "java/lang/String"), (0, .methodref 4 5), (0, .class_ 6), (0, .nameAndType 7 8), (0, u "java/lang/Object"), (0, u "<init>"), (0, u "()V"), (1, .class_ 12), (1, u "java/lang/AbstractStringBuilder"), (0, u "EMPTYVALUE"), (0, u "[B"), (0, .fieldref 10 16), (0, .nameAndType 17 14), (0, u "value"), (0, .fieldref 1 19), (0, .nameAndType 20 21), (0, u "COMPACT_STRINGS"), (0, u "Z"), (0, .fieldref 10 23), (0, .nameAndType 24 25), (0, u "coder"), (0, u "B"), (6, .methodref 1 33), (0, .nameAndType 34 35), (0, u "length"), (0, u "()I"), (0, .class_ 37), (0, u "java/lang/Integer"), (1, .integer 2147483647), (0, .methodref 1 41), (0, .nameAndType 24 42), (0, u "()B"), (2, u "append"), (0, u "(Ljava/lang/String;)Ljava/lang/AbstractStringBuilder;"), (1, .class_ 49), (0, u "java/lang/CharSequence"), (19, u "(Ljava/lang/String;)V"), (5, u "maybeLatin1"), (3, .fieldref 10 80), (0, .nameAndType 81 82), (0, u "count"), (0, u "I"), (0, .methodref 10 84), (0, .nameAndType 85 86), (0, u "isLatin1"), (0, u "()Z"), (13, .methodref 10 101), (0, .nameAndType 102 103), (0, u "ensureCapacityInternal"), (0, u "(I)V"), (0, .methodref 10 105), (0, .nameAndType 106 107), (0, u "newCapacity"), (0, u "(I)I"), (0, .methodref 109 110), (0, .class_ 111), (0, .nameAndType 112 113), (0, u "java/util/Arrays"), (0, u "copyOf"), (0, u "([BI)[B"), (0, .methodref 115 116), (0, .class_ 117), (0, .nameAndType 118 119), (0, u "jdk/internal/util/ArraysSupport"), (0, u "newLength"), (0, u "(III)I"), (68, u "getChars"), (19, .methodref 10 209), (0, .nameAndType 210 211), (0, u "putStringAt"), (0, u "(ILjava/lang/String;)V"), (5, u "inflateIfNeededFor"), (2, .nameAndType 221 222), (0, u "getBytes"), (0, u "([BIB)V"), (22, .methodref 36 246), (0, .nameAndType 247 107), (0, u "stringSize"), (0, .methodref 36 249), (0, .nameAndType 188 250), (0, u "(II[B)I"), (146, .methodref 10 398), (0, .nameAndType 217 69), (0, .methodref 1 220), (3, u "()[B"), (40, .class_ 445), (0, u "java/lang/Appendable"), (65, u "(I)Ljava/lang/AbstractStringBuilder;"), (40, u "getValue")] 56

def k8m0 : Method := { name := "<init>", desc := "()V", sig := { parameters := [], returnType := none }, accessFlags := 0, code := none }
def k8c1 : Code := { maxStack := 2, maxLocals := 2, code := jdk_68_method_2_code, exceptionTable := #[], attributes := #[] }
def k8m1 : Method := { name := "<init>", desc := "(I)V", sig := { parameters := [.int], returnType := none }, accessFlags := 0, code := some k8c1 }
def k8c2 : Code := { maxStack := 1, maxLocals := 1, code := jdk_68_method_6_code, exceptionTable := #[], attributes := #[] }
def k8m2 : Method := { name := "length", desc := "()I", sig := { parameters := [], returnType := some .int }, accessFlags := 1, code := some k8c2 }
def k8c3 : Code := { maxStack := 4, maxLocals := 3, code := jdk_68_method_9_code, exceptionTable := #[], attributes := #[] }
def k8m3 : Method := { name := "ensureCapacityInternal", desc := "(I)V", sig := { parameters := [.int], returnType := none }, accessFlags := 2, code := some k8c3 }
def k8c4 : Code := { maxStack := 5, maxLocals := 6, code := jdk_68_method_10_code, exceptionTable := #[], attributes := #[] }
def k8m4 : Method := { name := "newCapacity", desc := "(I)I", sig := { parameters := [.int], returnType := some .int }, accessFlags := 2, code := some k8c4 }
def k8c5 : Code := { maxStack := 3, maxLocals := 3, code := jdk_68_method_22_code, exceptionTable := #[], attributes := #[] }
def k8m5 : Method := { name := "append", desc := "(Ljava/lang/String;)Ljava/lang/AbstractStringBuilder;", sig := { parameters := [(.object "java/lang/String")], returnType := some (.object "java/lang/AbstractStringBuilder") }, accessFlags := 1, code := some k8c5 }
def k8c6 : Code := { maxStack := 4, maxLocals := 4, code := jdk_68_method_32_code, exceptionTable := #[], attributes := #[] }
def k8m6 : Method := { name := "append", desc := "(I)Ljava/lang/AbstractStringBuilder;", sig := { parameters := [.int], returnType := some (.object "java/lang/AbstractStringBuilder") }, accessFlags := 1, code := some k8c6 }
def k8c7 : Code := { maxStack := 1, maxLocals := 1, code := jdk_68_method_64_code, exceptionTable := #[], attributes := #[] }
def k8m7 : Method := { name := "getValue", desc := "()[B", sig := { parameters := [], returnType := some (.array .byte) }, accessFlags := 16, code := some k8c7 }
def k8c8 : Code := { maxStack := 1, maxLocals := 1, code := jdk_68_method_68_code, exceptionTable := #[], attributes := #[] }
def k8m8 : Method := { name := "isLatin1", desc := "()Z", sig := { parameters := [], returnType := some .boolean }, accessFlags := 16, code := some k8c8 }
def k8c9 : Code := { maxStack := 2, maxLocals := 2, code := jdk_68_method_71_code, exceptionTable := #[], attributes := #[] }
def k8m9 : Method := { name := "inflateIfNeededFor", desc := "(Ljava/lang/String;)V", sig := { parameters := [(.object "java/lang/String")], returnType := none }, accessFlags := 2, code := some k8c9 }
def k8c10 : Code := { maxStack := 4, maxLocals := 3, code := jdk_68_method_73_code, exceptionTable := #[], attributes := #[] }
def k8m10 : Method := { name := "putStringAt", desc := "(ILjava/lang/String;)V", sig := { parameters := [.int, (.object "java/lang/String")], returnType := none }, accessFlags := 2, code := some k8c10 }
/-- java/lang/AbstractStringBuilder -/
def k8 : Class := { plain "java/lang/AbstractStringBuilder" (some 0) with
  accessFlags := 1056
  interfaces := #[6, 7]
  cf := some (fileOf pool8 10 #[] #[{ accessFlags := 0, nameIndex := 7, descriptorIndex := 8, attributes := #[] }, { accessFlags := 0, nameIndex := 7, descriptorIndex := 103, attributes := #[] }, { accessFlags := 1, nameIndex := 34, descriptorIndex := 35, attributes := #[] }, { accessFlags := 2, nameIndex := 102, descriptorIndex := 103, attributes := #[] }, { accessFlags := 2, nameIndex := 106, descriptorIndex := 107, attributes := #[] }, { accessFlags := 1, nameIndex := 45, descriptorIndex := 46, attributes := #[] }, { accessFlags := 1, nameIndex := 45, descriptorIndex := 511, attributes := #[] }, { accessFlags := 16, nameIndex := 552, descriptorIndex := 403, attributes := #[] }, { accessFlags := 16, nameIndex := 85, descriptorIndex := 86, attributes := #[] }, { accessFlags := 2, nameIndex := 217, descriptorIndex := 69, attributes := #[] }, { accessFlags := 2, nameIndex := 210, descriptorIndex := 211, attributes := #[] }] 1056 4 #[444, 48] #[{ accessFlags := 0, nameIndex := 17, descriptorIndex := 14, attributes := #[] }, { accessFlags := 0, nameIndex := 24, descriptorIndex := 25, attributes := #[] }, { accessFlags := 0, nameIndex := 75, descriptorIndex := 21, attributes := #[] }, { accessFlags := 0, nameIndex := 81, descriptorIndex := 82, attributes := #[] }, { accessFlags := 26, nameIndex := 13, descriptorIndex := 14, attributes := #[] }])
  fields := #[{ name := "value", type := (.array .byte), accessFlags := 0, slot := 0, constantValue := 0 }, { name := "coder", type := .byte, accessFlags := 0, slot := 1, constantValue := 0 }, { name := "maybeLatin1", type := .boolean, accessFlags := 0, slot := 2, constantValue := 0 }, { name := "count", type := .int, accessFlags := 0, slot := 3, constantValue := 0 }, { name := "EMPTYVALUE", type := (.array .byte), accessFlags := 26, slot := 0, constantValue := 0 }]
  methods := #[k8m0, k8m1, k8m2, k8m3, k8m4, k8m5, k8m6, k8m7, k8m8, k8m9, k8m10]
  instanceTypes := #[(.array .byte), .byte, .boolean, .int]
  staticTypes := #[(.array .byte)]
  resolved := Array.replicate 609 none
  statics := none }

def pool9 : Array CpInfo := pool [(1, .class_ 2), (0, u "java/lang/Comparable"), (0, .class_ 4), (0, u "java/lang/Object")] 7

/-- java/lang/Comparable -/
def k9 : Class := { plain "java/lang/Comparable" (some 0) with
  accessFlags := 1537
  interfaces := #[]
  cf := some (fileOf pool9 1 #[] #[] 1537 3 #[] #[])
  fields := #[]
  methods := #[]
  instanceTypes := #[]
  staticTypes := #[]
  resolved := Array.replicate 12 none
  statics := none }

def pool10 : Array CpInfo := pool [(1, .methodref 2 3), (0, .class_ 4), (0, .nameAndType 5 6), (0, u "java/lang/AbstractStringBuilder"), (0, u "<init>"), (0, u "(I)V"), (11, .class_ 20), (1, u "java/lang/String"), (3, .class_ 26), (1, u "java/lang/StringBuilder"), (0, u "append"), (0, u "(Ljava/lang/String;)Ljava/lang/StringBuilder;"), (0, .methodref 2 30), (0, .nameAndType 27 31), (0, u "(Ljava/lang/String;)Ljava/lang/AbstractStringBuilder;"), (21, .methodref 2 54), (0, .nameAndType 27 55), (0, u "(I)Ljava/lang/AbstractStringBuilder;"), (81, .methodref 18 138), (0, .nameAndType 5 139), (0, u "(Ljava/lang/StringBuilder;)V"), (5, u "()V"), (10, u "()I"), (111, u "(I)Ljava/lang/StringBuilder;"), (74, .methodref 2 344), (0, .nameAndType 345 156), (0, u "length"), (3, .class_ 350), (0, u "java/lang/Appendable"), (0, .class_ 352), (0, u "java/io/Serializable"), (0, .class_ 354), (0, u "java/lang/Comparable"), (0, .class_ 356), (0, u "java/lang/CharSequence"), (0, u "serialVersionUID"), (0, u "J"), (40, u "toString"), (0, u "()Ljava/lang/String;")] 21

def k10c0 : Code := { maxStack := 2, maxLocals := 1, code := jdk_67_method_1_code, exceptionTable := #[], attributes := #[] }
def k10m0 : Method := { name := "<init>", desc := "()V", sig := { parameters := [], returnType := none }, accessFlags := 1, code := some k10c0 }
def k10c1 : Code := { maxStack := 2, maxLocals := 2, code := jdk_67_method_7_code, exceptionTable := #[], attributes := #[] }
def k10m1 : Method := { name := "append", desc := "(Ljava/lang/String;)Ljava/lang/StringBuilder;", sig := { parameters := [(.object "java/lang/String")], returnType := some (.object "java/lang/StringBuilder") }, accessFlags := 1, code := some k10c1 }
def k10c2 : Code := { maxStack := 2, maxLocals := 2, code := jdk_67_method_15_code, exceptionTable := #[], attributes := #[] }
def k10m2 : Method := { name := "append", desc := "(I)Ljava/lang/StringBuilder;", sig := { parameters := [.int], returnType := some (.object "java/lang/StringBuilder") }, accessFlags := 1, code := some k10c2 }
def k10c3 : Code := { maxStack := 3, maxLocals := 1, code := jdk_67_method_42_code, exceptionTable := #[], attributes := #[] }
def k10m3 : Method := { name := "toString", desc := "()Ljava/lang/String;", sig := { parameters := [], returnType := some (.object "java/lang/String") }, accessFlags := 1, code := some k10c3 }
def k10c4 : Code := { maxStack := 1, maxLocals := 1, code := jdk_67_method_93_code, exceptionTable := #[], attributes := #[] }
def k10m4 : Method := { name := "length", desc := "()I", sig := { parameters := [], returnType := some .int }, accessFlags := 4161, code := some k10c4 }
/-- java/lang/StringBuilder -/
def k10 : Class := { plain "java/lang/StringBuilder" (some 8) with
  accessFlags := 49
  interfaces := #[6, 2, 9, 7]
  cf := some (fileOf pool10 24 #[] #[{ accessFlags := 1, nameIndex := 5, descriptorIndex := 145, attributes := #[] }, { accessFlags := 1, nameIndex := 27, descriptorIndex := 28, attributes := #[] }, { accessFlags := 1, nameIndex := 27, descriptorIndex := 268, attributes := #[] }, { accessFlags := 1, nameIndex := 399, descriptorIndex := 400, attributes := #[] }, { accessFlags := 4161, nameIndex := 345, descriptorIndex := 156, attributes := #[] }] 49 2 #[349, 351, 353, 355] #[{ accessFlags := 24, nameIndex := 357, descriptorIndex := 358, attributes := #[] }])
  fields := #[{ name := "serialVersionUID", type := .long, accessFlags := 24, slot := 0, constantValue := 0 }]
  methods := #[k10m0, k10m1, k10m2, k10m3, k10m4]
  instanceTypes := #[(.array .byte), .byte, .boolean, .int]
  staticTypes := #[.long]
  resolved := Array.replicate 422 none
  statics := none }

def pool11 : Array CpInfo := pool [(1, .class_ 2), (0, u "java/lang/constant/Constable"), (0, .class_ 4), (0, u "java/lang/Object")] 6

/-- java/lang/constant/Constable -/
def k11 : Class := { plain "java/lang/constant/Constable" (some 0) with
  accessFlags := 1537
  interfaces := #[]
  cf := some (fileOf pool11 1 #[] #[] 1537 3 #[] #[])
  fields := #[]
  methods := #[]
  instanceTypes := #[]
  staticTypes := #[]
  resolved := Array.replicate 11 none
  statics := none }

def pool12 : Array CpInfo := pool [(1, .class_ 2), (0, u "java/lang/constant/ConstantDesc"), (0, .class_ 4), (0, u "java/lang/Object")] 32

/-- java/lang/constant/ConstantDesc -/
def k12 : Class := { plain "java/lang/constant/ConstantDesc" (some 0) with
  accessFlags := 1537
  interfaces := #[]
  cf := some (fileOf pool12 1 #[] #[] 1537 3 #[] #[])
  fields := #[]
  methods := #[]
  instanceTypes := #[]
  staticTypes := #[]
  resolved := Array.replicate 37 none
  statics := none }

def pool13 : Array CpInfo := pool [(1, .methodref 2 3), (0, .class_ 4), (0, .nameAndType 5 6), (0, u "java/lang/Object"), (0, u "<init>"), (0, u "()V"), (2, .fieldref 10 11), (0, .class_ 12), (0, .nameAndType 13 14), (0, u "java/lang/String"), (0, u "value"), (0, u "[B"), (0, .fieldref 10 16), (0, .nameAndType 17 18), (0, u "coder"), (0, u "B"), (2, u "hash"), (0, u "I"), (2, u "hashIsZero"), (0, u "Z"), (11, .fieldref 10 39), (0, .nameAndType 40 26), (0, u "COMPACT_STRINGS"), (13, .methodref 55 56), (0, .class_ 57), (0, .nameAndType 58 59), (0, u "java/util/Arrays"), (0, u "copyOfRange"), (0, u "([BII)[B"), (47, .class_ 109), (1, u "java/lang/StringLatin1"), (32, u "()Z"), (50, .class_ 195), (1, u "java/lang/System"), (16, .methodref 193 213), (0, .nameAndType 214 215), (0, u "arraycopy"), (0, u "(Ljava/lang/Object;ILjava/lang/Object;II)V"), (118, u "()I"), (0, .methodref 10 336), (0, .nameAndType 17 337), (0, u "()B"), (2, u "()[B"), (22, u "([BI)C"), (27, u "(II)V"), (35, u "(I)C"), (61, .methodref 10 490), (0, .nameAndType 5 491), (0, u "(Ljava/lang/AbstractStringBuilder;Ljava/lang/Void;)V"), (0, .methodref 10 493), (0, .nameAndType 494 142), (0, u "isLatin1"), (0, .methodref 107 496), (0, .nameAndType 497 363), (0, u "charAt"), (3, u "checkIndex"), (4, .nameAndType 507 334), (0, u "length"), (24, u "getBytes"), (16, .methodref 550 506), (0, .class_ 551), (0, u "java/lang/AbstractStringBuilder"), (0, .methodref 550 553), (0, .nameAndType 554 340), (0, u "getValue"), (20, .class_ 576), (0, u "java/lang/CharSequence"), (22, u "CASE_INSENSITIVE_ORDER"), (0, u "Ljava/util/Comparator;"), (220, u "([BIB)V"), (225, .methodref 550 493), (5, .fieldref 1054 1055), (0, .class_ 1056), (0, .nameAndType 1057 1058), (0, u "jdk/internal/util/Preconditions"), (0, u "SIOOBE_FORMATTER"), (0, u "Ljava/util/function/BiFunction;"), (0, .methodref 1054 1060), (0, .nameAndType 501 1061), (0, u "(IILjava/util/function/BiFunction;)I"), (39, u "serialPersistentFields"), (0, u "[Ljava/io/ObjectStreamField;"), (0, .class_ 1104), (0, u "java/lang/String$CaseInsensitiveComparator"), (1, .class_ 1107), (0, u "java/io/Serializable"), (0, .class_ 1109), (0, u "java/lang/Comparable"), (0, .class_ 1111), (0, u "java/lang/constant/Constable"), (0, .class_ 1113), (0, u "java/lang/constant/ConstantDesc"), (2, u "serialVersionUID"), (0, u "J"), (3, u "REPL"), (0, u "C"), (2, u "LATIN1"), (1, u "UTF16"), (105, u "(Ljava/lang/StringBuilder;)V")] 217

def k13m0 : Method := { name := "<init>", desc := "()V", sig := { parameters := [], returnType := none }, accessFlags := 1, code := none }
def k13c1 : Code := { maxStack := 3, maxLocals := 2, code := jdk_42_method_53_code, exceptionTable := #[], attributes := #[] }
def k13m1 : Method := { name := "<init>", desc := "(Ljava/lang/StringBuilder;)V", sig := { parameters := [(.object "java/lang/StringBuilder")], returnType := none }, accessFlags := 1, code := some k13c1 }
def k13c2 : Code := { maxStack := 2, maxLocals := 1, code := jdk_42_method_54_code, exceptionTable := #[], attributes := #[] }
def k13m2 : Method := { name := "length", desc := "()I", sig := { parameters := [], returnType := some .int }, accessFlags := 1, code := some k13c2 }
def k13c3 : Code := { maxStack := 2, maxLocals := 2, code := jdk_42_method_56_code, exceptionTable := #[], attributes := #[] }
def k13m3 : Method := { name := "charAt", desc := "(I)C", sig := { parameters := [.int], returnType := some .char }, accessFlags := 1, code := some k13c3 }
def k13c4 : Code := { maxStack := 5, maxLocals := 4, code := jdk_42_method_147_code, exceptionTable := #[], attributes := #[] }
def k13m4 : Method := { name := "getBytes", desc := "([BIB)V", sig := { parameters := [(.array .byte), .int, .byte], returnType := none }, accessFlags := 0, code := some k13c4 }
def k13c5 : Code := { maxStack := 5, maxLocals := 5, code := jdk_42_method_150_code, exceptionTable := #[], attributes := #[] }
def k13m5 : Method := { name := "<init>", desc := "(Ljava/lang/AbstractStringBuilder;Ljava/lang/Void;)V", sig := { parameters := [(.object "java/lang/AbstractStringBuilder"), (.object "java/lang/Void")], returnType := none }, accessFlags := 0, code := some k13c5 }
def k13c6 : Code := { maxStack := 1, maxLocals := 1, code := jdk_42_method_152_code, exceptionTable := #[], attributes := #[] }
def k13m6 : Method := { name := "coder", desc := "()B", sig := { parameters := [], returnType := some .byte }, accessFlags := 0, code := some k13c6 }
def k13c7 : Code := { maxStack := 1, maxLocals := 1, code := jdk_42_method_154_code, exceptionTable := #[], attributes := #[] }
def k13m7 : Method := { name := "isLatin1", desc := "()Z", sig := { parameters := [], returnType := some .boolean }, accessFlags := 0, code := some k13c7 }
def k13c8 : Code := { maxStack := 3, maxLocals := 2, code := jdk_42_method_155_code, exceptionTable := #[], attributes := #[] }
def k13m8 : Method := { name := "checkIndex", desc := "(II)V", sig := { parameters := [.int, .int], returnType := none }, accessFlags := 8, code := some k13c8 }
/-- java/lang/String -/
def k13 : Class := { plain "java/lang/String" (some 0) with
  accessFlags := 49
  interfaces := #[2, 9, 7, 11, 12]
  cf := some (fileOf pool13 10 #[.nestMembers #[1103]] #[{ accessFlags := 1, nameIndex := 5, descriptorIndex := 6, attributes := #[] }, { accessFlags := 1, nameIndex := 5, descriptorIndex := 1233, attributes := #[] }, { accessFlags := 1, nameIndex := 507, descriptorIndex := 334, attributes := #[] }, { accessFlags := 1, nameIndex := 497, descriptorIndex := 427, attributes := #[] }, { accessFlags := 0, nameIndex := 532, descriptorIndex := 821, attributes := #[] }, { accessFlags := 0, nameIndex := 5, descriptorIndex := 491, attributes := #[] }, { accessFlags := 0, nameIndex := 17, descriptorIndex := 337, attributes := #[] }, { accessFlags := 0, nameIndex := 494, descriptorIndex := 142, attributes := #[] }, { accessFlags := 8, nameIndex := 501, descriptorIndex := 391, attributes := #[] }] 49 2 #[1106, 1108, 575, 1110, 1112] #[{ accessFlags := 18, nameIndex := 13, descriptorIndex := 14, attributes := #[] }, { accessFlags := 18, nameIndex := 17, descriptorIndex := 18, attributes := #[] }, { accessFlags := 2, nameIndex := 21, descriptorIndex := 22, attributes := #[] }, { accessFlags := 2, nameIndex := 25, descriptorIndex := 26, attributes := #[] }, { accessFlags := 26, nameIndex := 1116, descriptorIndex := 1117, attributes := #[] }, { accessFlags := 24, nameIndex := 40, descriptorIndex := 26, attributes := #[] }, { accessFlags := 26, nameIndex := 1101, descriptorIndex := 1102, attributes := #[] }, { accessFlags := 26, nameIndex := 1121, descriptorIndex := 1122, attributes := #[] }, { accessFlags := 25, nameIndex := 599, descriptorIndex := 600, attributes := #[] }, { accessFlags := 24, nameIndex := 1125, descriptorIndex := 18, attributes := #[] }, { accessFlags := 24, nameIndex := 1127, descriptorIndex := 18, attributes := #[] }])
  fields := #[{ name := "value", type := (.array .byte), accessFlags := 18, slot := 0, constantValue := 0 }, { name := "coder", type := .byte, accessFlags := 18, slot := 1, constantValue := 0 }, { name := "hash", type := .int, accessFlags := 2, slot := 2, constantValue := 0 }, { name := "hashIsZero", type := .boolean, accessFlags := 2, slot := 3, constantValue := 0 }, { name := "serialVersionUID", type := .long, accessFlags := 26, slot := 0, constantValue := 0 }, { name := "COMPACT_STRINGS", type := .boolean, accessFlags := 24, slot := 1, constantValue := 0 }, { name := "serialPersistentFields", type := (.array (.object "java/io/ObjectStreamField")), accessFlags := 26, slot := 2, constantValue := 0 }, { name := "REPL", type := .char, accessFlags := 26, slot := 3, constantValue := 0 }, { name := "CASE_INSENSITIVE_ORDER", type := (.object "java/util/Comparator"), accessFlags := 25, slot := 4, constantValue := 0 }, { name := "LATIN1", type := .byte, accessFlags := 24, slot := 5, constantValue := 0 }, { name := "UTF16", type := .byte, accessFlags := 24, slot := 6, constantValue := 0 }]
  methods := #[k13m0, k13m1, k13m2, k13m3, k13m4, k13m5, k13m6, k13m7, k13m8]
  instanceTypes := #[(.array .byte), .byte, .int, .boolean]
  staticTypes := #[.long, .boolean, (.array (.object "java/io/ObjectStreamField")), .char, (.object "java/util/Comparator"), .byte, .byte]
  resolved := Array.replicate 1451 none
  statics := some 1 }

def pool14 : Array CpInfo := pool [(2, .class_ 4), (1, u "java/lang/Object"), (0, u "<init>"), (0, u "()V"), (1, .class_ 10), (1, u "java/lang/System"), (0, u "allowSecurityManager"), (0, u "I"), (16, u "cons"), (0, u "Ljava/io/Console;"), (77, .class_ 110), (1, u "java/lang/System$CallersHolder"), (43, u "initialErrStream"), (0, u "Ljava/io/PrintStream;"), (19, u "security"), (0, u "Ljava/lang/SecurityManager;"), (31, .class_ 209), (0, u "java/lang/System$1"), (7, u "props"), (0, u "Ljava/util/Properties;"), (2, u "lineSeparator"), (0, u "Ljava/lang/String;"), (96, .class_ 321), (1, u "java/lang/System$LoggerFinder"), (5, .class_ 328), (0, u "java/lang/System$Logger"), (67, u "err"), (2, u "out"), (91, u "notSupportedJnuEncoding"), (15, u "in"), (17, u "initialIn"), (0, u "Ljava/io/InputStream;"), (35, u "bootLayer"), (0, u "Ljava/lang/ModuleLayer;"), (99, .class_ 664), (0, u "java/lang/System$2"), (9, u "NEVER"), (2, u "MAYBE"), (49, u "arraycopy"), (0, u "(Ljava/lang/Object;ILjava/lang/Object;II)V"), (72, .class_ 802), (0, u "java/lang/System$Logger$Level")] 31

def k14m0 : Method := { name := "<init>", desc := "()V", sig := { parameters := [], returnType := none }, accessFlags := 2, code := none }
def k14m1 : Method := { name := "arraycopy", desc := "(Ljava/lang/Object;ILjava/lang/Object;II)V", sig := { parameters := [(.object "java/lang/Object"), .int, (.object "java/lang/Object"), .int, .int], returnType := none }, accessFlags := 265, code := none }
/-- java/lang/System -/
def k14 : Class := { plain "java/lang/System" (some 0) with
  accessFlags := 49
  interfaces := #[]
  cf := some (fileOf pool14 8 #[.nestMembers #[319, 327, 801, 108, 663, 208]] #[{ accessFlags := 2, nameIndex := 5, descriptorIndex := 6, attributes := #[] }, { accessFlags := 265, nameIndex := 727, descriptorIndex := 728, attributes := #[] }] 49 2 #[] #[{ accessFlags := 25, nameIndex := 507, descriptorIndex := 526, attributes := #[] }, { accessFlags := 25, nameIndex := 399, descriptorIndex := 155, attributes := #[] }, { accessFlags := 25, nameIndex := 396, descriptorIndex := 155, attributes := #[] }, { accessFlags := 10, nameIndex := 525, descriptorIndex := 526, attributes := #[] }, { accessFlags := 26, nameIndex := 674, descriptorIndex := 12, attributes := #[] }, { accessFlags := 26, nameIndex := 677, descriptorIndex := 12, attributes := #[] }, { accessFlags := 10, nameIndex := 11, descriptorIndex := 12, attributes := #[] }, { accessFlags := 74, nameIndex := 175, descriptorIndex := 176, attributes := #[] }, { accessFlags := 10, nameIndex := 491, descriptorIndex := 222, attributes := #[] }, { accessFlags := 74, nameIndex := 29, descriptorIndex := 30, attributes := #[] }, { accessFlags := 74, nameIndex := 154, descriptorIndex := 155, attributes := #[] }, { accessFlags := 10, nameIndex := 217, descriptorIndex := 218, attributes := #[] }, { accessFlags := 10, nameIndex := 221, descriptorIndex := 222, attributes := #[] }, { accessFlags := 8, nameIndex := 562, descriptorIndex := 563, attributes := #[] }])
  fields := #[{ name := "in", type := (.object "java/io/InputStream"), accessFlags := 25, slot := 0, constantValue := 0 }, { name := "out", type := (.object "java/io/PrintStream"), accessFlags := 25, slot := 1, constantValue := 0 }, { name := "err", type := (.object "java/io/PrintStream"), accessFlags := 25, slot := 2, constantValue := 0 }, { name := "initialIn", type := (.object "java/io/InputStream"), accessFlags := 10, slot := 3, constantValue := 0 }, { name := "NEVER", type := .int, accessFlags := 26, slot := 4, constantValue := 0 }, { name := "MAYBE", type := .int, accessFlags := 26, slot := 5, constantValue := 0 }, { name := "allowSecurityManager", type := .int, accessFlags := 10, slot := 6, constantValue := 0 }, { name := "security", type := (.object "java/lang/SecurityManager"), accessFlags := 74, slot := 7, constantValue := 0 }, { name := "notSupportedJnuEncoding", type := (.object "java/lang/String"), accessFlags := 10, slot := 8, constantValue := 0 }, { name := "cons", type := (.object "java/io/Console"), accessFlags := 74, slot := 9, constantValue := 0 }, { name := "initialErrStream", type := (.object "java/io/PrintStream"), accessFlags := 74, slot := 10, constantValue := 0 }, { name := "props", type := (.object "java/util/Properties"), accessFlags := 10, slot := 11, constantValue := 0 }, { name := "lineSeparator", type := (.object "java/lang/String"), accessFlags := 10, slot := 12, constantValue := 0 }, { name := "bootLayer", type := (.object "java/lang/ModuleLayer"), accessFlags := 8, slot := 13, constantValue := 0 }]
  methods := #[k14m0, k14m1]
  instanceTypes := #[]
  staticTypes := #[(.object "java/io/InputStream"), (.object "java/io/PrintStream"), (.object "java/io/PrintStream"), (.object "java/io/InputStream"), .int, .int, .int, (.object "java/lang/SecurityManager"), (.object "java/lang/String"), (.object "java/io/Console"), (.object "java/io/PrintStream"), (.object "java/util/Properties"), (.object "java/lang/String"), (.object "java/lang/ModuleLayer")]
  resolved := Array.replicate 834 none
  statics := none }

def pool15 : Array CpInfo := pool [(2, .class_ 4), (1, u "java/lang/Object"), (0, u "<init>"), (0, u "()V"), (1, .class_ 10), (1, u "java/lang/Number"), (2, .class_ 14), (0, u "java/io/Serializable"), (0, u "serialVersionUID"), (0, u "J")] 20

def k15m0 : Method := { name := "<init>", desc := "()V", sig := { parameters := [], returnType := none }, accessFlags := 1, code := none }
/-- java/lang/Number -/
def k15 : Class := { plain "java/lang/Number" (some 0) with
  accessFlags := 1057
  interfaces := #[2]
  cf := some (fileOf pool15 8 #[] #[{ accessFlags := 1, nameIndex := 5, descriptorIndex := 6, attributes := #[] }] 1057 2 #[13] #[{ accessFlags := 26, nameIndex := 15, descriptorIndex := 16, attributes := #[] }])
  fields := #[{ name := "serialVersionUID", type := .long, accessFlags := 26, slot := 0, constantValue := 0 }]
  methods := #[k15m0]
  instanceTypes := #[]
  staticTypes := #[.long]
  resolved := Array.replicate 37 none
  statics := none }

def pool16 : Array CpInfo := pool [(1, .class_ 2), (0, u "java/lang/Integer"), (16, u "digits"), (0, u "[C"), (33, u "(I)I"), (19, u "stringSize"), (2, u "getChars"), (0, u "(II[B)I"), (4, .fieldref 1 84), (0, .nameAndType 85 86), (0, u "DigitOnes"), (0, u "[B"), (0, .fieldref 1 88), (0, .nameAndType 89 86), (0, u "DigitTens"), (99, .class_ 190), (0, u "java/lang/Integer$IntegerCache"), (3, u "I"), (8, .class_ 204), (0, u "java/lang/Number"), (2, u "value"), (94, u "TYPE"), (0, u "Ljava/lang/Class;"), (0, .class_ 305), (0, u "java/lang/Comparable"), (0, .class_ 307), (0, u "java/lang/constant/Constable"), (0, .class_ 309), (0, u "java/lang/constant/ConstantDesc"), (0, u "MIN_VALUE"), (1, u "MAX_VALUE"), (3, u "SIZE"), (1, u "BYTES"), (1, u "serialVersionUID"), (0, u "J")] 131

def k16c0 : Code := { maxStack := 4, maxLocals := 7, code := jdk_33_method_12_code, exceptionTable := #[], attributes := #[] }
def k16m0 : Method := { name := "getChars", desc := "(II[B)I", sig := { parameters := [.int, .int, (.array .byte)], returnType := some .int }, accessFlags := 8, code := some k16c0 }
def k16c1 : Code := { maxStack := 2, maxLocals := 4, code := jdk_33_method_13_code, exceptionTable := #[], attributes := #[] }
def k16m1 : Method := { name := "stringSize", desc := "(I)I", sig := { parameters := [.int], returnType := some .int }, accessFlags := 8, code := some k16c1 }
/-- java/lang/Integer -/
def k16 : Class := { plain "java/lang/Integer" (some 15) with
  accessFlags := 49
  interfaces := #[9, 11, 12]
  cf := some (fileOf pool16 1 #[.nestMembers #[189]] #[{ accessFlags := 8, nameIndex := 77, descriptorIndex := 78, attributes := #[] }, { accessFlags := 8, nameIndex := 74, descriptorIndex := 54, attributes := #[] }] 49 203 #[304, 306, 308] #[{ accessFlags := 25, nameIndex := 310, descriptorIndex := 194, attributes := #[] }, { accessFlags := 25, nameIndex := 312, descriptorIndex := 194, attributes := #[] }, { accessFlags := 25, nameIndex := 302, descriptorIndex := 303, attributes := #[] }, { accessFlags := 24, nameIndex := 19, descriptorIndex := 20, attributes := #[] }, { accessFlags := 24, nameIndex := 89, descriptorIndex := 86, attributes := #[] }, { accessFlags := 24, nameIndex := 85, descriptorIndex := 86, attributes := #[] }, { accessFlags := 18, nameIndex := 207, descriptorIndex := 194, attributes := #[] }, { accessFlags := 25, nameIndex := 316, descriptorIndex := 194, attributes := #[] }, { accessFlags := 25, nameIndex := 318, descriptorIndex := 194, attributes := #[] }, { accessFlags := 26, nameIndex := 320, descriptorIndex := 321, attributes := #[] }])
  fields := #[{ name := "MIN_VALUE", type := .int, accessFlags := 25, slot := 0, constantValue := 0 }, { name := "MAX_VALUE", type := .int, accessFlags := 25, slot := 1, constantValue := 0 }, { name := "TYPE", type := (.object "java/lang/Class"), accessFlags := 25, slot := 2, constantValue := 0 }, { name := "digits", type := (.array .char), accessFlags := 24, slot := 3, constantValue := 0 }, { name := "DigitTens", type := (.array .byte), accessFlags := 24, slot := 4, constantValue := 0 }, { name := "DigitOnes", type := (.array .byte), accessFlags := 24, slot := 5, constantValue := 0 }, { name := "value", type := .int, accessFlags := 18, slot := 0, constantValue := 0 }, { name := "SIZE", type := .int, accessFlags := 25, slot := 6, constantValue := 0 }, { name := "BYTES", type := .int, accessFlags := 25, slot := 7, constantValue := 0 }, { name := "serialVersionUID", type := .long, accessFlags := 26, slot := 8, constantValue := 0 }]
  methods := #[k16m0, k16m1]
  instanceTypes := #[.int]
  staticTypes := #[.int, .int, (.object "java/lang/Class"), (.array .char), (.array .byte), (.array .byte), .int, .int, .long]
  resolved := Array.replicate 453 none
  statics := some 2 }

def pool17 : Array CpInfo := pool [(2, .class_ 4), (1, u "java/lang/Object"), (0, u "<init>"), (0, u "()V"), (7, .class_ 16), (1, u "java/util/Arrays"), (57, .class_ 76), (1, u "java/util/Arrays$NaturalOrder"), (32, u "()Ljava/lang/Object;"), (3, .class_ 115), (1, u "java/util/Arrays$LegacyMergeSort"), (1, u "Z"), (10, .nameAndType 129 109), (0, u "clone"), (9, u "copyOfRange"), (10, .methodref 151 152), (0, .class_ 153), (0, .nameAndType 154 155), (0, u "java/lang/System"), (0, u "arraycopy"), (0, u "(Ljava/lang/Object;ILjava/lang/Object;II)V"), (146, u "copyOf"), (1, .methodref 305 306), (0, .class_ 307), (0, .nameAndType 308 309), (0, u "java/lang/Math"), (0, u "min"), (0, u "(II)I"), (0, .methodref 311 128), (0, .class_ 312), (0, u "[B"), (26, .methodref 14 340), (0, .nameAndType 341 342), (0, u "copyOfRangeByte"), (0, u "([BII)[B"), (0, .methodref 14 344), (0, .nameAndType 345 346), (0, u "checkLength"), (0, u "(II)V"), (28, .class_ 376), (0, u "java/util/Arrays$ArrayList"), (68, u "$assertionsDisabled"), (269, u "MIN_ARRAY_SORT_GRAN"), (0, u "I"), (2, u "INSERTIONSORT_THRESHOLD"), (149, u "([BI)[B"), (105, .class_ 976), (0, u "java/util/Arrays$ArrayItr")] 52

def k17m0 : Method := { name := "<init>", desc := "()V", sig := { parameters := [], returnType := none }, accessFlags := 2, code := none }
def k17c1 : Code := { maxStack := 6, maxLocals := 3, code := jdk_65_method_121_code, exceptionTable := #[], attributes := #[] }
def k17m1 : Method := { name := "copyOf", desc := "([BI)[B", sig := { parameters := [(.array .byte), .int], returnType := some (.array .byte) }, accessFlags := 9, code := some k17c1 }
def k17c2 : Code := { maxStack := 4, maxLocals := 2, code := jdk_65_method_131_code, exceptionTable := #[], attributes := #[] }
def k17m2 : Method := { name := "checkLength", desc := "(II)V", sig := { parameters := [.int, .int], returnType := none }, accessFlags := 10, code := some k17c2 }
def k17c3 : Code := { maxStack := 3, maxLocals := 3, code := jdk_65_method_132_code, exceptionTable := #[], attributes := #[] }
def k17m3 : Method := { name := "copyOfRange", desc := "([BII)[B", sig := { parameters := [(.array .byte), .int, .int], returnType := some (.array .byte) }, accessFlags := 9, code := some k17c3 }
def k17c4 : Code := { maxStack := 6, maxLocals := 5, code := jdk_65_method_133_code, exceptionTable := #[], attributes := #[] }
def k17m4 : Method := { name := "copyOfRangeByte", desc := "([BII)[B", sig := { parameters := [(.array .byte), .int, .int], returnType := some (.array .byte) }, accessFlags := 10, code := some k17c4 }
/-- java/util/Arrays -/
def k17 : Class := { plain "java/util/Arrays" (some 0) with
  accessFlags := 49
  interfaces := #[]
  cf := some (fileOf pool17 14 #[.nestMembers #[975, 375, 113, 74]] #[{ accessFlags := 2, nameIndex := 5, descriptorIndex := 6, attributes := #[] }, { accessFlags := 9, nameIndex := 302, descriptorIndex := 869, attributes := #[] }, { accessFlags := 10, nameIndex := 345, descriptorIndex := 346, attributes := #[] }, { accessFlags := 9, nameIndex := 139, descriptorIndex := 342, attributes := #[] }, { accessFlags := 10, nameIndex := 341, descriptorIndex := 342, attributes := #[] }] 49 2 #[] #[{ accessFlags := 26, nameIndex := 715, descriptorIndex := 716, attributes := #[] }, { accessFlags := 26, nameIndex := 719, descriptorIndex := 716, attributes := #[] }, { accessFlags := 4120, nameIndex := 445, descriptorIndex := 117, attributes := #[] }])
  fields := #[{ name := "MIN_ARRAY_SORT_GRAN", type := .int, accessFlags := 26, slot := 0, constantValue := 0 }, { name := "INSERTIONSORT_THRESHOLD", type := .int, accessFlags := 26, slot := 1, constantValue := 0 }, { name := "$assertionsDisabled", type := .boolean, accessFlags := 4120, slot := 2, constantValue := 0 }]
  methods := #[k17m0, k17m1, k17m2, k17m3, k17m4]
  instanceTypes := #[]
  staticTypes := #[.int, .int, .boolean]
  resolved := Array.replicate 1029 none
  statics := none }

def pool18 : Array CpInfo := pool [(1, .class_ 2), (0, u "java/lang/Math"), (1, .class_ 6), (1, u "java/lang/Object"), (0, u "<init>"), (0, u "()V"), (89, .class_ 100), (1, u "java/lang/Math$RandomNumberGeneratorHolder"), (23, u "abs"), (0, u "(J)J"), (46, u "negativeZeroFloatBits"), (0, u "J"), (2, u "negativeZeroDoubleBits"), (21, u "max"), (2, u "min"), (43, u "$assertionsDisabled"), (0, u "Z"), (88, u "(II)I"), (2, u "twoToTheDoubleScaleDown"), (0, u "D"), (4, u "twoToTheDoubleScaleUp"), (9, u "E"), (3, u "PI"), (2, u "TAU"), (2, u "DEGREES_TO_RADIANS"), (0, u "RADIANS_TO_DEGREES")] 94

def k18m0 : Method := { name := "<init>", desc := "()V", sig := { parameters := [], returnType := none }, accessFlags := 2, code := none }
def k18c1 : Code := { maxStack := 4, maxLocals := 2, code := jdk_29_method_61_code, exceptionTable := #[], attributes := #[] }
def k18m1 : Method := { name := "abs", desc := "(J)J", sig := { parameters := [.long], returnType := some .long }, accessFlags := 9, code := some k18c1 }
def k18c2 : Code := { maxStack := 2, maxLocals := 2, code := jdk_29_method_65_code, exceptionTable := #[], attributes := #[] }
def k18m2 : Method := { name := "max", desc := "(II)I", sig := { parameters := [.int, .int], returnType := some .int }, accessFlags := 9, code := some k18c2 }
def k18c3 : Code := { maxStack := 2, maxLocals := 2, code := jdk_29_method_69_code, exceptionTable := #[], attributes := #[] }
def k18m3 : Method := { name := "min", desc := "(II)I", sig := { parameters := [.int, .int], returnType := some .int }, accessFlags := 9, code := some k18c3 }
/-- java/lang/Math -/
def k18 : Class := { plain "java/lang/Math" (some 0) with
  accessFlags := 49
  interfaces := #[]
  cf := some (fileOf pool18 1 #[.nestMembers #[98]] #[{ accessFlags := 2, nameIndex := 7, descriptorIndex := 8, attributes := #[] }, { accessFlags := 9, nameIndex := 124, descriptorIndex := 125, attributes := #[] }, { accessFlags := 9, nameIndex := 198, descriptorIndex := 335, attributes := #[] }, { accessFlags := 9, nameIndex := 201, descriptorIndex := 335, attributes := #[] }] 49 4 #[] #[{ accessFlags := 25, nameIndex := 354, descriptorIndex := 339, attributes := #[] }, { accessFlags := 25, nameIndex := 358, descriptorIndex := 339, attributes := #[] }, { accessFlags := 25, nameIndex := 361, descriptorIndex := 339, attributes := #[] }, { accessFlags := 26, nameIndex := 364, descriptorIndex := 339, attributes := #[] }, { accessFlags := 26, nameIndex := 365, descriptorIndex := 339, attributes := #[] }, { accessFlags := 26, nameIndex := 172, descriptorIndex := 173, attributes := #[] }, { accessFlags := 26, nameIndex := 176, descriptorIndex := 173, attributes := #[] }, { accessFlags := 8, nameIndex := 344, descriptorIndex := 339, attributes := #[] }, { accessFlags := 8, nameIndex := 338, descriptorIndex := 339, attributes := #[] }, { accessFlags := 4120, nameIndex := 245, descriptorIndex := 246, attributes := #[] }])
  fields := #[{ name := "E", type := .double, accessFlags := 25, slot := 0, constantValue := 0 }, { name := "PI", type := .double, accessFlags := 25, slot := 1, constantValue := 0 }, { name := "TAU", type := .double, accessFlags := 25, slot := 2, constantValue := 0 }, { name := "DEGREES_TO_RADIANS", type := .double, accessFlags := 26, slot := 3, constantValue := 0 }, { name := "RADIANS_TO_DEGREES", type := .double, accessFlags := 26, slot := 4, constantValue := 0 }, { name := "negativeZeroFloatBits", type := .long, accessFlags := 26, slot := 5, constantValue := 0 }, { name := "negativeZeroDoubleBits", type := .long, accessFlags := 26, slot := 6, constantValue := 0 }, { name := "twoToTheDoubleScaleUp", type := .double, accessFlags := 8, slot := 7, constantValue := 0 }, { name := "twoToTheDoubleScaleDown", type := .double, accessFlags := 8, slot := 8, constantValue := 0 }, { name := "$assertionsDisabled", type := .boolean, accessFlags := 4120, slot := 9, constantValue := 0 }]
  methods := #[k18m0, k18m1, k18m2, k18m3]
  instanceTypes := #[]
  staticTypes := #[.double, .double, .double, .double, .double, .long, .long, .double, .double, .boolean]
  resolved := Array.replicate 460 none
  statics := none }

def pool19 : Array CpInfo := pool [(1, .class_ 2), (0, u "java/lang/String"), (1, .class_ 6), (1, u "java/lang/Object"), (0, u "<init>"), (0, u "()V"), (0, .methodref 1 10), (0, .nameAndType 11 12), (0, u "checkIndex"), (0, u "(II)V"), (1, .class_ 16), (1, u "java/lang/StringLatin1"), (36, u "([BI)C"), (67, u "$assertionsDisabled"), (0, u "Z"), (98, .class_ 223), (1, u "java/lang/StringLatin1$LinesSpliterator"), (28, u "charAt"), (137, .class_ 391), (0, u "java/lang/StringLatin1$CharsSpliterator")] 3

def k19m0 : Method := { name := "<init>", desc := "()V", sig := { parameters := [], returnType := none }, accessFlags := 0, code := none }
def k19c1 : Code := { maxStack := 2, maxLocals := 2, code := jdk_43_method_2_code, exceptionTable := #[], attributes := #[] }
def k19m1 : Method := { name := "charAt", desc := "([BI)C", sig := { parameters := [(.array .byte), .int], returnType := some .char }, accessFlags := 9, code := some k19c1 }
/-- java/lang/StringLatin1 -/
def k19 : Class := { plain "java/lang/StringLatin1" (some 0) with
  accessFlags := 48
  interfaces := #[]
  cf := some (fileOf pool19 14 #[.nestMembers #[390, 221]] #[{ accessFlags := 0, nameIndex := 7, descriptorIndex := 8, attributes := #[] }, { accessFlags := 9, nameIndex := 252, descriptorIndex := 53, attributes := #[] }] 48 4 #[] #[{ accessFlags := 4120, nameIndex := 121, descriptorIndex := 122, attributes := #[] }])
  fields := #[{ name := "$assertionsDisabled", type := .boolean, accessFlags := 4120, slot := 0, constantValue := 0 }]
  methods := #[k19m0, k19m1]
  instanceTypes := #[]
  staticTypes := #[.boolean]
  resolved := Array.replicate 395 none
  statics := none }

def pool20 : Array CpInfo := pool [(2, .class_ 4), (1, u "java/lang/Object"), (0, u "<init>"), (0, u "()V"), (17, .class_ 26), (1, u "jdk/internal/util/Preconditions"), (6, u "checkIndex"), (21, .class_ 56), (0, u "jdk/internal/util/Preconditions$4"), (57, .class_ 115), (0, u "jdk/internal/util/Preconditions$1"), (7, u "SIOOBE_FORMATTER"), (0, u "Ljava/util/function/BiFunction;"), (0, .class_ 126), (0, u "jdk/internal/util/Preconditions$2"), (3, u "AIOOBE_FORMATTER"), (0, .class_ 132), (0, u "jdk/internal/util/Preconditions$3"), (3, u "IOOBE_FORMATTER"), (41, u "(IILjava/util/function/BiFunction;)I")] 15

def k20m0 : Method := { name := "<init>", desc := "()V", sig := { parameters := [], returnType := none }, accessFlags := 1, code := none }
def k20c1 : Code := { maxStack := 3, maxLocals := 3, code := jdk_41_method_11_code, exceptionTable := #[], attributes := #[] }
def k20m1 : Method := { name := "checkIndex", desc := "(IILjava/util/function/BiFunction;)I", sig := { parameters := [.int, .int, (.object "java/util/function/BiFunction")], returnType := some .int }, accessFlags := 9, code := some k20c1 }
/-- jdk/internal/util/Preconditions -/
def k20 : Class := { plain "jdk/internal/util/Preconditions" (some 0) with
  accessFlags := 33
  interfaces := #[]
  cf := some (fileOf pool20 24 #[.nestMembers #[55, 131, 125, 114]] #[{ accessFlags := 1, nameIndex := 5, descriptorIndex := 6, attributes := #[] }, { accessFlags := 9, nameIndex := 33, descriptorIndex := 178, attributes := #[] }] 33 2 #[] #[{ accessFlags := 25, nameIndex := 123, descriptorIndex := 124, attributes := #[] }, { accessFlags := 25, nameIndex := 130, descriptorIndex := 124, attributes := #[] }, { accessFlags := 25, nameIndex := 136, descriptorIndex := 124, attributes := #[] }])
  fields := #[{ name := "SIOOBE_FORMATTER", type := (.object "java/util/function/BiFunction"), accessFlags := 25, slot := 0, constantValue := 0 }, { name := "AIOOBE_FORMATTER", type := (.object "java/util/function/BiFunction"), accessFlags := 25, slot := 1, constantValue := 0 }, { name := "IOOBE_FORMATTER", type := (.object "java/util/function/BiFunction"), accessFlags := 25, slot := 2, constantValue := 0 }]
  methods := #[k20m0, k20m1]
  instanceTypes := #[]
  staticTypes := #[(.object "java/util/function/BiFunction"), (.object "java/util/function/BiFunction"), (.object "java/util/function/BiFunction")]
  resolved := Array.replicate 194 none
  statics := some 3 }

def pool21 : Array CpInfo := pool [(9, u "<init>"), (6, .class_ 18), (1, u "java/lang/Object"), (0, u "()V"), (1, .class_ 23), (1, u "jdk/internal/util/ArraysSupport"), (0, u "LOG2_ARRAY_LONG_INDEX_SCALE"), (0, u "I"), (2, u "U"), (0, u "Ljdk/internal/misc/Unsafe;"), (8, u "BIG_ENDIAN"), (0, u "Z"), (8, u "LOG2_BYTE_BIT_SIZE"), (4, u "LOG2_ARRAY_INT_INDEX_SCALE"), (54, u "JLA"), (0, u "Ljdk/internal/access/JavaLangAccess;"), (11, u "LOG2_ARRAY_BOOLEAN_INDEX_SCALE"), (9, u "LOG2_ARRAY_BYTE_INDEX_SCALE"), (5, u "LOG2_ARRAY_CHAR_INDEX_SCALE"), (5, u "LOG2_ARRAY_SHORT_INDEX_SCALE"), (18, u "LOG2_ARRAY_FLOAT_INDEX_SCALE"), (24, u "LOG2_ARRAY_DOUBLE_INDEX_SCALE"), (6, .methodref 195 196), (0, .class_ 197), (0, .nameAndType 198 199), (0, u "java/lang/Math"), (0, u "max"), (0, u "(II)I"), (0, .integer 2147483639), (76, u "T_BOOLEAN"), (2, u "T_CHAR"), (1, u "T_FLOAT"), (1, u "T_DOUBLE"), (1, u "T_BYTE"), (1, u "T_SHORT"), (1, u "T_INT"), (1, u "T_LONG"), (1, u "SOFT_MAX_ARRAY_LENGTH"), (56, u "newLength"), (0, u "(III)I")] 25

def k21m0 : Method := { name := "<init>", desc := "()V", sig := { parameters := [], returnType := none }, accessFlags := 2, code := none }
def k21c1 : Code := { maxStack := 3, maxLocals := 4, code := jdk_48_method_27_code, exceptionTable := #[], attributes := #[] }
def k21m1 : Method := { name := "newLength", desc := "(III)I", sig := { parameters := [.int, .int, .int], returnType := some .int }, accessFlags := 9, code := some k21c1 }
/-- jdk/internal/util/ArraysSupport -/
def k21 : Class := { plain "jdk/internal/util/ArraysSupport" (some 0) with
  accessFlags := 33
  interfaces := #[]
  cf := some (fileOf pool21 21 #[] #[{ accessFlags := 2, nameIndex := 9, descriptorIndex := 19, attributes := #[] }, { accessFlags := 9, nameIndex := 351, descriptorIndex := 352, attributes := #[] }] 33 16 #[] #[{ accessFlags := 24, nameIndex := 28, descriptorIndex := 29, attributes := #[] }, { accessFlags := 26, nameIndex := 38, descriptorIndex := 39, attributes := #[] }, { accessFlags := 25, nameIndex := 121, descriptorIndex := 25, attributes := #[] }, { accessFlags := 25, nameIndex := 131, descriptorIndex := 25, attributes := #[] }, { accessFlags := 25, nameIndex := 137, descriptorIndex := 25, attributes := #[] }, { accessFlags := 25, nameIndex := 143, descriptorIndex := 25, attributes := #[] }, { accessFlags := 25, nameIndex := 53, descriptorIndex := 25, attributes := #[] }, { accessFlags := 25, nameIndex := 24, descriptorIndex := 25, attributes := #[] }, { accessFlags := 25, nameIndex := 162, descriptorIndex := 25, attributes := #[] }, { accessFlags := 25, nameIndex := 187, descriptorIndex := 25, attributes := #[] }, { accessFlags := 26, nameIndex := 48, descriptorIndex := 25, attributes := #[] }, { accessFlags := 25, nameIndex := 277, descriptorIndex := 25, attributes := #[] }, { accessFlags := 25, nameIndex := 280, descriptorIndex := 25, attributes := #[] }, { accessFlags := 25, nameIndex := 282, descriptorIndex := 25, attributes := #[] }, { accessFlags := 25, nameIndex := 284, descriptorIndex := 25, attributes := #[] }, { accessFlags := 25, nameIndex := 286, descriptorIndex := 25, attributes := #[] }, { accessFlags := 25, nameIndex := 288, descriptorIndex := 25, attributes := #[] }, { accessFlags := 25, nameIndex := 290, descriptorIndex := 25, attributes := #[] }, { accessFlags := 25, nameIndex := 292, descriptorIndex := 25, attributes := #[] }, { accessFlags := 26, nameIndex := 108, descriptorIndex := 109, attributes := #[] }, { accessFlags := 25, nameIndex := 294, descriptorIndex := 25, attributes := #[] }])
  fields := #[{ name := "U", type := (.object "jdk/internal/misc/Unsafe"), accessFlags := 24, slot := 0, constantValue := 0 }, { name := "BIG_ENDIAN", type := .boolean, accessFlags := 26, slot := 1, constantValue := 0 }, { name := "LOG2_ARRAY_BOOLEAN_INDEX_SCALE", type := .int, accessFlags := 25, slot := 2, constantValue := 0 }, { name := "LOG2_ARRAY_BYTE_INDEX_SCALE", type := .int, accessFlags := 25, slot := 3, constantValue := 0 }, { name := "LOG2_ARRAY_CHAR_INDEX_SCALE", type := .int, accessFlags := 25, slot := 4, constantValue := 0 }, { name := "LOG2_ARRAY_SHORT_INDEX_SCALE", type := .int, accessFlags := 25, slot := 5, constantValue := 0 }, { name := "LOG2_ARRAY_INT_INDEX_SCALE", type := .int, accessFlags := 25, slot := 6, constantValue := 0 }, { name := "LOG2_ARRAY_LONG_INDEX_SCALE", type := .int, accessFlags := 25, slot := 7, constantValue := 0 }, { name := "LOG2_ARRAY_FLOAT_INDEX_SCALE", type := .int, accessFlags := 25, slot := 8, constantValue := 0 }, { name := "LOG2_ARRAY_DOUBLE_INDEX_SCALE", type := .int, accessFlags := 25, slot := 9, constantValue := 0 }, { name := "LOG2_BYTE_BIT_SIZE", type := .int, accessFlags := 26, slot := 10, constantValue := 0 }, { name := "T_BOOLEAN", type := .int, accessFlags := 25, slot := 11, constantValue := 0 }, { name := "T_CHAR", type := .int, accessFlags := 25, slot := 12, constantValue := 0 }, { name := "T_FLOAT", type := .int, accessFlags := 25, slot := 13, constantValue := 0 }, { name := "T_DOUBLE", type := .int, accessFlags := 25, slot := 14, constantValue := 0 }, { name := "T_BYTE", type := .int, accessFlags := 25, slot := 15, constantValue := 0 }, { name := "T_SHORT", type := .int, accessFlags := 25, slot := 16, constantValue := 0 }, { name := "T_INT", type := .int, accessFlags := 25, slot := 17, constantValue := 0 }, { name := "T_LONG", type := .int, accessFlags := 25, slot := 18, constantValue := 0 }, { name := "JLA", type := (.object "jdk/internal/access/JavaLangAccess"), accessFlags := 26, slot := 19, constantValue := 0 }, { name := "SOFT_MAX_ARRAY_LENGTH", type := .int, accessFlags := 25, slot := 20, constantValue := 0 }]
  methods := #[k21m0, k21m1]
  instanceTypes := #[]
  staticTypes := #[(.object "jdk/internal/misc/Unsafe"), .boolean, .int, .int, .int, .int, .int, .int, .int, .int, .int, .int, .int, .int, .int, .int, .int, .int, .int, (.object "jdk/internal/access/JavaLangAccess"), .int]
  resolved := Array.replicate 378 none
  statics := none }

def pool22 : Array CpInfo := pool [(1, .class_ 2), (0, u "java/lang/Cloneable"), (0, .class_ 4), (0, u "java/lang/Object")] 2

/-- java/lang/Cloneable -/
def k22 : Class := { plain "java/lang/Cloneable" (some 0) with
  accessFlags := 1537
  interfaces := #[]
  cf := some (fileOf pool22 1 #[] #[] 1537 3 #[] #[])
  fields := #[]
  methods := #[]
  instanceTypes := #[]
  staticTypes := #[]
  resolved := Array.replicate 7 none
  statics := none }

def pool23 : Array CpInfo := pool [(2, .class_ 4), (1, u "java/lang/Object"), (0, u "<init>"), (0, u "()V"), (12, .class_ 20), (0, u "java/util/Collections"), (63, u "r"), (0, u "Ljava/util/Random;"), (80, .class_ 167), (0, u "java/util/Collections$UnmodifiableCollection"), (6, .class_ 175), (0, u "java/util/Collections$UnmodifiableSequencedCollection"), (6, .class_ 183), (0, u "java/util/Collections$UnmodifiableSet"), (6, .class_ 191), (0, u "java/util/Collections$UnmodifiableSequencedSet"), (6, .class_ 199), (0, u "java/util/Collections$UnmodifiableSortedSet"), (6, .class_ 207), (0, u "java/util/Collections$UnmodifiableNavigableSet"), (4, .class_ 213), (0, u "java/util/Collections$UnmodifiableList"), (1, .class_ 216), (0, u "java/util/Collections$UnmodifiableRandomAccessList"), (6, .class_ 224), (0, u "java/util/Collections$UnmodifiableMap"), (6, .class_ 232), (0, u "java/util/Collections$UnmodifiableSequencedMap"), (4, .class_ 238), (0, u "java/util/Collections$UnmodifiableSortedMap"), (6, .class_ 246), (0, u "java/util/Collections$UnmodifiableNavigableMap"), (3, .class_ 251), (0, u "java/util/Collections$SynchronizedCollection"), (4, .class_ 257), (0, u "java/util/Collections$SynchronizedSet"), (4, .class_ 263), (0, u "java/util/Collections$SynchronizedSortedSet"), (1, .class_ 266), (0, u "java/util/Collections$SynchronizedNavigableSet"), (1, .class_ 269), (0, u "java/util/Collections$SynchronizedRandomAccessList"), (1, .class_ 272), (0, u "java/util/Collections$SynchronizedList"), (5, .class_ 279), (0, u "java/util/Collections$SynchronizedMap"), (1, .class_ 282), (0, u "java/util/Collections$SynchronizedSortedMap"), (1, .class_ 285), (0, u "java/util/Collections$SynchronizedNavigableMap"), (1, .class_ 288), (0, u "java/util/Collections$CheckedCollection"), (11, .class_ 301), (0, u "java/util/Collections$CheckedQueue"), (3, .class_ 306), (0, u "java/util/Collections$CheckedSet"), (3, .class_ 311), (0, u "java/util/Collections$CheckedSortedSet"), (3, .class_ 316), (0, u "java/util/Collections$CheckedNavigableSet"), (3, .class_ 321), (0, u "java/util/Collections$CheckedRandomAccessList"), (3, .class_ 326), (0, u "java/util/Collections$CheckedList"), (1, .class_ 329), (0, u "java/util/Collections$CheckedMap"), (3, .class_ 334), (0, u "java/util/Collections$CheckedSortedMap"), (3, .class_ 339), (0, u "java/util/Collections$CheckedNavigableMap"), (4, .class_ 346), (1, u "java/util/Collections$EmptyIterator"), (3, .class_ 352), (1, u "java/util/Collections$EmptyListIterator"), (2, .class_ 357), (1, u "java/util/Collections$EmptyEnumeration"), (4, u "EMPTY_SET"), (0, u "Ljava/util/Set;"), (6, u "EMPTY_LIST"), (0, u "Ljava/util/List;"), (2, u "EMPTY_MAP"), (0, u "Ljava/util/Map;"), (4, .class_ 381), (0, u "java/util/Collections$SingletonSet"), (2, .class_ 385), (0, u "java/util/Collections$1"), (1, .class_ 388), (0, u "java/util/Collections$2"), (1, .class_ 391), (0, u "java/util/Collections$SingletonList"), (1, .class_ 394), (0, u "java/util/Collections$SingletonMap"), (22, .class_ 418), (0, u "java/util/Collections$CopiesList"), (4, .class_ 425), (1, u "java/util/Collections$ReverseComparator"), (8, .class_ 435), (0, u "java/util/Collections$ReverseComparator2"), (6, .class_ 443), (0, u "java/util/Collections$3"), (25, .class_ 470), (0, u "java/util/Collections$SetFromMap"), (2, .class_ 474), (0, u "java/util/Collections$SequencedSetFromMap"), (3, .class_ 479), (0, u "java/util/Collections$AsLIFOQueue"), (11, .class_ 492), (0, u "java/util/Collections$EmptySet"), (1, .class_ 495), (0, u "java/util/Collections$EmptyList"), (1, .class_ 498), (0, u "java/util/Collections$EmptyMap"), (1, u "BINARYSEARCH_THRESHOLD"), (0, u "I"), (2, u "REVERSE_THRESHOLD"), (1, u "SHUFFLE_THRESHOLD"), (1, u "FILL_THRESHOLD"), (1, u "ROTATE_THRESHOLD"), (1, u "COPY_THRESHOLD"), (1, u "REPLACEALL_THRESHOLD"), (1, u "INDEXOFSUBLIST_THRESHOLD"), (333, .class_ 851), (0, u "java/util/Collections$CheckedMap$CheckedEntrySet"), (0, .class_ 853), (0, u "java/util/Collections$CheckedMap$CheckedEntrySet$CheckedEntry"), (0, .class_ 855), (0, u "java/util/Collections$CheckedMap$CheckedEntrySet$1"), (0, .class_ 857), (0, u "java/util/Collections$CheckedList$1"), (0, .class_ 859), (0, u "java/util/Collections$CheckedCollection$1"), (0, .class_ 861), (0, u "java/util/Collections$UnmodifiableNavigableMap$EmptyNavigableMap"), (0, .class_ 863), (0, u "java/util/Collections$UnmodifiableMap$UnmodifiableEntrySet"), (0, .class_ 865), (0, u "java/util/Collections$UnmodifiableMap$UnmodifiableEntrySet$UnmodifiableEntry"), (0, .class_ 867), (0, u "java/util/Collections$UnmodifiableMap$UnmodifiableEntrySet$UnmodifiableEntrySetSpliterator"), (0, .class_ 869), (0, u "java/util/Collections$UnmodifiableMap$UnmodifiableEntrySet$1"), (0, .class_ 871), (0, u "java/util/Collections$UnmodifiableList$1"), (0, .class_ 873), (0, u "java/util/Collections$UnmodifiableNavigableSet$EmptyNavigableSet"), (0, .class_ 875), (0, u "java/util/Collections$UnmodifiableCollection$1")] 57

def k23m0 : Method := { name := "<init>", desc := "()V", sig := { parameters := [], returnType := none }, accessFlags := 2, code := none }
/-- java/util/Collections -/
def k23 : Class := { plain "java/util/Collections" (some 0) with
  accessFlags := 33
  interfaces := #[]
  cf := some (fileOf pool23 19 #[.nestMembers #[478, 473, 469, 434, 423, 417, 393, 390, 380, 497, 494, 491, 355, 350, 344, 338, 333, 328, 850, 852, 854, 320, 325, 856, 315, 310, 305, 300, 287, 858, 284, 281, 278, 268, 271, 265, 262, 256, 250, 245, 860, 237, 231, 223, 862, 864, 866, 868, 215, 212, 870, 206, 872, 198, 190, 182, 174, 166, 874, 442, 387, 384]] #[{ accessFlags := 2, nameIndex := 5, descriptorIndex := 6, attributes := #[] }] 33 2 #[] #[{ accessFlags := 26, nameIndex := 500, descriptorIndex := 501, attributes := #[] }, { accessFlags := 26, nameIndex := 504, descriptorIndex := 501, attributes := #[] }, { accessFlags := 26, nameIndex := 506, descriptorIndex := 501, attributes := #[] }, { accessFlags := 26, nameIndex := 508, descriptorIndex := 501, attributes := #[] }, { accessFlags := 26, nameIndex := 510, descriptorIndex := 501, attributes := #[] }, { accessFlags := 26, nameIndex := 512, descriptorIndex := 501, attributes := #[] }, { accessFlags := 26, nameIndex := 514, descriptorIndex := 501, attributes := #[] }, { accessFlags := 26, nameIndex := 516, descriptorIndex := 501, attributes := #[] }, { accessFlags := 10, nameIndex := 84, descriptorIndex := 85, attributes := #[] }, { accessFlags := 25, nameIndex := 362, descriptorIndex := 363, attributes := #[] }, { accessFlags := 25, nameIndex := 370, descriptorIndex := 371, attributes := #[] }, { accessFlags := 25, nameIndex := 374, descriptorIndex := 375, attributes := #[] }])
  fields := #[{ name := "BINARYSEARCH_THRESHOLD", type := .int, accessFlags := 26, slot := 0, constantValue := 0 }, { name := "REVERSE_THRESHOLD", type := .int, accessFlags := 26, slot := 1, constantValue := 0 }, { name := "SHUFFLE_THRESHOLD", type := .int, accessFlags := 26, slot := 2, constantValue := 0 }, { name := "FILL_THRESHOLD", type := .int, accessFlags := 26, slot := 3, constantValue := 0 }, { name := "ROTATE_THRESHOLD", type := .int, accessFlags := 26, slot := 4, constantValue := 0 }, { name := "COPY_THRESHOLD", type := .int, accessFlags := 26, slot := 5, constantValue := 0 }, { name := "REPLACEALL_THRESHOLD", type := .int, accessFlags := 26, slot := 6, constantValue := 0 }, { name := "INDEXOFSUBLIST_THRESHOLD", type := .int, accessFlags := 26, slot := 7, constantValue := 0 }, { name := "r", type := (.object "java/util/Random"), accessFlags := 10, slot := 8, constantValue := 0 }, { name := "EMPTY_SET", type := (.object "java/util/Set"), accessFlags := 25, slot := 9, constantValue := 0 }, { name := "EMPTY_LIST", type := (.object "java/util/List"), accessFlags := 25, slot := 10, constantValue := 0 }, { name := "EMPTY_MAP", type := (.object "java/util/Map"), accessFlags := 25, slot := 11, constantValue := 0 }]
  methods := #[k23m0]
  instanceTypes := #[]
  staticTypes := #[.int, .int, .int, .int, .int, .int, .int, .int, (.object "java/util/Random"), (.object "java/util/Set"), (.object "java/util/List"), (.object "java/util/Map")]
  resolved := Array.replicate 933 none
  statics := some 4 }

def pool24 : Array CpInfo := pool [(8, .class_ 10), (1, u "java/lang/Iterable"), (24, .class_ 36), (0, u "java/lang/Object")] 25

/-- java/lang/Iterable -/
def k24 : Class := { plain "java/lang/Iterable" (some 0) with
  accessFlags := 1537
  interfaces := #[]
  cf := some (fileOf pool24 8 #[] #[] 1537 35 #[] #[])
  fields := #[]
  methods := #[]
  instanceTypes := #[]
  staticTypes := #[]
  resolved := Array.replicate 62 none
  statics := none }

def pool25 : Array CpInfo := pool [(10, .class_ 12), (1, u "java/util/Collection"), (47, .class_ 61), (0, u "java/lang/Object"), (0, .class_ 63), (0, u "java/lang/Iterable")] 51

/-- java/util/Collection -/
def k25 : Class := { plain "java/util/Collection" (some 0) with
  accessFlags := 1537
  interfaces := #[24]
  cf := some (fileOf pool25 10 #[] #[] 1537 60 #[62] #[])
  fields := #[]
  methods := #[]
  instanceTypes := #[]
  staticTypes := #[]
  resolved := Array.replicate 115 none
  statics := none }

def pool26 : Array CpInfo := pool [(2, .class_ 4), (1, u "java/lang/Object"), (0, u "<init>"), (0, u "()V"), (1, .class_ 10), (1, u "java/util/AbstractCollection"), (66, .class_ 78), (0, u "java/util/Collection")] 81

def k26m0 : Method := { name := "<init>", desc := "()V", sig := { parameters := [], returnType := none }, accessFlags := 4, code := none }
/-- java/util/AbstractCollection -/
def k26 : Class := { plain "java/util/AbstractCollection" (some 0) with
  accessFlags := 1057
  interfaces := #[25]
  cf := some (fileOf pool26 8 #[] #[{ accessFlags := 4, nameIndex := 5, descriptorIndex := 6, attributes := #[] }] 1057 2 #[77] #[])
  fields := #[]
  methods := #[k26m0]
  instanceTypes := #[]
  staticTypes := #[]
  resolved := Array.replicate 160 none
  statics := none }

def pool27 : Array CpInfo := pool [(8, .class_ 10), (1, u "java/util/SequencedCollection"), (15, .class_ 27), (0, u "java/lang/Object"), (0, .class_ 29), (0, u "java/util/Collection")] 27

/-- java/util/SequencedCollection -/
def k27 : Class := { plain "java/util/SequencedCollection" (some 0) with
  accessFlags := 1537
  interfaces := #[25]
  cf := some (fileOf pool27 8 #[] #[] 1537 26 #[28] #[])
  fields := #[]
  methods := #[]
  instanceTypes := #[]
  staticTypes := #[]
  resolved := Array.replicate 57 none
  statics := none }

def pool28 : Array CpInfo := pool [(8, .class_ 10), (1, u "java/util/List"), (92, .class_ 104), (0, u "java/lang/Object"), (15, .class_ 121), (0, u "java/util/SequencedCollection")] 129

/-- java/util/List -/
def k28 : Class := { plain "java/util/List" (some 0) with
  accessFlags := 1537
  interfaces := #[27]
  cf := some (fileOf pool28 8 #[] #[] 1537 103 #[120] #[])
  fields := #[]
  methods := #[]
  instanceTypes := #[]
  staticTypes := #[]
  resolved := Array.replicate 251 none
  statics := none }

def pool29 : Array CpInfo := pool [(2, .class_ 4), (1, u "java/util/AbstractCollection"), (0, u "<init>"), (0, u "()V"), (1, .class_ 10), (1, u "java/util/AbstractList"), (0, u "modCount"), (0, u "I"), (64, .class_ 78), (0, u "java/util/AbstractList$Itr"), (3, .class_ 83), (0, u "java/util/AbstractList$ListItr"), (9, .class_ 94), (0, u "java/util/AbstractList$RandomAccessSubList"), (3, .class_ 99), (0, u "java/util/AbstractList$SubList"), (33, .class_ 134), (0, u "java/util/List"), (73, .class_ 209), (0, u "java/util/AbstractList$SubList$1"), (0, .class_ 211), (0, u "java/util/AbstractList$RandomAccessSpliterator")] 6

def k29m0 : Method := { name := "<init>", desc := "()V", sig := { parameters := [], returnType := none }, accessFlags := 4, code := none }
/-- java/util/AbstractList -/
def k29 : Class := { plain "java/util/AbstractList" (some 26) with
  accessFlags := 1057
  interfaces := #[28]
  cf := some (fileOf pool29 8 #[.nestMembers #[93, 98, 208, 210, 82, 77]] #[{ accessFlags := 4, nameIndex := 5, descriptorIndex := 6, attributes := #[] }] 1057 2 #[133] #[{ accessFlags := 132, nameIndex := 11, descriptorIndex := 12, attributes := #[] }])
  fields := #[{ name := "modCount", type := .int, accessFlags := 132, slot := 0, constantValue := 0 }]
  methods := #[k29m0]
  instanceTypes := #[.int]
  staticTypes := #[]
  resolved := Array.replicate 218 none
  statics := none }

def pool30 : Array CpInfo := pool [(1, .class_ 2), (0, u "java/util/RandomAccess"), (0, .class_ 4), (0, u "java/lang/Object")] 2

/-- java/util/RandomAccess -/
def k30 : Class := { plain "java/util/RandomAccess" (some 0) with
  accessFlags := 1537
  interfaces := #[]
  cf := some (fileOf pool30 1 #[] #[] 1537 3 #[] #[])
  fields := #[]
  methods := #[]
  instanceTypes := #[]
  staticTypes := #[]
  resolved := Array.replicate 7 none
  statics := none }

def pool31 : Array CpInfo := pool [(2, .class_ 4), (1, u "java/util/AbstractList"), (0, u "<init>"), (0, u "()V"), (1, .class_ 10), (1, u "java/util/Collections"), (54, .class_ 66), (0, u "java/util/Collections$EmptyList"), (0, .class_ 68), (0, u "java/util/RandomAccess"), (0, .class_ 70), (0, u "java/io/Serializable"), (0, u "serialVersionUID"), (0, u "J")] 77

def k31m0 : Method := { name := "<init>", desc := "()V", sig := { parameters := [], returnType := none }, accessFlags := 2, code := none }
/-- java/util/Collections$EmptyList -/
def k31 : Class := { plain "java/util/Collections$EmptyList" (some 29) with
  accessFlags := 32
  interfaces := #[30, 2]
  cf := some (fileOf pool31 65 #[.nestHost 8] #[{ accessFlags := 2, nameIndex := 5, descriptorIndex := 6, attributes := #[] }] 32 2 #[67, 69] #[{ accessFlags := 26, nameIndex := 71, descriptorIndex := 72, attributes := #[] }])
  fields := #[{ name := "serialVersionUID", type := .long, accessFlags := 26, slot := 0, constantValue := 0 }]
  methods := #[k31m0]
  instanceTypes := #[.int]
  staticTypes := #[.long]
  resolved := Array.replicate 150 none
  statics := none }

def pool32 : Array CpInfo := pool [(2, .class_ 4), (1, u "java/lang/StackTraceElement"), (0, u "<init>"), (2, .class_ 10), (1, u "java/lang/Object"), (0, u "()V"), (2, u "format"), (0, u "B"), (2, u "classLoaderName"), (0, u "Ljava/lang/String;"), (2, u "moduleName"), (2, u "moduleVersion"), (12, u "declaringClass"), (4, u "methodName"), (2, u "fileName"), (2, u "lineNumber"), (0, u "I"), (65, u "declaringClassObject"), (0, u "Ljava/lang/Class;"), (33, .class_ 153), (1, u "java/lang/StackTraceElement$HashedModules"), (17, .class_ 172), (0, u "java/io/Serializable"), (0, u "NATIVE_METHOD"), (1, u "UNKNOWN_SOURCE"), (2, u "BUILTIN_CLASS_LOADER"), (1, u "JDK_NON_UPGRADEABLE_MODULE"), (1, u "serialVersionUID"), (0, u "J")] 51

def k32m0 : Method := { name := "<init>", desc := "()V", sig := { parameters := [], returnType := none }, accessFlags := 2, code := none }
/-- java/lang/StackTraceElement -/
def k32 : Class := { plain "java/lang/StackTraceElement" (some 0) with
  accessFlags := 49
  interfaces := #[2]
  cf := some (fileOf pool32 2 #[.nestMembers #[151]] #[{ accessFlags := 2, nameIndex := 5, descriptorIndex := 11, attributes := #[] }] 49 8 #[171] #[{ accessFlags := 26, nameIndex := 173, descriptorIndex := 19, attributes := #[] }, { accessFlags := 26, nameIndex := 175, descriptorIndex := 19, attributes := #[] }, { accessFlags := 130, nameIndex := 116, descriptorIndex := 117, attributes := #[] }, { accessFlags := 2, nameIndex := 18, descriptorIndex := 19, attributes := #[] }, { accessFlags := 2, nameIndex := 22, descriptorIndex := 19, attributes := #[] }, { accessFlags := 2, nameIndex := 25, descriptorIndex := 19, attributes := #[] }, { accessFlags := 2, nameIndex := 38, descriptorIndex := 19, attributes := #[] }, { accessFlags := 2, nameIndex := 43, descriptorIndex := 19, attributes := #[] }, { accessFlags := 2, nameIndex := 46, descriptorIndex := 19, attributes := #[] }, { accessFlags := 2, nameIndex := 49, descriptorIndex := 50, attributes := #[] }, { accessFlags := 2, nameIndex := 14, descriptorIndex := 15, attributes := #[] }, { accessFlags := 26, nameIndex := 178, descriptorIndex := 15, attributes := #[] }, { accessFlags := 26, nameIndex := 180, descriptorIndex := 15, attributes := #[] }, { accessFlags := 26, nameIndex := 182, descriptorIndex := 183, attributes := #[] }])
  fields := #[{ name := "NATIVE_METHOD", type := (.object "java/lang/String"), accessFlags := 26, slot := 0, constantValue := 0 }, { name := "UNKNOWN_SOURCE", type := (.object "java/lang/String"), accessFlags := 26, slot := 1, constantValue := 0 }, { name := "declaringClassObject", type := (.object "java/lang/Class"), accessFlags := 130, slot := 0, constantValue := 0 }, { name := "classLoaderName", type := (.object "java/lang/String"), accessFlags := 2, slot := 1, constantValue := 0 }, { name := "moduleName", type := (.object "java/lang/String"), accessFlags := 2, slot := 2, constantValue := 0 }, { name := "moduleVersion", type := (.object "java/lang/String"), accessFlags := 2, slot := 3, constantValue := 0 }, { name := "declaringClass", type := (.object "java/lang/String"), accessFlags := 2, slot := 4, constantValue := 0 }, { name := "methodName", type := (.object "java/lang/String"), accessFlags := 2, slot := 5, constantValue := 0 }, { name := "fileName", type := (.object "java/lang/String"), accessFlags := 2, slot := 6, constantValue := 0 }, { name := "lineNumber", type := .int, accessFlags := 2, slot := 7, constantValue := 0 }, { name := "format", type := .byte, accessFlags := 2, slot := 8, constantValue := 0 }, { name := "BUILTIN_CLASS_LOADER", type := .byte, accessFlags := 26, slot := 2, constantValue := 0 }, { name := "JDK_NON_UPGRADEABLE_MODULE", type := .byte, accessFlags := 26, slot := 3, constantValue := 0 }, { name := "serialVersionUID", type := .long, accessFlags := 26, slot := 4, constantValue := 0 }]
  methods := #[k32m0]
  instanceTypes := #[(.object "java/lang/Class"), (.object "java/lang/String"), (.object "java/lang/String"), (.object "java/lang/String"), (.object "java/lang/String"), (.object "java/lang/String"), (.object "java/lang/String"), .int, .byte]
  staticTypes := #[(.object "java/lang/String"), (.object "java/lang/String"), .byte, .byte, .long]
  resolved := Array.replicate 235 none
  statics := none }

/-- the primitive byte -/
def k33 : Class := { plain "byte" none with kind := .primitive 'B', accessFlags := 0x411 }
/-- [B -/
def k34 : Class := { plain "[B" (some 0) with kind := .array 33 .byte, interfaces := #[22, 2], accessFlags := 1041 }

/-- the primitive int -/
def k35 : Class := { plain "int" none with kind := .primitive 'I', accessFlags := 0x411 }
/-- [I -/
def k36 : Class := { plain "[I" (some 0) with kind := .array 35 .int, interfaces := #[22, 2], accessFlags := 1041 }

/-- the primitive long -/
def k37 : Class := { plain "long" none with kind := .primitive 'J', accessFlags := 0x411 }
/-- [J -/
def k38 : Class := { plain "[J" (some 0) with kind := .array 37 .long, interfaces := #[22, 2], accessFlags := 1041 }

/-- [Ljava/lang/Object; -/
def k39 : Class := { plain "[Ljava/lang/Object;" (some 0) with kind := .array 0 (.object "java/lang/Object"), interfaces := #[22, 2], accessFlags := 1041 }

/-- [Ljava/lang/StackTraceElement; -/
def k40 : Class := { plain "[Ljava/lang/StackTraceElement;" (some 0) with kind := .array 32 (.object "java/lang/StackTraceElement"), interfaces := #[22, 2], accessFlags := 1041 }

/-- [Ljava/lang/Throwable; -/
def k41 : Class := { plain "[Ljava/lang/Throwable;" (some 0) with kind := .array 3 (.object "java/lang/Throwable"), interfaces := #[22, 2], accessFlags := 1041 }

def heap : Heap := #[{ cls := 3, slots := #[.long 0, .ref 7, .ref 8, .null, .null, .null, .null, .ref 9, .int 1], vm := .statics 3 },
  { cls := 13, slots := #[.long 0, .int 1, .null, .int 0, .null, .int 0, .int 0], vm := .statics 13 },
  { cls := 16, slots := #[.int 0, .int 0, .null, .null, .ref 6, .ref 5, .int 0, .int 0, .long 0], vm := .statics 16 },
  { cls := 20, slots := #[.null, .null, .null], vm := .statics 20 },
  { cls := 23, slots := #[.int 0, .int 0, .int 0, .int 0, .int 0, .int 0, .int 0, .int 0, .null, .null, .ref 8, .null], vm := .statics 23 },
  { cls := 34, slots := #[.int 48, .int 49, .int 50, .int 51, .int 52, .int 53, .int 54, .int 55, .int 56, .int 57, .int 48, .int 49, .int 50, .int 51, .int 52, .int 53, .int 54, .int 55, .int 56, .int 57, .int 48, .int 49, .int 50, .int 51, .int 52, .int 53, .int 54, .int 55, .int 56, .int 57, .int 48, .int 49, .int 50, .int 51, .int 52, .int 53, .int 54, .int 55, .int 56, .int 57, .int 48, .int 49, .int 50, .int 51, .int 52, .int 53, .int 54, .int 55, .int 56, .int 57, .int 48, .int 49, .int 50, .int 51, .int 52, .int 53, .int 54, .int 55, .int 56, .int 57, .int 48, .int 49, .int 50, .int 51, .int 52, .int 53, .int 54, .int 55, .int 56, .int 57, .int 48, .int 49, .int 50, .int 51, .int 52, .int 53, .int 54, .int 55, .int 56, .int 57, .int 48, .int 49, .int 50, .int 51, .int 52, .int 53, .int 54, .int 55, .int 56, .int 57, .int 48, .int 49, .int 50, .int 51, .int 52, .int 53, .int 54, .int 55, .int 56, .int 57], vm := .none },
  { cls := 34, slots := #[.int 48, .int 48, .int 48, .int 48, .int 48, .int 48, .int 48, .int 48, .int 48, .int 48, .int 49, .int 49, .int 49, .int 49, .int 49, .int 49, .int 49, .int 49, .int 49, .int 49, .int 50, .int 50, .int 50, .int 50, .int 50, .int 50, .int 50, .int 50, .int 50, .int 50, .int 51, .int 51, .int 51, .int 51, .int 51, .int 51, .int 51, .int 51, .int 51, .int 51, .int 52, .int 52, .int 52, .int 52, .int 52, .int 52, .int 52, .int 52, .int 52, .int 52, .int 53, .int 53, .int 53, .int 53, .int 53, .int 53, .int 53, .int 53, .int 53, .int 53, .int 54, .int 54, .int 54, .int 54, .int 54, .int 54, .int 54, .int 54, .int 54, .int 54, .int 55, .int 55, .int 55, .int 55, .int 55, .int 55, .int 55, .int 55, .int 55, .int 55, .int 56, .int 56, .int 56, .int 56, .int 56, .int 56, .int 56, .int 56, .int 56, .int 56, .int 57, .int 57, .int 57, .int 57, .int 57, .int 57, .int 57, .int 57, .int 57, .int 57], vm := .none },
  { cls := 40, slots := #[], vm := .none },
  { cls := 31, slots := #[.int 0], vm := .none },
  { cls := 41, slots := #[], vm := .none }]
def classes : Array Class := #[k0, k1, k2, k3, k4, k5, k6, k7, k8, k9, k10, k11, k12, k13, k14, k15, k16, k17, k18, k19, k20, k21, k22, k23, k24, k25, k26, k27, k28, k29, k30, k31, k32, k33, k34, k35, k36, k37, k38, k39, k40, k41]
def interned : List (Array UInt16 × Addr) := []
def slotsUsed : Nat := 241
def theMethod : MethodId := ⟨1, 1⟩
def args0 : Array Value := #[.int 5]
def aboutOver (below : List Frame) : State where
  vm := { classes := classes, interned := interned.toArray }
  heap := heap
  slotsUsed := slotsUsed
  threads := #[{ frames := .invoking theMethod args0 :: below }]
def below0 : List Frame := [.native { method := ⟨0, 0⟩, args := #[] }]
def about1 : State := aboutOver below0
def p0 : Program := .bare "" "" ""
def e0 : Env := launch0.env 0 0 0
theorem w_frames : about1.frames = Frame.invoking theMethod args0 :: below0 := rfl
set_option maxRecDepth 65536 in
theorem w_args : argsFit about1.vm theMethod args0 = true := by decide +kernel
set_option maxRecDepth 65536 in
theorem w_heap : heapFits about1 = true := by decide +kernel
set_option maxRecDepth 65536 in
theorem w_runnable : about1.curStatus? = some .runnable := by decide +kernel
set_option maxRecDepth 65536 in
theorem w_alone : about1.alone = true := by decide +kernel
set_option maxRecDepth 65536 in
theorem w_named : about1.methodNamed? x = some theMethod := by decide +kernel
set_option maxRecDepth 65536 in
theorem w_hears : about1.hears theMethod below0 = true := by decide +kernel
set_option maxRecDepth 65536 in
theorem w_ripe : about1.ripe theMethod args0 below0 = true := by decide +kernel
theorem w_running : about1.status = .running := rfl
set_option maxRecDepth 65536 in
theorem w_room : about1.hasRoom e0.platform room_1 = true :=
  launch0.hasRoom_least _ room_1 (by decide +kernel) (by decide +kernel) (by decide +kernel) (by decide +kernel) (by decide +kernel) (by decide +kernel)
theorem allAtoms_all (ts : List Jvm.Cond) (a : Array Jvm.Value) (st : Jvm.State) : (allAtoms ts).before a st = ts.all (fun c => c.before a st) := by
  induction ts with
  | nil => rfl
  | cons c t ih =>
    show (Jvm.Cond.and c (allAtoms t)).before a st = _
    rw [Jvm.Cond.before_and, ih, List.all_cons]
def words1 : List Jvm.Cond := Jvm.Cond.code x code maxLocals ret :: tables_1
/-- a 'code' word, met by the world's own term for the bytes: nothing is compared byte by byte -/
theorem code_word {y : MethodName} {bytes : ByteArray} {mx : Nat} {rt : Option FieldType} {a : Array Value} {s : State} {m : MethodId} {meth : Method} {c : Code} (h1 : s.methodNamed? y = some m) (h2 : s.vm.method? m = some meth) (h3 : meth.code = some c) (h4 : c.code = bytes)
    (h5 : (c.maxLocals == mx && c.exceptionTable.isEmpty && decide (c.maxStack ≤ mostOperands) && decide (meth.sig.returnType = rt) && !meth.locks && decide (parseMethodDescriptor y.desc = some meth.sig)) = true) : (Jvm.Cond.code y bytes mx rt).before a s = true := by
  simp only [Bool.and_eq_true, beq_iff_eq, Bool.not_eq_true', decide_eq_true_eq] at h5
  obtain ⟨⟨⟨⟨⟨g1, g2⟩, g3⟩, g4⟩, g5⟩, g6⟩ := h5
  simp [Cond.before, Cond.holds, Cond.value, h1, h2, h3, h4, g1, g2, g3, g4, g5, g6]
def isCode : Jvm.Cond → Bool
  | .code _ _ _ _ => true
  | _ => false
theorem all_split {L : List Jvm.Cond} {P : Jvm.Cond → Bool} (h1 : L.all (fun c => isCode c || P c) = true) (h2 : ∀ c ∈ L.filter isCode, P c = true) : L.all P = true := by
  refine List.all_eq_true.mpr fun c hc => ?_
  have h := List.all_eq_true.mp h1 c hc
  rcases Bool.eq_false_or_eq_true (isCode c) with hi | hi
  · exact h2 c (List.mem_filter.mpr ⟨hc, hi⟩)
  · simpa [hi] using h
set_option maxRecDepth 65536 in
theorem w_c0 : (Jvm.Cond.code x code maxLocals ret).before args0 about1 = true := code_word (m := ⟨1, 1⟩) (meth := k1m1) (c := k1c1) (by decide +kernel) rfl rfl rfl (by decide +kernel)
set_option maxRecDepth 65536 in
theorem w_c1 : (Jvm.Cond.code ({ cls := "com/example/metasearchd/metasearchd/engine/EngineException", name := "httpStatus", desc := "(I)Lcom/example/metasearchd/metasearchd/engine/EngineException;" } : Jvm.MethodName) prog_9_method_4_code (1 : Nat) (Option.some (Jvm.ClassFile.FieldType.object "com/example/metasearchd/metasearchd/engine/EngineException"))).before args0 about1 = true := code_word (m := ⟨5, 1⟩) (meth := k5m1) (c := k5c1) (by decide +kernel) rfl rfl rfl (by decide +kernel)
set_option maxRecDepth 65536 in
theorem w_c2 : (Jvm.Cond.code ({ cls := "java/lang/StringBuilder", name := "<init>", desc := "()V" } : Jvm.MethodName) jdk_67_method_1_code (1 : Nat) (Option.none : Option Jvm.ClassFile.FieldType)).before args0 about1 = true := code_word (m := ⟨10, 0⟩) (meth := k10m0) (c := k10c0) (by decide +kernel) rfl rfl rfl (by decide +kernel)
set_option maxRecDepth 65536 in
theorem w_c3 : (Jvm.Cond.code ({ cls := "java/lang/AbstractStringBuilder", name := "<init>", desc := "(I)V" } : Jvm.MethodName) jdk_68_method_2_code (2 : Nat) (Option.none : Option Jvm.ClassFile.FieldType)).before args0 about1 = true := code_word (m := ⟨8, 1⟩) (meth := k8m1) (c := k8c1) (by decide +kernel) rfl rfl rfl (by decide +kernel)
set_option maxRecDepth 65536 in
theorem w_c4 : (Jvm.Cond.code ({ cls := "java/lang/Object", name := "<init>", desc := "()V" } : Jvm.MethodName) object_method_1_code (1 : Nat) (Option.none : Option Jvm.ClassFile.FieldType)).before args0 about1 = true := code_word (m := ⟨0, 0⟩) (meth := k0m0) (c := k0c0) (by decide +kernel) rfl rfl rfl (by decide +kernel)
set_option maxRecDepth 65536 in
theorem w_c5 : (Jvm.Cond.code ({ cls := "java/lang/StringBuilder", name := "append", desc := "(Ljava/lang/String;)Ljava/lang/StringBuilder;" } : Jvm.MethodName) jdk_67_method_7_code (2 : Nat) (Option.some (Jvm.ClassFile.FieldType.object "java/lang/StringBuilder"))).before args0 about1 = true := code_word (m := ⟨10, 1⟩) (meth := k10m1) (c := k10c1) (by decide +kernel) rfl rfl rfl (by decide +kernel)
set_option maxRecDepth 65536 in
theorem w_c6 : (Jvm.Cond.code ({ cls := "java/lang/AbstractStringBuilder", name := "append", desc := "(Ljava/lang/String;)Ljava/lang/AbstractStringBuilder;" } : Jvm.MethodName) jdk_68_method_22_code (3 : Nat) (Option.some (Jvm.ClassFile.FieldType.object "java/lang/AbstractStringBuilder"))).before args0 about1 = true := code_word (m := ⟨8, 5⟩) (meth := k8m5) (c := k8c5) (by decide +kernel) rfl rfl rfl (by decide +kernel)
set_option maxRecDepth 65536 in
theorem w_c7 : (Jvm.Cond.code ({ cls := "java/lang/String", name := "length", desc := "()I" } : Jvm.MethodName) jdk_42_method_54_code (1 : Nat) (Option.some Jvm.ClassFile.FieldType.int)).before args0 about1 = true := code_word (m := ⟨13, 2⟩) (meth := k13m2) (c := k13c2) (by decide +kernel) rfl rfl rfl (by decide +kernel)
set_option maxRecDepth 65536 in
theorem w_c8 : (Jvm.Cond.code ({ cls := "java/lang/String", name := "coder", desc := "()B" } : Jvm.MethodName) jdk_42_method_152_code (1 : Nat) (Option.some Jvm.ClassFile.FieldType.byte)).before args0 about1 = true := code_word (m := ⟨13, 6⟩) (meth := k13m6) (c := k13c6) (by decide +kernel) rfl rfl rfl (by decide +kernel)
set_option maxRecDepth 65536 in
theorem w_c9 : (Jvm.Cond.code ({ cls := "java/lang/AbstractStringBuilder", name := "ensureCapacityInternal", desc := "(I)V" } : Jvm.MethodName) jdk_68_method_9_code (3 : Nat) (Option.none : Option Jvm.ClassFile.FieldType)).before args0 about1 = true := code_word (m := ⟨8, 3⟩) (meth := k8m3) (c := k8c3) (by decide +kernel) rfl rfl rfl (by decide +kernel)
set_option maxRecDepth 65536 in
theorem w_c10 : (Jvm.Cond.code ({ cls := "java/lang/AbstractStringBuilder", name := "putStringAt", desc := "(ILjava/lang/String;)V" } : Jvm.MethodName) jdk_68_method_73_code (3 : Nat) (Option.none : Option Jvm.ClassFile.FieldType)).before args0 about1 = true := code_word (m := ⟨8, 10⟩) (meth := k8m10) (c := k8c10) (by decide +kernel) rfl rfl rfl (by decide +kernel)
set_option maxRecDepth 65536 in
theorem w_c11 : (Jvm.Cond.code ({ cls := "java/lang/AbstractStringBuilder", name := "inflateIfNeededFor", desc := "(Ljava/lang/String;)V" } : Jvm.MethodName) jdk_68_method_71_code (2 : Nat) (Option.none : Option Jvm.ClassFile.FieldType)).before args0 about1 = true := code_word (m := ⟨8, 9⟩) (meth := k8m9) (c := k8c9) (by decide +kernel) rfl rfl rfl (by decide +kernel)
set_option maxRecDepth 65536 in
theorem w_c12 : (Jvm.Cond.code ({ cls := "java/lang/String", name := "getBytes", desc := "([BIB)V" } : Jvm.MethodName) jdk_42_method_147_code (4 : Nat) (Option.none : Option Jvm.ClassFile.FieldType)).before args0 about1 = true := code_word (m := ⟨13, 4⟩) (meth := k13m4) (c := k13c4) (by decide +kernel) rfl rfl rfl (by decide +kernel)
set_option maxRecDepth 65536 in
theorem w_c13 : (Jvm.Cond.code ({ cls := "java/lang/StringBuilder", name := "append", desc := "(I)Ljava/lang/StringBuilder;" } : Jvm.MethodName) jdk_67_method_15_code (2 : Nat) (Option.some (Jvm.ClassFile.FieldType.object "java/lang/StringBuilder"))).before args0 about1 = true := code_word (m := ⟨10, 2⟩) (meth := k10m2) (c := k10c2) (by decide +kernel) rfl rfl rfl (by decide +kernel)
set_option maxRecDepth 65536 in
theorem w_c14 : (Jvm.Cond.code ({ cls := "java/lang/AbstractStringBuilder", name := "append", desc := "(I)Ljava/lang/AbstractStringBuilder;" } : Jvm.MethodName) jdk_68_method_32_code (4 : Nat) (Option.some (Jvm.ClassFile.FieldType.object "java/lang/AbstractStringBuilder"))).before args0 about1 = true := code_word (m := ⟨8, 6⟩) (meth := k8m6) (c := k8c6) (by decide +kernel) rfl rfl rfl (by decide +kernel)
set_option maxRecDepth 65536 in
theorem w_c15 : (Jvm.Cond.code ({ cls := "java/lang/Integer", name := "stringSize", desc := "(I)I" } : Jvm.MethodName) jdk_33_method_13_code (4 : Nat) (Option.some Jvm.ClassFile.FieldType.int)).before args0 about1 = true := code_word (m := ⟨16, 1⟩) (meth := k16m1) (c := k16c1) (by decide +kernel) rfl rfl rfl (by decide +kernel)
set_option maxRecDepth 65536 in
theorem w_c16 : (Jvm.Cond.code ({ cls := "java/lang/AbstractStringBuilder", name := "isLatin1", desc := "()Z" } : Jvm.MethodName) jdk_68_method_68_code (1 : Nat) (Option.some Jvm.ClassFile.FieldType.boolean)).before args0 about1 = true := code_word (m := ⟨8, 8⟩) (meth := k8m8) (c := k8c8) (by decide +kernel) rfl rfl rfl (by decide +kernel)
set_option maxRecDepth 65536 in
theorem w_c17 : (Jvm.Cond.code ({ cls := "java/lang/Integer", name := "getChars", desc := "(II[B)I" } : Jvm.MethodName) jdk_33_method_12_code (7 : Nat) (Option.some Jvm.ClassFile.FieldType.int)).before args0 about1 = true := code_word (m := ⟨16, 0⟩) (meth := k16m0) (c := k16c0) (by decide +kernel) rfl rfl rfl (by decide +kernel)
set_option maxRecDepth 65536 in
theorem w_c18 : (Jvm.Cond.code ({ cls := "java/lang/StringBuilder", name := "toString", desc := "()Ljava/lang/String;" } : Jvm.MethodName) jdk_67_method_42_code (1 : Nat) (Option.some (Jvm.ClassFile.FieldType.object "java/lang/String"))).before args0 about1 = true := code_word (m := ⟨10, 3⟩) (meth := k10m3) (c := k10c3) (by decide +kernel) rfl rfl rfl (by decide +kernel)
set_option maxRecDepth 65536 in
theorem w_c19 : (Jvm.Cond.code ({ cls := "java/lang/String", name := "<init>", desc := "(Ljava/lang/StringBuilder;)V" } : Jvm.MethodName) jdk_42_method_53_code (2 : Nat) (Option.none : Option Jvm.ClassFile.FieldType)).before args0 about1 = true := code_word (m := ⟨13, 1⟩) (meth := k13m1) (c := k13c1) (by decide +kernel) rfl rfl rfl (by decide +kernel)
set_option maxRecDepth 65536 in
theorem w_c20 : (Jvm.Cond.code ({ cls := "java/lang/String", name := "<init>", desc := "(Ljava/lang/AbstractStringBuilder;Ljava/lang/Void;)V" } : Jvm.MethodName) jdk_42_method_150_code (5 : Nat) (Option.none : Option Jvm.ClassFile.FieldType)).before args0 about1 = true := code_word (m := ⟨13, 5⟩) (meth := k13m5) (c := k13c5) (by decide +kernel) rfl rfl rfl (by decide +kernel)
set_option maxRecDepth 65536 in
theorem w_c21 : (Jvm.Cond.code ({ cls := "java/lang/AbstractStringBuilder", name := "getValue", desc := "()[B" } : Jvm.MethodName) jdk_68_method_64_code (1 : Nat) (Option.some (Jvm.ClassFile.FieldType.array Jvm.ClassFile.FieldType.byte))).before args0 about1 = true := code_word (m := ⟨8, 7⟩) (meth := k8m7) (c := k8c7) (by decide +kernel) rfl rfl rfl (by decide +kernel)
set_option maxRecDepth 65536 in
theorem w_c22 : (Jvm.Cond.code ({ cls := "java/lang/StringBuilder", name := "length", desc := "()I" } : Jvm.MethodName) jdk_67_method_93_code (1 : Nat) (Option.some Jvm.ClassFile.FieldType.int)).before args0 about1 = true := code_word (m := ⟨10, 4⟩) (meth := k10m4) (c := k10c4) (by decide +kernel) rfl rfl rfl (by decide +kernel)
set_option maxRecDepth 65536 in
theorem w_c23 : (Jvm.Cond.code ({ cls := "java/lang/AbstractStringBuilder", name := "length", desc := "()I" } : Jvm.MethodName) jdk_68_method_6_code (1 : Nat) (Option.some Jvm.ClassFile.FieldType.int)).before args0 about1 = true := code_word (m := ⟨8, 2⟩) (meth := k8m2) (c := k8c2) (by decide +kernel) rfl rfl rfl (by decide +kernel)
set_option maxRecDepth 65536 in
theorem w_c24 : (Jvm.Cond.code ({ cls := "java/util/Arrays", name := "copyOfRange", desc := "([BII)[B" } : Jvm.MethodName) jdk_65_method_132_code (3 : Nat) (Option.some (Jvm.ClassFile.FieldType.array Jvm.ClassFile.FieldType.byte))).before args0 about1 = true := code_word (m := ⟨17, 3⟩) (meth := k17m3) (c := k17c3) (by decide +kernel) rfl rfl rfl (by decide +kernel)
set_option maxRecDepth 65536 in
theorem w_c25 : (Jvm.Cond.code ({ cls := "java/util/Arrays", name := "copyOfRangeByte", desc := "([BII)[B" } : Jvm.MethodName) jdk_65_method_133_code (5 : Nat) (Option.some (Jvm.ClassFile.FieldType.array Jvm.ClassFile.FieldType.byte))).before args0 about1 = true := code_word (m := ⟨17, 4⟩) (meth := k17m4) (c := k17c4) (by decide +kernel) rfl rfl rfl (by decide +kernel)
set_option maxRecDepth 65536 in
theorem w_c26 : (Jvm.Cond.code ({ cls := "java/util/Arrays", name := "checkLength", desc := "(II)V" } : Jvm.MethodName) jdk_65_method_131_code (2 : Nat) (Option.none : Option Jvm.ClassFile.FieldType)).before args0 about1 = true := code_word (m := ⟨17, 2⟩) (meth := k17m2) (c := k17c2) (by decide +kernel) rfl rfl rfl (by decide +kernel)
set_option maxRecDepth 65536 in
theorem w_c27 : (Jvm.Cond.code ({ cls := "java/lang/Math", name := "min", desc := "(II)I" } : Jvm.MethodName) jdk_29_method_69_code (2 : Nat) (Option.some Jvm.ClassFile.FieldType.int)).before args0 about1 = true := code_word (m := ⟨18, 3⟩) (meth := k18m3) (c := k18c3) (by decide +kernel) rfl rfl rfl (by decide +kernel)
set_option maxRecDepth 65536 in
theorem w_c28 : (Jvm.Cond.code ({ cls := "com/example/metasearchd/metasearchd/engine/EngineException", name := "<init>", desc := "(Ljava/lang/String;Ljava/lang/String;Ljava/lang/Throwable;)V" } : Jvm.MethodName) prog_9_method_1_code (4 : Nat) (Option.none : Option Jvm.ClassFile.FieldType)).before args0 about1 = true := code_word (m := ⟨5, 0⟩) (meth := k5m0) (c := k5c0) (by decide +kernel) rfl rfl rfl (by decide +kernel)
set_option maxRecDepth 65536 in
theorem w_c29 : (Jvm.Cond.code ({ cls := "java/lang/Exception", name := "<init>", desc := "(Ljava/lang/String;Ljava/lang/Throwable;)V" } : Jvm.MethodName) jdk_59_method_3_code (3 : Nat) (Option.none : Option Jvm.ClassFile.FieldType)).before args0 about1 = true := code_word (m := ⟨4, 1⟩) (meth := k4m1) (c := k4c1) (by decide +kernel) rfl rfl rfl (by decide +kernel)
set_option maxRecDepth 65536 in
theorem w_c30 : (Jvm.Cond.code ({ cls := "java/lang/Throwable", name := "<init>", desc := "(Ljava/lang/String;Ljava/lang/Throwable;)V" } : Jvm.MethodName) jdk_78_method_3_code (3 : Nat) (Option.none : Option Jvm.ClassFile.FieldType)).before args0 about1 = true := code_word (m := ⟨3, 1⟩) (meth := k3m1) (c := k3c1) (by decide +kernel) rfl rfl rfl (by decide +kernel)
set_option maxRecDepth 65536 in
theorem w_c31 : (Jvm.Cond.code ({ cls := "java/lang/Throwable", name := "<init>", desc := "()V" } : Jvm.MethodName) jdk_78_method_1_code (1 : Nat) (Option.none : Option Jvm.ClassFile.FieldType)).before args0 about1 = true := code_word (m := ⟨3, 0⟩) (meth := k3m0) (c := k3c0) (by decide +kernel) rfl rfl rfl (by decide +kernel)
set_option maxRecDepth 65536 in
theorem w_c32 : (Jvm.Cond.code ({ cls := "com/example/metasearchd/metasearchd/engine/EngineException", name := "reason", desc := "()Ljava/lang/String;" } : Jvm.MethodName) prog_9_method_7_code (1 : Nat) (Option.some (Jvm.ClassFile.FieldType.object "java/lang/String"))).before args0 about1 = true := code_word (m := ⟨5, 2⟩) (meth := k5m2) (c := k5c2) (by decide +kernel) rfl rfl rfl (by decide +kernel)
set_option maxRecDepth 65536 in
theorem w_c33 : (Jvm.Cond.code ({ cls := "java/lang/Math", name := "abs", desc := "(J)J" } : Jvm.MethodName) jdk_29_method_61_code (2 : Nat) (Option.some Jvm.ClassFile.FieldType.long)).before args0 about1 = true := code_word (m := ⟨18, 1⟩) (meth := k18m1) (c := k18c1) (by decide +kernel) rfl rfl rfl (by decide +kernel)
set_option maxRecDepth 65536 in
theorem w_c34 : (Jvm.Cond.code ({ cls := "com/example/metasearchd/metasearchd/engine/EngineExceptionHttpStatusPinLaw", name := "digits", desc := "(J)I" } : Jvm.MethodName) method_3_code (2 : Nat) (Option.some Jvm.ClassFile.FieldType.int)).before args0 about1 = true := code_word (m := ⟨1, 2⟩) (meth := k1m2) (c := k1c2) (by decide +kernel) rfl rfl rfl (by decide +kernel)
set_option maxRecDepth 65536 in
theorem w_c35 : (Jvm.Cond.code ({ cls := "com/example/metasearchd/metasearchd/engine/EngineExceptionHttpStatusPinLaw", name := "at", desc := "(Ljava/lang/String;IIZJI)Z" } : Jvm.MethodName) method_5_code (7 : Nat) (Option.some Jvm.ClassFile.FieldType.boolean)).before args0 about1 = true := code_word (m := ⟨1, 4⟩) (meth := k1m4) (c := k1c4) (by decide +kernel) rfl rfl rfl (by decide +kernel)
set_option maxRecDepth 65536 in
theorem w_c36 : (Jvm.Cond.code ({ cls := "java/lang/String", name := "charAt", desc := "(I)C" } : Jvm.MethodName) jdk_42_method_56_code (2 : Nat) (Option.some Jvm.ClassFile.FieldType.char)).before args0 about1 = true := code_word (m := ⟨13, 3⟩) (meth := k13m3) (c := k13c3) (by decide +kernel) rfl rfl rfl (by decide +kernel)
set_option maxRecDepth 65536 in
theorem w_c37 : (Jvm.Cond.code ({ cls := "java/lang/String", name := "isLatin1", desc := "()Z" } : Jvm.MethodName) jdk_42_method_154_code (1 : Nat) (Option.some Jvm.ClassFile.FieldType.boolean)).before args0 about1 = true := code_word (m := ⟨13, 7⟩) (meth := k13m7) (c := k13c7) (by decide +kernel) rfl rfl rfl (by decide +kernel)
set_option maxRecDepth 65536 in
theorem w_c38 : (Jvm.Cond.code ({ cls := "java/lang/StringLatin1", name := "charAt", desc := "([BI)C" } : Jvm.MethodName) jdk_43_method_2_code (2 : Nat) (Option.some Jvm.ClassFile.FieldType.char)).before args0 about1 = true := code_word (m := ⟨19, 1⟩) (meth := k19m1) (c := k19c1) (by decide +kernel) rfl rfl rfl (by decide +kernel)
set_option maxRecDepth 65536 in
theorem w_c39 : (Jvm.Cond.code ({ cls := "java/lang/String", name := "checkIndex", desc := "(II)V" } : Jvm.MethodName) jdk_42_method_155_code (2 : Nat) (Option.none : Option Jvm.ClassFile.FieldType)).before args0 about1 = true := code_word (m := ⟨13, 8⟩) (meth := k13m8) (c := k13c8) (by decide +kernel) rfl rfl rfl (by decide +kernel)
set_option maxRecDepth 65536 in
theorem w_c40 : (Jvm.Cond.code ({ cls := "jdk/internal/util/Preconditions", name := "checkIndex", desc := "(IILjava/util/function/BiFunction;)I" } : Jvm.MethodName) jdk_41_method_11_code (3 : Nat) (Option.some Jvm.ClassFile.FieldType.int)).before args0 about1 = true := code_word (m := ⟨20, 1⟩) (meth := k20m1) (c := k20c1) (by decide +kernel) rfl rfl rfl (by decide +kernel)
set_option maxRecDepth 65536 in
theorem w_c41 : (Jvm.Cond.code ({ cls := "com/example/metasearchd/metasearchd/engine/EngineExceptionHttpStatusPinLaw", name := "expected", desc := "(IZJI)C" } : Jvm.MethodName) method_6_code (8 : Nat) (Option.some Jvm.ClassFile.FieldType.char)).before args0 about1 = true := code_word (m := ⟨1, 5⟩) (meth := k1m5) (c := k1c5) (by decide +kernel) rfl rfl rfl (by decide +kernel)
set_option maxRecDepth 65536 in
theorem w_c42 : (Jvm.Cond.code ({ cls := "com/example/metasearchd/metasearchd/engine/EngineExceptionHttpStatusPinLaw", name := "pow10", desc := "(I)J" } : Jvm.MethodName) method_4_code (2 : Nat) (Option.some Jvm.ClassFile.FieldType.long)).before args0 about1 = true := code_word (m := ⟨1, 3⟩) (meth := k1m3) (c := k1c3) (by decide +kernel) rfl rfl rfl (by decide +kernel)
set_option maxRecDepth 65536 in
theorem w_c43 : (Jvm.Cond.code ({ cls := "java/lang/AbstractStringBuilder", name := "newCapacity", desc := "(I)I" } : Jvm.MethodName) jdk_68_method_10_code (6 : Nat) (Option.some Jvm.ClassFile.FieldType.int)).before args0 about1 = true := code_word (m := ⟨8, 4⟩) (meth := k8m4) (c := k8c4) (by decide +kernel) rfl rfl rfl (by decide +kernel)
set_option maxRecDepth 65536 in
theorem w_c44 : (Jvm.Cond.code ({ cls := "jdk/internal/util/ArraysSupport", name := "newLength", desc := "(III)I" } : Jvm.MethodName) jdk_48_method_27_code (4 : Nat) (Option.some Jvm.ClassFile.FieldType.int)).before args0 about1 = true := code_word (m := ⟨21, 1⟩) (meth := k21m1) (c := k21c1) (by decide +kernel) rfl rfl rfl (by decide +kernel)
set_option maxRecDepth 65536 in
theorem w_c45 : (Jvm.Cond.code ({ cls := "java/lang/Math", name := "max", desc := "(II)I" } : Jvm.MethodName) jdk_29_method_65_code (2 : Nat) (Option.some Jvm.ClassFile.FieldType.int)).before args0 about1 = true := code_word (m := ⟨18, 2⟩) (meth := k18m2) (c := k18c2) (by decide +kernel) rfl rfl rfl (by decide +kernel)
set_option maxRecDepth 65536 in
theorem w_c46 : (Jvm.Cond.code ({ cls := "java/util/Arrays", name := "copyOf", desc := "([BI)[B" } : Jvm.MethodName) jdk_65_method_121_code (3 : Nat) (Option.some (Jvm.ClassFile.FieldType.array Jvm.ClassFile.FieldType.byte))).before args0 about1 = true := code_word (m := ⟨17, 1⟩) (meth := k17m1) (c := k17c1) (by decide +kernel) rfl rfl rfl (by decide +kernel)
def codes1 : List Jvm.Cond := [Jvm.Cond.code x code maxLocals ret, Jvm.Cond.code ({ cls := "com/example/metasearchd/metasearchd/engine/EngineException", name := "httpStatus", desc := "(I)Lcom/example/metasearchd/metasearchd/engine/EngineException;" } : Jvm.MethodName) prog_9_method_4_code (1 : Nat) (Option.some (Jvm.ClassFile.FieldType.object "com/example/metasearchd/metasearchd/engine/EngineException")), Jvm.Cond.code ({ cls := "java/lang/StringBuilder", name := "<init>", desc := "()V" } : Jvm.MethodName) jdk_67_method_1_code (1 : Nat) (Option.none : Option Jvm.ClassFile.FieldType), Jvm.Cond.code ({ cls := "java/lang/AbstractStringBuilder", name := "<init>", desc := "(I)V" } : Jvm.MethodName) jdk_68_method_2_code (2 : Nat) (Option.none : Option Jvm.ClassFile.FieldType), Jvm.Cond.code ({ cls := "java/lang/Object", name := "<init>", desc := "()V" } : Jvm.MethodName) object_method_1_code (1 : Nat) (Option.none : Option Jvm.ClassFile.FieldType), Jvm.Cond.code ({ cls := "java/lang/StringBuilder", name := "append", desc := "(Ljava/lang/String;)Ljava/lang/StringBuilder;" } : Jvm.MethodName) jdk_67_method_7_code (2 : Nat) (Option.some (Jvm.ClassFile.FieldType.object "java/lang/StringBuilder")), Jvm.Cond.code ({ cls := "java/lang/AbstractStringBuilder", name := "append", desc := "(Ljava/lang/String;)Ljava/lang/AbstractStringBuilder;" } : Jvm.MethodName) jdk_68_method_22_code (3 : Nat) (Option.some (Jvm.ClassFile.FieldType.object "java/lang/AbstractStringBuilder")), Jvm.Cond.code ({ cls := "java/lang/String", name := "length", desc := "()I" } : Jvm.MethodName) jdk_42_method_54_code (1 : Nat) (Option.some Jvm.ClassFile.FieldType.int), Jvm.Cond.code ({ cls := "java/lang/String", name := "coder", desc := "()B" } : Jvm.MethodName) jdk_42_method_152_code (1 : Nat) (Option.some Jvm.ClassFile.FieldType.byte), Jvm.Cond.code ({ cls := "java/lang/AbstractStringBuilder", name := "ensureCapacityInternal", desc := "(I)V" } : Jvm.MethodName) jdk_68_method_9_code (3 : Nat) (Option.none : Option Jvm.ClassFile.FieldType), Jvm.Cond.code ({ cls := "java/lang/AbstractStringBuilder", name := "putStringAt", desc := "(ILjava/lang/String;)V" } : Jvm.MethodName) jdk_68_method_73_code (3 : Nat) (Option.none : Option Jvm.ClassFile.FieldType), Jvm.Cond.code ({ cls := "java/lang/AbstractStringBuilder", name := "inflateIfNeededFor", desc := "(Ljava/lang/String;)V" } : Jvm.MethodName) jdk_68_method_71_code (2 : Nat) (Option.none : Option Jvm.ClassFile.FieldType), Jvm.Cond.code ({ cls := "java/lang/String", name := "getBytes", desc := "([BIB)V" } : Jvm.MethodName) jdk_42_method_147_code (4 : Nat) (Option.none : Option Jvm.ClassFile.FieldType), Jvm.Cond.code ({ cls := "java/lang/StringBuilder", name := "append", desc := "(I)Ljava/lang/StringBuilder;" } : Jvm.MethodName) jdk_67_method_15_code (2 : Nat) (Option.some (Jvm.ClassFile.FieldType.object "java/lang/StringBuilder")), Jvm.Cond.code ({ cls := "java/lang/AbstractStringBuilder", name := "append", desc := "(I)Ljava/lang/AbstractStringBuilder;" } : Jvm.MethodName) jdk_68_method_32_code (4 : Nat) (Option.some (Jvm.ClassFile.FieldType.object "java/lang/AbstractStringBuilder")), Jvm.Cond.code ({ cls := "java/lang/Integer", name := "stringSize", desc := "(I)I" } : Jvm.MethodName) jdk_33_method_13_code (4 : Nat) (Option.some Jvm.ClassFile.FieldType.int), Jvm.Cond.code ({ cls := "java/lang/AbstractStringBuilder", name := "isLatin1", desc := "()Z" } : Jvm.MethodName) jdk_68_method_68_code (1 : Nat) (Option.some Jvm.ClassFile.FieldType.boolean), Jvm.Cond.code ({ cls := "java/lang/Integer", name := "getChars", desc := "(II[B)I" } : Jvm.MethodName) jdk_33_method_12_code (7 : Nat) (Option.some Jvm.ClassFile.FieldType.int), Jvm.Cond.code ({ cls := "java/lang/StringBuilder", name := "toString", desc := "()Ljava/lang/String;" } : Jvm.MethodName) jdk_67_method_42_code (1 : Nat) (Option.some (Jvm.ClassFile.FieldType.object "java/lang/String")), Jvm.Cond.code ({ cls := "java/lang/String", name := "<init>", desc := "(Ljava/lang/StringBuilder;)V" } : Jvm.MethodName) jdk_42_method_53_code (2 : Nat) (Option.none : Option Jvm.ClassFile.FieldType), Jvm.Cond.code ({ cls := "java/lang/String", name := "<init>", desc := "(Ljava/lang/AbstractStringBuilder;Ljava/lang/Void;)V" } : Jvm.MethodName) jdk_42_method_150_code (5 : Nat) (Option.none : Option Jvm.ClassFile.FieldType), Jvm.Cond.code ({ cls := "java/lang/AbstractStringBuilder", name := "getValue", desc := "()[B" } : Jvm.MethodName) jdk_68_method_64_code (1 : Nat) (Option.some (Jvm.ClassFile.FieldType.array Jvm.ClassFile.FieldType.byte)), Jvm.Cond.code ({ cls := "java/lang/StringBuilder", name := "length", desc := "()I" } : Jvm.MethodName) jdk_67_method_93_code (1 : Nat) (Option.some Jvm.ClassFile.FieldType.int), Jvm.Cond.code ({ cls := "java/lang/AbstractStringBuilder", name := "length", desc := "()I" } : Jvm.MethodName) jdk_68_method_6_code (1 : Nat) (Option.some Jvm.ClassFile.FieldType.int), Jvm.Cond.code ({ cls := "java/util/Arrays", name := "copyOfRange", desc := "([BII)[B" } : Jvm.MethodName) jdk_65_method_132_code (3 : Nat) (Option.some (Jvm.ClassFile.FieldType.array Jvm.ClassFile.FieldType.byte)), Jvm.Cond.code ({ cls := "java/util/Arrays", name := "copyOfRangeByte", desc := "([BII)[B" } : Jvm.MethodName) jdk_65_method_133_code (5 : Nat) (Option.some (Jvm.ClassFile.FieldType.array Jvm.ClassFile.FieldType.byte)), Jvm.Cond.code ({ cls := "java/util/Arrays", name := "checkLength", desc := "(II)V" } : Jvm.MethodName) jdk_65_method_131_code (2 : Nat) (Option.none : Option Jvm.ClassFile.FieldType), Jvm.Cond.code ({ cls := "java/lang/Math", name := "min", desc := "(II)I" } : Jvm.MethodName) jdk_29_method_69_code (2 : Nat) (Option.some Jvm.ClassFile.FieldType.int), Jvm.Cond.code ({ cls := "com/example/metasearchd/metasearchd/engine/EngineException", name := "<init>", desc := "(Ljava/lang/String;Ljava/lang/String;Ljava/lang/Throwable;)V" } : Jvm.MethodName) prog_9_method_1_code (4 : Nat) (Option.none : Option Jvm.ClassFile.FieldType), Jvm.Cond.code ({ cls := "java/lang/Exception", name := "<init>", desc := "(Ljava/lang/String;Ljava/lang/Throwable;)V" } : Jvm.MethodName) jdk_59_method_3_code (3 : Nat) (Option.none : Option Jvm.ClassFile.FieldType), Jvm.Cond.code ({ cls := "java/lang/Throwable", name := "<init>", desc := "(Ljava/lang/String;Ljava/lang/Throwable;)V" } : Jvm.MethodName) jdk_78_method_3_code (3 : Nat) (Option.none : Option Jvm.ClassFile.FieldType), Jvm.Cond.code ({ cls := "java/lang/Throwable", name := "<init>", desc := "()V" } : Jvm.MethodName) jdk_78_method_1_code (1 : Nat) (Option.none : Option Jvm.ClassFile.FieldType), Jvm.Cond.code ({ cls := "com/example/metasearchd/metasearchd/engine/EngineException", name := "reason", desc := "()Ljava/lang/String;" } : Jvm.MethodName) prog_9_method_7_code (1 : Nat) (Option.some (Jvm.ClassFile.FieldType.object "java/lang/String")), Jvm.Cond.code ({ cls := "java/lang/Math", name := "abs", desc := "(J)J" } : Jvm.MethodName) jdk_29_method_61_code (2 : Nat) (Option.some Jvm.ClassFile.FieldType.long), Jvm.Cond.code ({ cls := "com/example/metasearchd/metasearchd/engine/EngineExceptionHttpStatusPinLaw", name := "digits", desc := "(J)I" } : Jvm.MethodName) method_3_code (2 : Nat) (Option.some Jvm.ClassFile.FieldType.int), Jvm.Cond.code ({ cls := "com/example/metasearchd/metasearchd/engine/EngineExceptionHttpStatusPinLaw", name := "at", desc := "(Ljava/lang/String;IIZJI)Z" } : Jvm.MethodName) method_5_code (7 : Nat) (Option.some Jvm.ClassFile.FieldType.boolean), Jvm.Cond.code ({ cls := "java/lang/String", name := "charAt", desc := "(I)C" } : Jvm.MethodName) jdk_42_method_56_code (2 : Nat) (Option.some Jvm.ClassFile.FieldType.char), Jvm.Cond.code ({ cls := "java/lang/String", name := "isLatin1", desc := "()Z" } : Jvm.MethodName) jdk_42_method_154_code (1 : Nat) (Option.some Jvm.ClassFile.FieldType.boolean), Jvm.Cond.code ({ cls := "java/lang/StringLatin1", name := "charAt", desc := "([BI)C" } : Jvm.MethodName) jdk_43_method_2_code (2 : Nat) (Option.some Jvm.ClassFile.FieldType.char), Jvm.Cond.code ({ cls := "java/lang/String", name := "checkIndex", desc := "(II)V" } : Jvm.MethodName) jdk_42_method_155_code (2 : Nat) (Option.none : Option Jvm.ClassFile.FieldType), Jvm.Cond.code ({ cls := "jdk/internal/util/Preconditions", name := "checkIndex", desc := "(IILjava/util/function/BiFunction;)I" } : Jvm.MethodName) jdk_41_method_11_code (3 : Nat) (Option.some Jvm.ClassFile.FieldType.int), Jvm.Cond.code ({ cls := "com/example/metasearchd/metasearchd/engine/EngineExceptionHttpStatusPinLaw", name := "expected", desc := "(IZJI)C" } : Jvm.MethodName) method_6_code (8 : Nat) (Option.some Jvm.ClassFile.FieldType.char), Jvm.Cond.code ({ cls := "com/example/metasearchd/metasearchd/engine/EngineExceptionHttpStatusPinLaw", name := "pow10", desc := "(I)J" } : Jvm.MethodName) method_4_code (2 : Nat) (Option.some Jvm.ClassFile.FieldType.long), Jvm.Cond.code ({ cls := "java/lang/AbstractStringBuilder", name := "newCapacity", desc := "(I)I" } : Jvm.MethodName) jdk_68_method_10_code (6 : Nat) (Option.some Jvm.ClassFile.FieldType.int), Jvm.Cond.code ({ cls := "jdk/internal/util/ArraysSupport", name := "newLength", desc := "(III)I" } : Jvm.MethodName) jdk_48_method_27_code (4 : Nat) (Option.some Jvm.ClassFile.FieldType.int), Jvm.Cond.code ({ cls := "java/lang/Math", name := "max", desc := "(II)I" } : Jvm.MethodName) jdk_29_method_65_code (2 : Nat) (Option.some Jvm.ClassFile.FieldType.int), Jvm.Cond.code ({ cls := "java/util/Arrays", name := "copyOf", desc := "([BI)[B" } : Jvm.MethodName) jdk_65_method_121_code (3 : Nat) (Option.some (Jvm.ClassFile.FieldType.array Jvm.ClassFile.FieldType.byte))]
set_option maxRecDepth 65536 in
theorem codes_eq : words1.filter isCode = codes1 := rfl
theorem w_codes : ∀ c ∈ words1.filter isCode, c.before args0 about1 = true := by
  rw [codes_eq]
  intro c hc
  simp only [codes1, List.mem_cons, List.not_mem_nil, or_false] at hc
  rcases hc with rfl | rfl | rfl | rfl | rfl | rfl | rfl | rfl | rfl | rfl | rfl | rfl | rfl | rfl | rfl | rfl | rfl | rfl | rfl | rfl | rfl | rfl | rfl | rfl | rfl | rfl | rfl | rfl | rfl | rfl | rfl | rfl | rfl | rfl | rfl | rfl | rfl | rfl | rfl | rfl | rfl | rfl | rfl | rfl | rfl | rfl | rfl
  · exact w_c0
  · exact w_c1
  · exact w_c2
  · exact w_c3
  · exact w_c4
  · exact w_c5
  · exact w_c6
  · exact w_c7
  · exact w_c8
  · exact w_c9
  · exact w_c10
  · exact w_c11
  · exact w_c12
  · exact w_c13
  · exact w_c14
  · exact w_c15
  · exact w_c16
  · exact w_c17
  · exact w_c18
  · exact w_c19
  · exact w_c20
  · exact w_c21
  · exact w_c22
  · exact w_c23
  · exact w_c24
  · exact w_c25
  · exact w_c26
  · exact w_c27
  · exact w_c28
  · exact w_c29
  · exact w_c30
  · exact w_c31
  · exact w_c32
  · exact w_c33
  · exact w_c34
  · exact w_c35
  · exact w_c36
  · exact w_c37
  · exact w_c38
  · exact w_c39
  · exact w_c40
  · exact w_c41
  · exact w_c42
  · exact w_c43
  · exact w_c44
  · exact w_c45
  · exact w_c46
set_option maxRecDepth 65536 in
theorem w_t1 : (words1.take 24).all (fun c => isCode c || c.before args0 about1) = true := by decide +kernel
set_option maxRecDepth 65536 in
theorem w_t2 : ((words1.drop 24).take 24).all (fun c => isCode c || c.before args0 about1) = true := by decide +kernel
set_option maxRecDepth 65536 in
theorem w_t3 : (((words1.drop 24).drop 24).take 24).all (fun c => isCode c || c.before args0 about1) = true := by decide +kernel
set_option maxRecDepth 65536 in
theorem w_t4 : ((((words1.drop 24).drop 24).drop 24).take 24).all (fun c => isCode c || c.before args0 about1) = true := by decide +kernel
set_option maxRecDepth 65536 in
theorem w_t5 : (((((words1.drop 24).drop 24).drop 24).drop 24).take 24).all (fun c => isCode c || c.before args0 about1) = true := by decide +kernel
set_option maxRecDepth 65536 in
theorem w_t6 : ((((((words1.drop 24).drop 24).drop 24).drop 24).drop 24).take 24).all (fun c => isCode c || c.before args0 about1) = true := by decide +kernel
set_option maxRecDepth 65536 in
theorem w_t7 : (((((((words1.drop 24).drop 24).drop 24).drop 24).drop 24).drop 24).take 24).all (fun c => isCode c || c.before args0 about1) = true := by decide +kernel
set_option maxRecDepth 65536 in
theorem w_t8 : ((((((((words1.drop 24).drop 24).drop 24).drop 24).drop 24).drop 24).drop 24).take 24).all (fun c => isCode c || c.before args0 about1) = true := by decide +kernel
set_option maxRecDepth 65536 in
theorem w_t9 : (((((((((words1.drop 24).drop 24).drop 24).drop 24).drop 24).drop 24).drop 24).drop 24).take 24).all (fun c => isCode c || c.before args0 about1) = true := by decide +kernel
set_option maxRecDepth 65536 in
theorem w_t10 : ((((((((((words1.drop 24).drop 24).drop 24).drop 24).drop 24).drop 24).drop 24).drop 24).drop 24).take 24).all (fun c => isCode c || c.before args0 about1) = true := by decide +kernel
set_option maxRecDepth 65536 in
theorem w_t11 : (((((((((((words1.drop 24).drop 24).drop 24).drop 24).drop 24).drop 24).drop 24).drop 24).drop 24).drop 24).take 24).all (fun c => isCode c || c.before args0 about1) = true := by decide +kernel
set_option maxRecDepth 65536 in
theorem w_t12 : (((((((((((words1.drop 24).drop 24).drop 24).drop 24).drop 24).drop 24).drop 24).drop 24).drop 24).drop 24).drop 24).all (fun c => isCode c || c.before args0 about1) = true := by decide +kernel
theorem w_tables : (allAtoms (Jvm.Cond.code x code maxLocals ret :: tables_1)).before args0 about1 = true := by
  rw [allAtoms_all]
  show words1.all (fun c => c.before args0 about1) = true
  refine all_split ?_ w_codes
  rw [← List.take_append_drop 24 words1, List.all_append, w_t1, ← List.take_append_drop 24 (words1.drop 24), List.all_append, w_t2, ← List.take_append_drop 24 ((words1.drop 24).drop 24), List.all_append, w_t3, ← List.take_append_drop 24 (((words1.drop 24).drop 24).drop 24), List.all_append, w_t4, ← List.take_append_drop 24 ((((words1.drop 24).drop 24).drop 24).drop 24), List.all_append, w_t5, ← List.take_append_drop 24 (((((words1.drop 24).drop 24).drop 24).drop 24).drop 24), List.all_append, w_t6, ← List.take_append_drop 24 ((((((words1.drop 24).drop 24).drop 24).drop 24).drop 24).drop 24), List.all_append, w_t7, ← List.take_append_drop 24 (((((((words1.drop 24).drop 24).drop 24).drop 24).drop 24).drop 24).drop 24), List.all_append, w_t8, ← List.take_append_drop 24 ((((((((words1.drop 24).drop 24).drop 24).drop 24).drop 24).drop 24).drop 24).drop 24), List.all_append, w_t9, ← List.take_append_drop 24 (((((((((words1.drop 24).drop 24).drop 24).drop 24).drop 24).drop 24).drop 24).drop 24).drop 24), List.all_append, w_t10, ← List.take_append_drop 24 ((((((((((words1.drop 24).drop 24).drop 24).drop 24).drop 24).drop 24).drop 24).drop 24).drop 24).drop 24), List.all_append, w_t11, w_t12]
  rfl
set_option maxRecDepth 65536 in
theorem w_rest : rest_1_c.before args0 about1 = true := by decide +kernel
set_option maxRecDepth 65536 in
theorem w_case : (Jvm.Cond.and given_1 narrow_1).before args0 about1 = true := by decide +kernel
set_option maxRecDepth 65536 in
theorem w_consts : constsHeld consts_1 about1 := Jvm.Lit.constsHeldB_iff.mp (by decide +kernel)
theorem w_applies : (headSpec (Jvm.Cond.code x code maxLocals ret :: tables_1) room_1).applies x e0.platform about1 = true :=
  (Spec.applies_iff w_frames).mpr ⟨w_running, w_runnable, w_alone, w_named, w_hears, w_ripe, w_room, w_tables⟩
theorem atStart : AtStart classFile x code maxLocals ret World_1 tables_1 room_1 Calls_1 rest_1 Pre_1 launch0 p0 e0 about1 theMethod args0 below0 :=
  ⟨lists_1, trivial, launch0.admits_env _ _ _, launch0.least_env, fairChoices_fair.cas, fairChoices_fair.clock, w_frames, w_args, w_heap, w_applies, ⟨(by decide +kernel : framesKnown about1 = true), ⟨(by decide +kernel : tablesKnown about1 = true), ⟨w_consts, trivial⟩⟩⟩, w_rest, w_case⟩
end start1
theorem witness_1 : WitnessClaimed_1 := ⟨start1.p0, start1.e0, start1.about1, start1.theMethod, start1.args0, start1.below0, start1.atStart⟩
end Jvm.Pilot.@@N@@
