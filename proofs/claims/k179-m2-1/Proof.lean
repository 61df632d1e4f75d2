import JvmDerived
import JvmDerived.Pilot.@@N@@Statement
import JvmDerived.Pilot.@@N@@Code
set_option linter.unusedVariables false
set_option linter.unusedSimpArgs false
namespace Jvm.Pilot.@@N@@
open Jvm Jvm.ClassFile Sem Op Lib Jvm.Free Jvm.Stand Jvm.LawKit Jvm.RoadKit Bundle Jvm.Pilot.@@N@@.Jvm.D
theorem own_lt {x y : Int32} (h : x < y) : if_icmp.holds .lt x y = true ∧ if_icmp.holds .ge x y = false := by simp [if_icmp.holds, h, Int32.not_le.mpr h]
def own_Goes (p : Program) (e : Env) (below : List Frame) (s : State) (Q : Option Value → Heap → List Loc → Prop) (kc ks : Nat) (U : State) : Prop :=
  ∃ t o, Steps p.tables e below U t ∧ t.status = .running ∧ Ended t below o ∧ ∃ v L, o = .returned v ∧ Q v t.heap L ∧ FrameEnd s o t L kc ks
theorem own_go {p : Program} {e : Env} {below : List Frame} {s : State} {Q : Option Value → Heap → List Loc → Prop} {kc ks : Nat} {U V : State} (h : ∀ t, Steps p.tables e below V t → Steps p.tables e below U t) (g : own_Goes p e below s Q kc ks V) : own_Goes p e below s Q kc ks U := by
  obtain ⟨t, o, h1, r⟩ := g
  exact ⟨t, o, h t h1, r⟩
theorem own_out {p : Program} {l : Launch} {e : Env} {R : Room} {s : State} {m : MethodId} {args : Array Value} {below : List Frame} {meth : Method} {c : Code} {T : State} {locs : List Loc} {cells slots : Nat} {h : Heap} {Q : Option Value → Heap → List Loc → Prop} {kc ks : Nat} {U : State} {v : Option Value}
    (X : Stand p l e R s m args below meth c T locs cells slots) (hlk : meth.locks = false) (hv : meth.sig.returnType = none → v = none)
    (hs : ∀ fs, (∀ (f : JFrame) (acts : List Action), f.method = m → f.locked = none → f.entered = [] → (doReturn e (T.setTop f) acts v).1 = T.setFrames fs) → Steps p.tables e below U (T.setFrames fs))
    (eT : T.heap = h) (hQ : Q v h locs) (hc : cells ≤ kc) (hsl : slots ≤ ks) : own_Goes p e below s Q kc ks U := by
  obtain ⟨fs, hr, hrun, hended, hW, hsame⟩ := X.leave hv hlk
  subst eT
  exact ⟨_, _, hs fs hr, hrun, hended, _, _, rfl, hQ, ⟨_, rfl⟩, hW, hsame.mono hc hsl⟩
theorem own_ks {h0 h : Heap} {ws : List Addr} (K : Keep h0 h ws) : h0.size ≤ h.size := K.1
theorem own_cmpL (x : Int64) : XT.cmpL x x = 0 := by simp [XT.cmpL]
theorem own_vne {a b : Int32} (h : a ≠ b) : Value.int a ≠ .int b := fun q => h (Value.int.inj q)
theorem own_nn (x : Int32) : ¬ (x &&& 2147483647) < 0 := fun h => absurd ((XT.and_neg32 x 2147483647).mp h).2 (by decide)
theorem own_lk {p : Program} {l : Launch} {x : MethodName} {S : Spec} {code : ByteArray} {maxLocals : Nat} {ret : Option FieldType} {e : Env} {s : State} {m : MethodId} {args : Array Value} {below : List Frame} {meth : Method} {c : Code} {s₁ : State} (B : BodyLoose p l x S code maxLocals ret e s m args below meth c s₁) : meth.locks = false := B.notSynchronized
theorem own_if (cd : ClassFile.Cond) {x : Int32} {b : Bool} (h : if_icmp.holds cd x 0 = b) : ifCond.holds cd x = b := by rw [if0]; exact h
theorem own_aeq {a b : Addr} (h : a = b) : XT.acmp .eq (.ref a) (.ref b) = true ∧ XT.acmp .ne (.ref a) (.ref b) = false := by subst h; exact ⟨XT.aa_eq_t rfl, XT.aa_ne_f rfl⟩
theorem own_ane {a b : Addr} (h : ¬ a = b) : XT.acmp .eq (.ref a) (.ref b) = false ∧ XT.acmp .ne (.ref a) (.ref b) = true := ⟨XT.aa_eq_f (fun q => h (Value.ref.inj q)), XT.aa_ne_t (fun q => h (Value.ref.inj q))⟩
theorem own_eqI {args : Array Value} {s : State} {u : Term} {k : Int32} (h : (Jvm.Cond.eq u (.int k)).value args s none s [] = some true) : u.eval args s none [] s = some (.int k) := by
  simp only [Jvm.Cond.value] at h
  cases hf : u.eval args s none [] s with
  | none => simp [hf] at h
  | some v => cases v <;> simp [hf, Term.eval] at h; subst h; rfl
theorem own_eqJ {args : Array Value} {s : State} {u : Term} {k : Int64} (h : (Jvm.Cond.eq u (.long k)).value args s none s [] = some true) : u.eval args s none [] s = some (.long k) := by
  simp only [Jvm.Cond.value] at h
  cases hf : u.eval args s none [] s with
  | none => simp [hf] at h
  | some v => cases v <;> simp [hf, Term.eval] at h; subst h; rfl
theorem own_cl_gt (x y : Int64) : 0 < XT.cmpL x y ↔ y < x := by
  unfold XT.cmpL
  by_cases h : y < x
  · simp [h]
  · by_cases g : x = y
    · subst g; simp [h]
    · simp [h, g]
theorem own_cl_lt (x y : Int64) : XT.cmpL x y < 0 ↔ x < y := by
  unfold XT.cmpL
  by_cases h : y < x
  · have : ¬ x < y := fun q => by rw [Int64.lt_iff_toInt_lt] at h q; omega
    simp [h, this]
  · by_cases g : x = y
    · subst g; simp [h]
    · have : x < y := by
        rw [Int64.lt_iff_toInt_lt] at h ⊢
        have ne : x.toInt ≠ y.toInt := fun q => g (Int64.toInt_inj.mp q)
        omega
      simp [h, g, this]
theorem own_privateBack {p : Program} {l : Launch} {e : Env} {R : Room} {s : State} {m : MethodId} {args : Array Value} {below : List Frame} {meth : Method} {c : Code} {T : State} {locs : List Loc} {cells slots : Nat}
    (X : Stand p l e R s m args below meth c T locs cells slots) (hexec : p.tables.exec = Jvm.exec) {own : String} {index k : Nat} {y : MethodName} {bytes : ByteArray} {maxL : Nat} {ret : Option FieldType}
    (hown : s.vm.findClass own = some m.cls) (hlink : (Jvm.Cond.methodLink own index y).before args s = true) (hinst : (Jvm.Cond.instanceMethod y).before args s = true) (hmk : (Jvm.Cond.instantiable y.cls k).before args s = true)
    (hpriv : s.PrivateAt y) (hcode : (Jvm.Cond.code y bytes maxL ret).before args s = true) (hy : y.cls ≠ "java/lang/invoke/MethodHandle" ∧ y.cls ≠ "java/lang/invoke/VarHandle")
    {W : Nat} {Pre : Free.Pt → Array Value → Prop} {Post : Free.Pt → Array Value → Option Value → Free.Pt → Prop} (hK : Free.Back l R p e below s args y 3 W Pre Post)
    {g : JFrame} (hg : g.method = m) (hsize : g.locals.size = c.maxLocals) {s₀ : State} (hcome : Steps p.tables e below s₀ (T.setTop g)) {a : Addr} {cell : Cell} (hcell : T.heap[a]? = some cell) (hobj : ∀ q, cell.vm ≠ .statics q)
    {argsL rest : List Value} (hlen : ∀ sig, parseMethodDescriptor y.desc = some sig → argsL.length = sig.parameters.length)
    (hstack : g.stack = argsL.reverse ++ .ref a :: rest) (hW : 2 * g.monitorRoom + (rest.map fun v => v.category).sum ≤ W) (hdg : decode c.code g.pc = .ok (.invokevirtual index, 3))
    (hpre : ∀ vm₁, s.WarmedH vm₁ → Pre ⟨T.setVm vm₁, locs, cells, slots⟩ (.ref a :: argsL).toArray) :
    ∃ (v : Option Value) (vm₁ : Vm) (B : Free.Pt), s.WarmedH vm₁ ∧ Stand p l e R s m args below meth c B.U B.locs B.cells B.slots ∧ Post ⟨T.setVm vm₁, locs, cells, slots⟩ (.ref a :: argsL).toArray v B ∧
      Steps p.tables e below s₀ (B.U.setTop { g with pc := g.pc + 3, stack := v.toList ++ rest }) := by
  obtain ⟨mk, r, named, found, inst, abs⟩ := Cond.instanceMethod_spec hinst
  obtain ⟨r', cM, found', -, -, -, -, -, -, sig⟩ := Cond.code_spec named hcode
  cases found.symm.trans found'
  obtain ⟨cC, kC, k1, k2, -, k4, -⟩ := Cond.instantiable_spec hmk
  cases (findClass_of_methodNamed named).symm.trans k1
  have face : kC.isInterface = false := (Bool.or_eq_false_iff.mp k4).1
  have sel : selectMethod e.platform s.vm cell.cls mk = .method mk := selectMethod_private found (hpriv mk r named found)
  obtain ⟨vm₁, X₁, go⟩ := X.invokevirtual hexec hown hlink named found inst k2 face hy (a := a) (cell := cell) hcell hobj sel found abs k2 face (g := g) hg (argsL := argsL) (rest := rest) (hlen _ sig) hstack hdg
  obtain ⟨v, B, X', post, back⟩ := hK m meth c ⟨T.setVm vm₁, locs, cells, slots⟩ { g with stack := rest } (.invokevirtual index) mk (.ref a :: argsL).toArray X₁ hg hsize hdg hW (X₁.named named) (hpre vm₁ X₁.warmed)
  exact ⟨v, vm₁, B, X₁.warmed, X', post, (hcome.trans (go _ fun acts => by rw [doInvoke_state]; exact Steps.refl _)).trans back⟩
theorem own_fitR {C : String} {v : Value} (h : v.isRef = true) : fits (.object C) v = true := by rcases ref_cases h with rfl | ⟨a, rfl⟩ <;> rfl
theorem own_fI {args : Array Value} {s : State} {t : Term} {a : Addr} {O n d : String} {k : Int32} (ev : t.eval args s none [] s = some (.ref a)) (h : (Jvm.Cond.eq (.field t O n d) (.int k)).value args s none s [] = some true) : Fld s s.heap a O n d (.int k) := by
  refine Fld.start ?_
  simp only [Jvm.Cond.value, fld_at ev] at h
  cases hf : s.fieldOf? a O n d with
  | none => simp [hf] at h
  | some v => cases v <;> simp [hf, Term.eval] at h; subst h; rfl
theorem own_fJ {args : Array Value} {s : State} {t : Term} {a : Addr} {O n d : String} {k : Int64} (ev : t.eval args s none [] s = some (.ref a)) (h : (Jvm.Cond.eq (.field t O n d) (.long k)).value args s none s [] = some true) : Fld s s.heap a O n d (.long k) := by
  refine Fld.start ?_
  simp only [Jvm.Cond.value, fld_at ev] at h
  cases hf : s.fieldOf? a O n d with
  | none => simp [hf] at h
  | some v => cases v <;> simp [hf, Term.eval] at h; subst h; rfl
theorem own_fN {args : Array Value} {s : State} {t : Term} {a : Addr} {O n d : String} (ev : t.eval args s none [] s = some (.ref a)) (h : (Jvm.Cond.eq (.field t O n d) .null).value args s none s [] = some true) : Fld s s.heap a O n d .null := Fld.start ((fld_at ev).symm.trans (null_v h))
theorem pn_0 : plainName "com/example/role_rights/rolerights/policy/Statement" = true := by first | (simp [plainName, overriddenIn]; done) | decide +kernel
theorem pn_1 : plainName "com/example/role_rights/rolerights/policy/StatementStatingPinLaw" = true := by first | (simp [plainName, overriddenIn]; done) | decide +kernel
theorem pd_0 : parseMethodDescriptor "()[Lcom/example/role_rights/rolerights/policy/Statement;" = some ⟨[], some (.array (.object "com/example/role_rights/rolerights/policy/Statement"))⟩ := by decide +kernel
theorem pd_1 : parseMethodDescriptor "(Lcom/example/role_rights/rolerights/policy/Effect;)Lcom/example/role_rights/rolerights/policy/Statement;" = some ⟨[(.object "com/example/role_rights/rolerights/policy/Effect")], some (.object "com/example/role_rights/rolerights/policy/Statement")⟩ := by decide +kernel
theorem pd_2 : parseMethodDescriptor "()Lcom/example/role_rights/rolerights/policy/Effect;" = some ⟨[], some (.object "com/example/role_rights/rolerights/policy/Effect")⟩ := by decide +kernel
theorem d2_0 : decode prog_50_method_1_code 0 = .ok (.getstatic 58, 3) := by decide +kernel
theorem d2_3 : decode prog_50_method_1_code 3 = .ok (.invokevirtual 62, 3) := by decide +kernel
theorem d2_6 : decode prog_50_method_1_code 6 = .ok (.checkcast 63, 3) := by decide +kernel
theorem d2_9 : decode prog_50_method_1_code 9 = .ok (.areturn, 1) := by decide +kernel
theorem ef_values (m : MethodId) (va : Addr) (kk : ClassId) (u0 : Addr) (u1 : Addr) (u2 : Addr) (u3 : Addr) (u4 : Addr) (u5 : Addr) (u6 : Addr) (u7 : Addr) (u8 : Addr) (u9 : Addr) (u10 : Addr) (u11 : Addr) (u12 : Addr) (u13 : Addr) (u14 : Addr) (u15 : Addr) (u16 : Addr) (u17 : Addr) : entryFrame m #[] 0 = mkF m 0 #[] [] := by
  first | (simp [entryFrame, mkF, argsToLocals, Value.category]; done) | rfl
def Q_values (Z : State) (va : Addr) (kk : ClassId) (u0 : Addr) (u1 : Addr) (u2 : Addr) (u3 : Addr) (u4 : Addr) (u5 : Addr) (u6 : Addr) (u7 : Addr) (u8 : Addr) (u9 : Addr) (u10 : Addr) (u11 : Addr) (u12 : Addr) (u13 : Addr) (u14 : Addr) (u15 : Addr) (u16 : Addr) (u17 : Addr) (h0 : Heap) (n0 : Nat) (v : Option Value) (h : Heap) (L : List Loc) : Prop := ∃ b, v = some (.ref b) ∧ Fr n0 L ∧ h0.size ≤ b ∧ Keep h0 h [] ∧ Arv Z h b kk (.object "com/example/role_rights/rolerights/policy/Statement") (18 : Int32) [(.ref u0), (.ref u1), (.ref u2), (.ref u3), (.ref u4), (.ref u5), (.ref u6), (.ref u7), (.ref u8), (.ref u9), (.ref u10), (.ref u11), (.ref u12), (.ref u13), (.ref u14), (.ref u15), (.ref u16), (.ref u17)] .null
set_option maxRecDepth 65536 in
set_option maxHeartbeats 40000000 in
theorem rm_values (l : Launch) (Z : State) (a0 : Array Value) (hw : ∀ d ∈ tables_1, d.before a0 Z = true) (ws : List Jvm.Cond) (va : Addr) (kk : ClassId) (u0 : Addr) (u1 : Addr) (u2 : Addr) (u3 : Addr) (u4 : Addr) (u5 : Addr) (u6 : Addr) (u7 : Addr) (u8 : Addr) (u9 : Addr) (u10 : Addr) (u11 : Addr) (u12 : Addr) (u13 : Addr) (u14 : Addr) (u15 : Addr) (u16 : Addr) (u17 : Addr) (h0 : Heap) (n0 : Nat) (O0 : Old Z n0 h0) (SV : Sta Z Z.heap "com/example/role_rights/rolerights/policy/Statement" "$VALUES" "[Lcom/example/role_rights/rolerights/policy/Statement;" (.ref va)) (AV : Arv Z Z.heap va kk (.object "com/example/role_rights/rolerights/policy/Statement") (18 : Int32) [(.ref u0), (.ref u1), (.ref u2), (.ref u3), (.ref u4), (.ref u5), (.ref u6), (.ref u7), (.ref u8), (.ref u9), (.ref u10), (.ref u11), (.ref u12), (.ref u13), (.ref u14), (.ref u15), (.ref u16), (.ref u17)] .null) (EV : Exa Z Z.heap va "[Lcom/example/role_rights/rolerights/policy/Statement;") :
    MetFree l (⟨"com/example/role_rights/rolerights/policy/Statement", "values", "()[Lcom/example/role_rights/rolerights/policy/Statement;"⟩ : MethodName) (head1 (Jvm.Cond.code (⟨"com/example/role_rights/rolerights/policy/Statement", "values", "()[Lcom/example/role_rights/rolerights/policy/Statement;"⟩ : MethodName) prog_50_method_1_code 0 (some (.array (.object "com/example/role_rights/rolerights/policy/Statement"))) :: ws) ({ frames := 1, cells := 1, slots := 18, locals := 14 } : Room)) (fun av_ U => av_ = #[] ∧ Z.Warmed39 U.vm ∧ U.heap = h0) (fun _ _ _ _ _ => True) (fun _ U o_ U' => ∃ v L, o_ = .returned v ∧ Q_values Z va kk u0 u1 u2 u3 u4 u5 u6 u7 u8 u9 u10 u11 u12 u13 u14 u15 u16 u17 h0 n0 v U'.heap L ∧ FrameEnd U o_ U' L ({ frames := 1, cells := 1, slots := 18, locals := 14 } : Room).cells ({ frames := 1, cells := 1, slots := 18, locals := 14 } : Room).slots) := by
  refine MetFree.of_bodySF (plainFor_of_name pn_0) hisR ?_
  intro p e s m args below meth c s₁ Bd hml0 hP hK
  obtain ⟨rfl, hZ, hh⟩ := hP
  have hx := Bd.exec
  have hby := Bd.bytes
  have hml : c.maxLocals = 0 := hml0
  have hown : s.vm.findClass "com/example/role_rights/rolerights/policy/Statement" = some m.cls := findClass_of_methodNamed Bd.named
  have hnm := (name_of_methodNamed Bd.named Bd.method).1
  have hlk := own_lk Bd
  have hret := Bd.returns
  have X0 : Stand p l e ({ frames := 1, cells := 1, slots := 18, locals := 14 } : Room) s m #[] below meth c s₁ [] 0 0 := Stand.of_body Bd
  have e0 : s₁.heap = h0 := by rw [← hh, Bd.state]; rfl
  have N0 := Fr.nil n0
  show own_Goes p e below s (Q_values Z va kk u0 u1 u2 u3 u4 u5 u6 u7 u8 u9 u10 u11 u12 u13 u14 u15 u16 u17 h0 n0) ({ frames := 1, cells := 1, slots := 18, locals := 14 } : Room).cells ({ frames := 1, cells := 1, slots := 18, locals := 14 } : Room).slots (s₁.setTop (entryFrame m #[] 0))
  refine own_go (fun _ ww => castTop (ef_values m va kk u0 u1 u2 u3 u4 u5 u6 u7 u8 u9 u10 u11 u12 u13 u14 u15 u16 u17) ww) ?_
  show own_Goes _ _ _ _ _ _ _ (s₁.setTop (mkF m 0 #[] []))
  obtain ⟨T1, X1, e1, st1⟩ := getS X0 hx hZ hown (host := "") (hw _ (List.mem_of_getElem? (i := 13) rfl)) Via.refl e0 (SV.ext O0.2) (g := (mkF m 0 #[] [])) rfl (hb hby d2_0)
  refine own_go st1 ?_
  show own_Goes _ _ _ _ _ _ _ (T1.setTop (mkF m 3 #[] [(.ref va)]))
  obtain ⟨T2, h2, X2, e2, E2, V2, A2, st2⟩ := cloneH X1 hx hZ hown (hw _ (List.mem_of_getElem? (i := 15) rfl)) (hw _ (List.mem_of_getElem? (i := 16) rfl)) (hw _ (List.mem_of_getElem? (i := 20) rfl)) (hw _ (List.mem_of_getElem? (i := 18) rfl)) (hw _ (List.mem_of_getElem? (i := 19) rfl)) (hw _ (List.mem_of_getElem? (i := 21) rfl)) e1 (Arv.arh (AV.ext O0.2)) (EV.ext O0.2) (g := (mkF m 3 #[] [(.ref va)])) rfl (by rw [hml]; rfl) rfl (hb hby d2_3) (by decide) (W := 0) (cap := 18) (by show 2 * 0 + _ ≤ _; exact Nat.le_of_eq rfl) (by decide) (by decide) (by decide) (by decide)
  obtain ⟨b2, g2⟩ : ∃ z, z = h0.size := ⟨_, rfl⟩
  rw [← g2] at A2 V2 st2
  have ne_va_b2 : va ≠ b2 := Nat.ne_of_lt (Nat.lt_of_lt_of_le (EV.ext O0.2).lt (Nat.le_of_eq g2.symm))
  have g_b2 : n0 ≤ b2 := Nat.le_trans (O0.1 ▸ O0.2.1) (Nat.le_of_eq g2.symm)
  have O2 := O0.ext E2
  have sz_b2 : h0.size ≤ b2 := Nat.le_trans (own_ks (Keep.refl h0 [])) (Nat.le_of_eq g2.symm)
  have K2 := (Keep.refl h0 []).ext E2
  refine own_go st2 ?_
  show own_Goes _ _ _ _ _ _ _ (T2.setTop (mkF m 6 #[] [(.ref b2)]))
  obtain ⟨T3, X3, e3, st3⟩ := castY X2 hx hZ hown (hw _ (List.mem_of_getElem? (i := 40) rfl)) e2 (Ins.self A2) (g := (mkF m 6 #[] [(.ref b2)])) rfl rfl (hb hby d2_6)
  refine own_go st3 ?_
  show own_Goes _ _ _ _ _ _ _ (T3.setTop (mkF m 9 #[] [(.ref b2)]))
  exact own_out X3 hlk (v := some (.ref b2)) (fun h => by rw [hret] at h; cases h) (fun fs hr => retOut X3 hx (t := (.array (.object "com/example/role_rights/rolerights/policy/Statement"))) hret rfl (Or.inr (Or.inr (Or.inr (Or.inr ⟨rfl, rfl, rfl⟩)))) (hb hby d2_9) hr) e3 ⟨_, rfl, N0, sz_b2, K2, V2⟩ (by decide) (by decide)
theorem d1_0 : decode prog_50_method_9_code 0 = .ok (.aconst_null, 1) := by decide +kernel
theorem d1_1 : decode prog_50_method_9_code 1 = .ok (.astore_n 1, 1) := by decide +kernel
theorem d1_2 : decode prog_50_method_9_code 2 = .ok (.invokestatic 159, 3) := by decide +kernel
theorem d1_5 : decode prog_50_method_9_code 5 = .ok (.astore_n 2, 1) := by decide +kernel
theorem d1_6 : decode prog_50_method_9_code 6 = .ok (.aload_n 2, 1) := by decide +kernel
theorem d1_7 : decode prog_50_method_9_code 7 = .ok (.arraylength, 1) := by decide +kernel
theorem d1_8 : decode prog_50_method_9_code 8 = .ok (.istore_n 3, 1) := by decide +kernel
theorem d1_9 : decode prog_50_method_9_code 9 = .ok (.iconst 0, 1) := by decide +kernel
theorem d1_10 : decode prog_50_method_9_code 10 = .ok (.istore 4, 2) := by decide +kernel
theorem d1_12 : decode prog_50_method_9_code 12 = .ok (.iload 4, 2) := by decide +kernel
theorem d1_14 : decode prog_50_method_9_code 14 = .ok (.iload_n 3, 1) := by decide +kernel
theorem d1_15 : decode prog_50_method_9_code 15 = .ok (.if_icmp .ge 27, 3) := by decide +kernel
theorem d1_18 : decode prog_50_method_9_code 18 = .ok (.aload_n 2, 1) := by decide +kernel
theorem d1_19 : decode prog_50_method_9_code 19 = .ok (.iload 4, 2) := by decide +kernel
theorem d1_21 : decode prog_50_method_9_code 21 = .ok (.aaload, 1) := by decide +kernel
theorem d1_22 : decode prog_50_method_9_code 22 = .ok (.astore 5, 2) := by decide +kernel
theorem d1_24 : decode prog_50_method_9_code 24 = .ok (.aload 5, 2) := by decide +kernel
theorem d1_26 : decode prog_50_method_9_code 26 = .ok (.getfield 120, 3) := by decide +kernel
theorem d1_29 : decode prog_50_method_9_code 29 = .ok (.aload_n 0, 1) := by decide +kernel
theorem d1_30 : decode prog_50_method_9_code 30 = .ok (.if_acmp .ne 6, 3) := by decide +kernel
theorem d1_36 : decode prog_50_method_9_code 36 = .ok (.iinc 4 1, 3) := by decide +kernel
theorem d1_39 : decode prog_50_method_9_code 39 = .ok (.goto (-27), 3) := by decide +kernel
theorem d1_33 : decode prog_50_method_9_code 33 = .ok (.aload 5, 2) := by decide +kernel
theorem d1_35 : decode prog_50_method_9_code 35 = .ok (.astore_n 1, 1) := by decide +kernel
theorem d1_42 : decode prog_50_method_9_code 42 = .ok (.aload_n 1, 1) := by decide +kernel
theorem d1_43 : decode prog_50_method_9_code 43 = .ok (.areturn, 1) := by decide +kernel
theorem ef_statingGRANT (m : MethodId) (va : Addr) (kk : ClassId) (u0 : Addr) (u1 : Addr) (u2 : Addr) (u3 : Addr) (u4 : Addr) (u5 : Addr) (u6 : Addr) (u7 : Addr) (u8 : Addr) (u9 : Addr) (u10 : Addr) (u11 : Addr) (u12 : Addr) (u13 : Addr) (u14 : Addr) (u15 : Addr) (u16 : Addr) (u17 : Addr) (eGRANT : Addr) (eDENY : Addr) (eFORBID : Addr) : entryFrame m #[(.ref eGRANT)] 6 = mkF m 0 #[.val (.ref eGRANT), .unset, .unset, .unset, .unset, .unset] [] := by
  first | (simp [entryFrame, mkF, argsToLocals, Value.category]; done) | rfl
def Q_statingGRANT (Z : State) (va : Addr) (kk : ClassId) (u0 : Addr) (u1 : Addr) (u2 : Addr) (u3 : Addr) (u4 : Addr) (u5 : Addr) (u6 : Addr) (u7 : Addr) (u8 : Addr) (u9 : Addr) (u10 : Addr) (u11 : Addr) (u12 : Addr) (u13 : Addr) (u14 : Addr) (u15 : Addr) (u16 : Addr) (u17 : Addr) (eGRANT : Addr) (eDENY : Addr) (eFORBID : Addr) (h0 : Heap) (n0 : Nat) (v : Option Value) (h : Heap) (L : List Loc) : Prop := ∃ b : Addr, v = some (.ref u11) ∧ Fr n0 L ∧ Keep h0 h []
set_option maxRecDepth 65536 in
set_option maxHeartbeats 40000000 in
theorem rm_statingGRANT (l : Launch) (Z : State) (a0 : Array Value) (hw : ∀ d ∈ tables_1, d.before a0 Z = true) (ws : List Jvm.Cond) (va : Addr) (kk : ClassId) (u0 : Addr) (u1 : Addr) (u2 : Addr) (u3 : Addr) (u4 : Addr) (u5 : Addr) (u6 : Addr) (u7 : Addr) (u8 : Addr) (u9 : Addr) (u10 : Addr) (u11 : Addr) (u12 : Addr) (u13 : Addr) (u14 : Addr) (u15 : Addr) (u16 : Addr) (u17 : Addr) (eGRANT : Addr) (eDENY : Addr) (eFORBID : Addr) (h0 : Heap) (n0 : Nat) (O0 : Old Z n0 h0) (SV : Sta Z Z.heap "com/example/role_rights/rolerights/policy/Statement" "$VALUES" "[Lcom/example/role_rights/rolerights/policy/Statement;" (.ref va)) (AV : Arv Z Z.heap va kk (.object "com/example/role_rights/rolerights/policy/Statement") (18 : Int32) [(.ref u0), (.ref u1), (.ref u2), (.ref u3), (.ref u4), (.ref u5), (.ref u6), (.ref u7), (.ref u8), (.ref u9), (.ref u10), (.ref u11), (.ref u12), (.ref u13), (.ref u14), (.ref u15), (.ref u16), (.ref u17)] .null) (EV : Exa Z Z.heap va "[Lcom/example/role_rights/rolerights/policy/Statement;") (F0 : Fld Z Z.heap u0 "com/example/role_rights/rolerights/policy/Statement" "effect" "Lcom/example/role_rights/rolerights/policy/Effect;" .null) (F1 : Fld Z Z.heap u1 "com/example/role_rights/rolerights/policy/Statement" "effect" "Lcom/example/role_rights/rolerights/policy/Effect;" .null) (F2 : Fld Z Z.heap u2 "com/example/role_rights/rolerights/policy/Statement" "effect" "Lcom/example/role_rights/rolerights/policy/Effect;" .null) (F3 : Fld Z Z.heap u3 "com/example/role_rights/rolerights/policy/Statement" "effect" "Lcom/example/role_rights/rolerights/policy/Effect;" .null) (F4 : Fld Z Z.heap u4 "com/example/role_rights/rolerights/policy/Statement" "effect" "Lcom/example/role_rights/rolerights/policy/Effect;" .null) (F5 : Fld Z Z.heap u5 "com/example/role_rights/rolerights/policy/Statement" "effect" "Lcom/example/role_rights/rolerights/policy/Effect;" .null) (F6 : Fld Z Z.heap u6 "com/example/role_rights/rolerights/policy/Statement" "effect" "Lcom/example/role_rights/rolerights/policy/Effect;" .null) (F7 : Fld Z Z.heap u7 "com/example/role_rights/rolerights/policy/Statement" "effect" "Lcom/example/role_rights/rolerights/policy/Effect;" .null) (F8 : Fld Z Z.heap u8 "com/example/role_rights/rolerights/policy/Statement" "effect" "Lcom/example/role_rights/rolerights/policy/Effect;" .null) (F9 : Fld Z Z.heap u9 "com/example/role_rights/rolerights/policy/Statement" "effect" "Lcom/example/role_rights/rolerights/policy/Effect;" .null) (F10 : Fld Z Z.heap u10 "com/example/role_rights/rolerights/policy/Statement" "effect" "Lcom/example/role_rights/rolerights/policy/Effect;" .null) (F11 : Fld Z Z.heap u11 "com/example/role_rights/rolerights/policy/Statement" "effect" "Lcom/example/role_rights/rolerights/policy/Effect;" (.ref eGRANT)) (F12 : Fld Z Z.heap u12 "com/example/role_rights/rolerights/policy/Statement" "effect" "Lcom/example/role_rights/rolerights/policy/Effect;" (.ref eDENY)) (F13 : Fld Z Z.heap u13 "com/example/role_rights/rolerights/policy/Statement" "effect" "Lcom/example/role_rights/rolerights/policy/Effect;" (.ref eFORBID)) (F14 : Fld Z Z.heap u14 "com/example/role_rights/rolerights/policy/Statement" "effect" "Lcom/example/role_rights/rolerights/policy/Effect;" .null) (F15 : Fld Z Z.heap u15 "com/example/role_rights/rolerights/policy/Statement" "effect" "Lcom/example/role_rights/rolerights/policy/Effect;" .null) (F16 : Fld Z Z.heap u16 "com/example/role_rights/rolerights/policy/Statement" "effect" "Lcom/example/role_rights/rolerights/policy/Effect;" .null) (F17 : Fld Z Z.heap u17 "com/example/role_rights/rolerights/policy/Statement" "effect" "Lcom/example/role_rights/rolerights/policy/Effect;" .null) (n01 : eGRANT ≠ eDENY) (n02 : eGRANT ≠ eFORBID) (n12 : eDENY ≠ eFORBID) :
    MetFree l (⟨"com/example/role_rights/rolerights/policy/Statement", "stating", "(Lcom/example/role_rights/rolerights/policy/Effect;)Lcom/example/role_rights/rolerights/policy/Statement;"⟩ : MethodName) (head1 (Jvm.Cond.code (⟨"com/example/role_rights/rolerights/policy/Statement", "stating", "(Lcom/example/role_rights/rolerights/policy/Effect;)Lcom/example/role_rights/rolerights/policy/Statement;"⟩ : MethodName) prog_50_method_9_code 6 (some (.object "com/example/role_rights/rolerights/policy/Statement")) :: ws) ({ frames := 2, cells := 1, slots := 18, locals := 25 } : Room)) (fun av_ U => av_ = #[(.ref eGRANT)] ∧ Z.Warmed39 U.vm ∧ U.heap = h0) (fun _ _ _ _ _ => True) (fun _ U o_ U' => ∃ v L, o_ = .returned v ∧ Q_statingGRANT Z va kk u0 u1 u2 u3 u4 u5 u6 u7 u8 u9 u10 u11 u12 u13 u14 u15 u16 u17 eGRANT eDENY eFORBID h0 n0 v U'.heap L ∧ FrameEnd U o_ U' L ({ frames := 2, cells := 1, slots := 18, locals := 25 } : Room).cells ({ frames := 2, cells := 1, slots := 18, locals := 25 } : Room).slots) := by
  refine MetFree.of_bodySF (plainFor_of_name pn_0) hisR ?_
  intro p e s m args below meth c s₁ Bd hml0 hP hK
  obtain ⟨rfl, hZ, hh⟩ := hP
  have hx := Bd.exec
  have hby := Bd.bytes
  have hml : c.maxLocals = 6 := hml0
  have hown : s.vm.findClass "com/example/role_rights/rolerights/policy/Statement" = some m.cls := findClass_of_methodNamed Bd.named
  have hnm := (name_of_methodNamed Bd.named Bd.method).1
  have hlk := own_lk Bd
  have hret := Bd.returns
  have X0 : Stand p l e ({ frames := 2, cells := 1, slots := 18, locals := 25 } : Room) s m #[(.ref eGRANT)] below meth c s₁ [] 0 0 := Stand.of_body Bd
  have e0 : s₁.heap = h0 := by rw [← hh, Bd.state]; rfl
  have N0 := Fr.nil n0
  show own_Goes p e below s (Q_statingGRANT Z va kk u0 u1 u2 u3 u4 u5 u6 u7 u8 u9 u10 u11 u12 u13 u14 u15 u16 u17 eGRANT eDENY eFORBID h0 n0) ({ frames := 2, cells := 1, slots := 18, locals := 25 } : Room).cells ({ frames := 2, cells := 1, slots := 18, locals := 25 } : Room).slots (s₁.setTop (entryFrame m #[(.ref eGRANT)] 6))
  refine own_go (fun _ ww => castTop (ef_statingGRANT m va kk u0 u1 u2 u3 u4 u5 u6 u7 u8 u9 u10 u11 u12 u13 u14 u15 u16 u17 eGRANT eDENY eFORBID) ww) ?_
  show own_Goes _ _ _ _ _ _ _ (s₁.setTop (mkF m 0 #[.val (.ref eGRANT), .unset, .unset, .unset, .unset, .unset] []))
  refine own_go (fun _ ww => XS.aconstNull X0.here hx rfl (hb hby d1_0) ww) ?_
  show own_Goes _ _ _ _ _ _ _ (s₁.setTop (mkF m 1 #[.val (.ref eGRANT), .unset, .unset, .unset, .unset, .unset] [.null]))
  refine own_go (fun _ ww => XS.astoreN X0.here hx rfl (hb hby d1_1) rfl rfl (l' := #[.val (.ref eGRANT), .val .null, .unset, .unset, .unset, .unset]) rfl ww) ?_
  show own_Goes _ _ _ _ _ _ _ (s₁.setTop (mkF m 2 #[.val (.ref eGRANT), .val .null, .unset, .unset, .unset, .unset] []))
  obtain ⟨_, _, ⟨T4, L4, k4, n4⟩, -, X4, ⟨Lc4, hQ4, l4, y4, z4⟩, st4⟩ := Jvm.LawKit.callS X0 hx (y := (⟨"com/example/role_rights/rolerights/policy/Statement", "values", "()[Lcom/example/role_rights/rolerights/policy/Statement;"⟩ : MethodName)) hown (mvT hZ (hw _ (List.mem_of_getElem? (i := 10) rfl))) (mvT hZ (hw _ (List.mem_of_getElem? (i := 11) rfl))) (mvT hZ (hw _ (List.mem_of_getElem? (i := 5) rfl))) (mvT hZ (hw _ (List.mem_of_getElem? (i := 12) rfl))) (by decide) (backOf (W := 0) (rm_values l Z a0 hw [] va kk u0 u1 u2 u3 u4 u5 u6 u7 u8 u9 u10 u11 u12 u13 u14 u15 u16 u17 h0 n0 O0 SV AV EV) hZ (hw _ (List.mem_of_getElem? (i := 12) rfl)) (hw _ (List.mem_of_getElem? (i := 5) rfl)) (by decide) (by decide)) (g := (mkF m 2 #[.val (.ref eGRANT), .val .null, .unset, .unset, .unset, .unset] [])) rfl (by rw [hml]; rfl) (argsL := []) (rest := []) (lenOf pd_0 rfl) rfl (by show 2 * 0 + _ ≤ _; exact Nat.le_of_eq rfl) (hb hby d1_2) (fun _ _ => ⟨rfl, e0, (by decide : 0 + 1 ≤ _), (by decide : 0 + 18 ≤ _)⟩)
  dsimp only [Pt.U, Pt.locs, Pt.cells, Pt.slots] at X4 l4 y4 z4 st4 hQ4
  subst l4 y4 z4
  obtain ⟨r4, rfl, N4q, B4, K4q, V4q⟩ := hQ4
  have N4 := Fr.app N0 N4q
  have ne_u0_r4 : u0 ≠ r4 := Nat.ne_of_lt (Nat.lt_of_lt_of_le (F0.ext O0.2).lt B4)
  have ne_u1_r4 : u1 ≠ r4 := Nat.ne_of_lt (Nat.lt_of_lt_of_le (F1.ext O0.2).lt B4)
  have ne_u2_r4 : u2 ≠ r4 := Nat.ne_of_lt (Nat.lt_of_lt_of_le (F2.ext O0.2).lt B4)
  have ne_u3_r4 : u3 ≠ r4 := Nat.ne_of_lt (Nat.lt_of_lt_of_le (F3.ext O0.2).lt B4)
  have ne_u4_r4 : u4 ≠ r4 := Nat.ne_of_lt (Nat.lt_of_lt_of_le (F4.ext O0.2).lt B4)
  have ne_u5_r4 : u5 ≠ r4 := Nat.ne_of_lt (Nat.lt_of_lt_of_le (F5.ext O0.2).lt B4)
  have ne_u6_r4 : u6 ≠ r4 := Nat.ne_of_lt (Nat.lt_of_lt_of_le (F6.ext O0.2).lt B4)
  have ne_u7_r4 : u7 ≠ r4 := Nat.ne_of_lt (Nat.lt_of_lt_of_le (F7.ext O0.2).lt B4)
  have ne_u8_r4 : u8 ≠ r4 := Nat.ne_of_lt (Nat.lt_of_lt_of_le (F8.ext O0.2).lt B4)
  have ne_u9_r4 : u9 ≠ r4 := Nat.ne_of_lt (Nat.lt_of_lt_of_le (F9.ext O0.2).lt B4)
  have ne_u10_r4 : u10 ≠ r4 := Nat.ne_of_lt (Nat.lt_of_lt_of_le (F10.ext O0.2).lt B4)
  have ne_u11_r4 : u11 ≠ r4 := Nat.ne_of_lt (Nat.lt_of_lt_of_le (F11.ext O0.2).lt B4)
  have ne_u12_r4 : u12 ≠ r4 := Nat.ne_of_lt (Nat.lt_of_lt_of_le (F12.ext O0.2).lt B4)
  have ne_u13_r4 : u13 ≠ r4 := Nat.ne_of_lt (Nat.lt_of_lt_of_le (F13.ext O0.2).lt B4)
  have ne_u14_r4 : u14 ≠ r4 := Nat.ne_of_lt (Nat.lt_of_lt_of_le (F14.ext O0.2).lt B4)
  have ne_u15_r4 : u15 ≠ r4 := Nat.ne_of_lt (Nat.lt_of_lt_of_le (F15.ext O0.2).lt B4)
  have ne_u16_r4 : u16 ≠ r4 := Nat.ne_of_lt (Nat.lt_of_lt_of_le (F16.ext O0.2).lt B4)
  have ne_u17_r4 : u17 ≠ r4 := Nat.ne_of_lt (Nat.lt_of_lt_of_le (F17.ext O0.2).lt B4)
  have g_r4 : n0 ≤ r4 := Nat.le_trans (O0.1 ▸ O0.2.1) B4
  have sz_r4 : h0.size ≤ r4 := Nat.le_trans (own_ks (Keep.refl h0 [])) B4
  have O4 := O0.keep K4q all0
  have K4 := (Keep.refl h0 []).trans K4q all0
  refine own_go st4 ?_
  show own_Goes _ _ _ _ _ _ _ (T4.setTop (mkF m 5 #[.val (.ref eGRANT), .val .null, .unset, .unset, .unset, .unset] [(.ref r4)]))
  refine own_go (fun _ ww => XS.astoreN X4.here hx rfl (hb hby d1_5) rfl rfl (l' := #[.val (.ref eGRANT), .val .null, .val (.ref r4), .unset, .unset, .unset]) rfl ww) ?_
  show own_Goes _ _ _ _ _ _ _ (T4.setTop (mkF m 6 #[.val (.ref eGRANT), .val .null, .val (.ref r4), .unset, .unset, .unset] []))
  refine own_go (fun _ ww => XS.aloadN X4.here hx rfl (hb hby d1_6) rfl rfl ww) ?_
  show own_Goes _ _ _ _ _ _ _ (T4.setTop (mkF m 7 #[.val (.ref eGRANT), .val .null, .val (.ref r4), .unset, .unset, .unset] [(.ref r4)]))
  obtain ⟨cl5, Ar5, -, S5, Ng5, -, -⟩ := id V4q
  refine own_go (fun _ ww => X4.arraylength hx Ar5.1 (State.isArrayOf_alike hZ.alike Ar5.2.1) (g := (mkF m 7 #[.val (.ref eGRANT), .val .null, .val (.ref r4), .unset, .unset, .unset] [(.ref r4)])) rfl rfl (hb hby d1_7) _ ww) ?_
  rw [len_of S5 Ng5]
  show own_Goes _ _ _ _ _ _ _ (T4.setTop (mkF m 8 #[.val (.ref eGRANT), .val .null, .val (.ref r4), .unset, .unset, .unset] [(.int (18 : Int32))]))
  refine own_go (fun _ ww => XS.istoreN X4.here hx rfl (hb hby d1_8) rfl (l' := #[.val (.ref eGRANT), .val .null, .val (.ref r4), .val (.int (18 : Int32)), .unset, .unset]) rfl ww) ?_
  show own_Goes _ _ _ _ _ _ _ (T4.setTop (mkF m 9 #[.val (.ref eGRANT), .val .null, .val (.ref r4), .val (.int (18 : Int32)), .unset, .unset] []))
  refine own_go (fun _ ww => XS.iconst X4.here hx rfl (hb hby d1_9) ww) ?_
  show own_Goes _ _ _ _ _ _ _ (T4.setTop (mkF m 10 #[.val (.ref eGRANT), .val .null, .val (.ref r4), .val (.int (18 : Int32)), .unset, .unset] [(.int (0 : Int32))]))
  refine own_go (fun _ ww => XS.istore X4.here hx rfl (hb hby d1_10) rfl (l' := #[.val (.ref eGRANT), .val .null, .val (.ref r4), .val (.int (18 : Int32)), .val (.int (0 : Int32)), .unset]) rfl ww) ?_
  show own_Goes _ _ _ _ _ _ _ (T4.setTop (mkF m 12 #[.val (.ref eGRANT), .val .null, .val (.ref r4), .val (.int (18 : Int32)), .val (.int (0 : Int32)), .unset] []))
  refine own_go (fun _ ww => XS.iload X4.here hx rfl (hb hby d1_12) rfl  ww) ?_
  show own_Goes _ _ _ _ _ _ _ (T4.setTop (mkF m 14 #[.val (.ref eGRANT), .val .null, .val (.ref r4), .val (.int (18 : Int32)), .val (.int (0 : Int32)), .unset] [(.int (0 : Int32))]))
  refine own_go (fun _ ww => XS.iloadN X4.here hx rfl (hb hby d1_14) rfl  ww) ?_
  show own_Goes _ _ _ _ _ _ _ (T4.setTop (mkF m 15 #[.val (.ref eGRANT), .val .null, .val (.ref r4), .val (.int (18 : Int32)), .val (.int (0 : Int32)), .unset] [(.int (18 : Int32)), (.int (0 : Int32))]))
  refine own_go (fun _ ww => XS.icmpNo X4.here hx rfl (hb hby d1_15) rfl (tlt (by decide : (0 : Int32) < (18 : Int32))).2.1 ww) ?_
  show own_Goes _ _ _ _ _ _ _ (T4.setTop (mkF m 18 #[.val (.ref eGRANT), .val .null, .val (.ref r4), .val (.int (18 : Int32)), .val (.int (0 : Int32)), .unset] []))
  refine own_go (fun _ ww => XS.aloadN X4.here hx rfl (hb hby d1_18) rfl rfl ww) ?_
  show own_Goes _ _ _ _ _ _ _ (T4.setTop (mkF m 19 #[.val (.ref eGRANT), .val .null, .val (.ref r4), .val (.int (18 : Int32)), .val (.int (0 : Int32)), .unset] [(.ref r4)]))
  refine own_go (fun _ ww => XS.iload X4.here hx rfl (hb hby d1_19) rfl  ww) ?_
  show own_Goes _ _ _ _ _ _ _ (T4.setTop (mkF m 21 #[.val (.ref eGRANT), .val .null, .val (.ref r4), .val (.int (18 : Int32)), .val (.int (0 : Int32)), .unset] [(.int (0 : Int32)), (.ref r4)]))
  obtain ⟨cl6, Ar6, -, S6, -, H6, -⟩ := id V4q
  have hin6 := inb_of (j := (0 : Int32)) S6 ⟨by decide, by decide⟩
  have hat6 : cl6.slots[((0 : Int32)).toNatClampNeg]? = some (.ref u0) := Has.at H6 hin6 rfl
  refine own_go (fun _ ww => X4.aaload hx (j := (0 : Int32)) (v := (.ref u0)) Ar6.1 (State.isArrayOf_alike hZ.alike Ar6.2.1) rfl Ar6.2.2 hin6 hat6 (g := (mkF m 21 #[.val (.ref eGRANT), .val .null, .val (.ref r4), .val (.int (18 : Int32)), .val (.int (0 : Int32)), .unset] [(.int (0 : Int32)), (.ref r4)])) rfl rfl (hb hby d1_21) _ ww) ?_
  show own_Goes _ _ _ _ _ _ _ (T4.setTop (mkF m 22 #[.val (.ref eGRANT), .val .null, .val (.ref r4), .val (.int (18 : Int32)), .val (.int (0 : Int32)), .unset] [(.ref u0)]))
  refine own_go (fun _ ww => XS.astore X4.here hx rfl (hb hby d1_22) rfl rfl (l' := #[.val (.ref eGRANT), .val .null, .val (.ref r4), .val (.int (18 : Int32)), .val (.int (0 : Int32)), .val (.ref u0)]) rfl ww) ?_
  show own_Goes _ _ _ _ _ _ _ (T4.setTop (mkF m 24 #[.val (.ref eGRANT), .val .null, .val (.ref r4), .val (.int (18 : Int32)), .val (.int (0 : Int32)), .val (.ref u0)] []))
  refine own_go (fun _ ww => XS.aload X4.here hx rfl (hb hby d1_24) rfl rfl ww) ?_
  show own_Goes _ _ _ _ _ _ _ (T4.setTop (mkF m 26 #[.val (.ref eGRANT), .val .null, .val (.ref r4), .val (.int (18 : Int32)), .val (.int (0 : Int32)), .val (.ref u0)] [(.ref u0)]))
  obtain ⟨T7, X7, e7, st7⟩ := getF X4 hx hZ hown (host := "") (Or.inl (hw _ (List.mem_of_getElem? (i := 42) rfl))) Via.refl rfl (F0.ext O4.2) (g := (mkF m 26 #[.val (.ref eGRANT), .val .null, .val (.ref r4), .val (.int (18 : Int32)), .val (.int (0 : Int32)), .val (.ref u0)] [(.ref u0)])) rfl rfl (hb hby d1_26)
  refine own_go st7 ?_
  show own_Goes _ _ _ _ _ _ _ (T7.setTop (mkF m 29 #[.val (.ref eGRANT), .val .null, .val (.ref r4), .val (.int (18 : Int32)), .val (.int (0 : Int32)), .val (.ref u0)] [.null]))
  refine own_go (fun _ ww => XS.aloadN X7.here hx rfl (hb hby d1_29) rfl rfl ww) ?_
  show own_Goes _ _ _ _ _ _ _ (T7.setTop (mkF m 30 #[.val (.ref eGRANT), .val .null, .val (.ref r4), .val (.int (18 : Int32)), .val (.int (0 : Int32)), .val (.ref u0)] [(.ref eGRANT), .null]))
  refine own_go (fun _ ww => XT.acmpYes X7.here hx rfl (pc0 := 30) (pc' := 36) rfl (hb hby d1_30) rfl rfl rfl (XT.aa_ne_t (by simp)) (by decide) (by decide) ww) ?_
  show own_Goes _ _ _ _ _ _ _ (T7.setTop (mkF m 36 #[.val (.ref eGRANT), .val .null, .val (.ref r4), .val (.int (18 : Int32)), .val (.int (0 : Int32)), .val (.ref u0)] []))
  refine own_go (fun _ ww => XS.iinc X7.here hx rfl (hb hby d1_36) rfl (l' := #[.val (.ref eGRANT), .val .null, .val (.ref r4), .val (.int (18 : Int32)), .val (.int (1 : Int32)), .val (.ref u0)]) rfl ww) ?_
  show own_Goes _ _ _ _ _ _ _ (T7.setTop (mkF m 39 #[.val (.ref eGRANT), .val .null, .val (.ref r4), .val (.int (18 : Int32)), .val (.int (1 : Int32)), .val (.ref u0)] []))
  refine own_go (fun _ ww => XS.goto X7.here hx rfl (pc0 := 39) (pc' := 12) rfl (hb hby d1_39) (by decide) (by decide) ww) ?_
  show own_Goes _ _ _ _ _ _ _ (T7.setTop (mkF m 12 #[.val (.ref eGRANT), .val .null, .val (.ref r4), .val (.int (18 : Int32)), .val (.int (1 : Int32)), .val (.ref u0)] []))
  refine own_go (fun _ ww => XS.iload X7.here hx rfl (hb hby d1_12) rfl  ww) ?_
  show own_Goes _ _ _ _ _ _ _ (T7.setTop (mkF m 14 #[.val (.ref eGRANT), .val .null, .val (.ref r4), .val (.int (18 : Int32)), .val (.int (1 : Int32)), .val (.ref u0)] [(.int (1 : Int32))]))
  refine own_go (fun _ ww => XS.iloadN X7.here hx rfl (hb hby d1_14) rfl  ww) ?_
  show own_Goes _ _ _ _ _ _ _ (T7.setTop (mkF m 15 #[.val (.ref eGRANT), .val .null, .val (.ref r4), .val (.int (18 : Int32)), .val (.int (1 : Int32)), .val (.ref u0)] [(.int (18 : Int32)), (.int (1 : Int32))]))
  refine own_go (fun _ ww => XS.icmpNo X7.here hx rfl (hb hby d1_15) rfl (tlt (by decide : (1 : Int32) < (18 : Int32))).2.1 ww) ?_
  show own_Goes _ _ _ _ _ _ _ (T7.setTop (mkF m 18 #[.val (.ref eGRANT), .val .null, .val (.ref r4), .val (.int (18 : Int32)), .val (.int (1 : Int32)), .val (.ref u0)] []))
  refine own_go (fun _ ww => XS.aloadN X7.here hx rfl (hb hby d1_18) rfl rfl ww) ?_
  show own_Goes _ _ _ _ _ _ _ (T7.setTop (mkF m 19 #[.val (.ref eGRANT), .val .null, .val (.ref r4), .val (.int (18 : Int32)), .val (.int (1 : Int32)), .val (.ref u0)] [(.ref r4)]))
  refine own_go (fun _ ww => XS.iload X7.here hx rfl (hb hby d1_19) rfl  ww) ?_
  show own_Goes _ _ _ _ _ _ _ (T7.setTop (mkF m 21 #[.val (.ref eGRANT), .val .null, .val (.ref r4), .val (.int (18 : Int32)), .val (.int (1 : Int32)), .val (.ref u0)] [(.int (1 : Int32)), (.ref r4)]))
  obtain ⟨cl8, Ar8, -, S8, -, H8, -⟩ := id V4q
  have hin8 := inb_of (j := (1 : Int32)) S8 ⟨by decide, by decide⟩
  have hat8 : cl8.slots[((1 : Int32)).toNatClampNeg]? = some (.ref u1) := Has.at H8 hin8 rfl
  refine own_go (fun _ ww => X7.aaload hx (j := (1 : Int32)) (v := (.ref u1)) (by rw [e7]; exact Ar8.1) (State.isArrayOf_alike hZ.alike Ar8.2.1) rfl Ar8.2.2 hin8 hat8 (g := (mkF m 21 #[.val (.ref eGRANT), .val .null, .val (.ref r4), .val (.int (18 : Int32)), .val (.int (1 : Int32)), .val (.ref u0)] [(.int (1 : Int32)), (.ref r4)])) rfl rfl (hb hby d1_21) _ ww) ?_
  show own_Goes _ _ _ _ _ _ _ (T7.setTop (mkF m 22 #[.val (.ref eGRANT), .val .null, .val (.ref r4), .val (.int (18 : Int32)), .val (.int (1 : Int32)), .val (.ref u0)] [(.ref u1)]))
  refine own_go (fun _ ww => XS.astore X7.here hx rfl (hb hby d1_22) rfl rfl (l' := #[.val (.ref eGRANT), .val .null, .val (.ref r4), .val (.int (18 : Int32)), .val (.int (1 : Int32)), .val (.ref u1)]) rfl ww) ?_
  show own_Goes _ _ _ _ _ _ _ (T7.setTop (mkF m 24 #[.val (.ref eGRANT), .val .null, .val (.ref r4), .val (.int (18 : Int32)), .val (.int (1 : Int32)), .val (.ref u1)] []))
  refine own_go (fun _ ww => XS.aload X7.here hx rfl (hb hby d1_24) rfl rfl ww) ?_
  show own_Goes _ _ _ _ _ _ _ (T7.setTop (mkF m 26 #[.val (.ref eGRANT), .val .null, .val (.ref r4), .val (.int (18 : Int32)), .val (.int (1 : Int32)), .val (.ref u1)] [(.ref u1)]))
  obtain ⟨T9, X9, e9, st9⟩ := getF X7 hx hZ hown (host := "") (Or.inl (hw _ (List.mem_of_getElem? (i := 42) rfl))) Via.refl e7 (F1.ext O4.2) (g := (mkF m 26 #[.val (.ref eGRANT), .val .null, .val (.ref r4), .val (.int (18 : Int32)), .val (.int (1 : Int32)), .val (.ref u1)] [(.ref u1)])) rfl rfl (hb hby d1_26)
  refine own_go st9 ?_
  show own_Goes _ _ _ _ _ _ _ (T9.setTop (mkF m 29 #[.val (.ref eGRANT), .val .null, .val (.ref r4), .val (.int (18 : Int32)), .val (.int (1 : Int32)), .val (.ref u1)] [.null]))
  refine own_go (fun _ ww => XS.aloadN X9.here hx rfl (hb hby d1_29) rfl rfl ww) ?_
  show own_Goes _ _ _ _ _ _ _ (T9.setTop (mkF m 30 #[.val (.ref eGRANT), .val .null, .val (.ref r4), .val (.int (18 : Int32)), .val (.int (1 : Int32)), .val (.ref u1)] [(.ref eGRANT), .null]))
  refine own_go (fun _ ww => XT.acmpYes X9.here hx rfl (pc0 := 30) (pc' := 36) rfl (hb hby d1_30) rfl rfl rfl (XT.aa_ne_t (by simp)) (by decide) (by decide) ww) ?_
  show own_Goes _ _ _ _ _ _ _ (T9.setTop (mkF m 36 #[.val (.ref eGRANT), .val .null, .val (.ref r4), .val (.int (18 : Int32)), .val (.int (1 : Int32)), .val (.ref u1)] []))
  refine own_go (fun _ ww => XS.iinc X9.here hx rfl (hb hby d1_36) rfl (l' := #[.val (.ref eGRANT), .val .null, .val (.ref r4), .val (.int (18 : Int32)), .val (.int (2 : Int32)), .val (.ref u1)]) rfl ww) ?_
  show own_Goes _ _ _ _ _ _ _ (T9.setTop (mkF m 39 #[.val (.ref eGRANT), .val .null, .val (.ref r4), .val (.int (18 : Int32)), .val (.int (2 : Int32)), .val (.ref u1)] []))
  refine own_go (fun _ ww => XS.goto X9.here hx rfl (pc0 := 39) (pc' := 12) rfl (hb hby d1_39) (by decide) (by decide) ww) ?_
  show own_Goes _ _ _ _ _ _ _ (T9.setTop (mkF m 12 #[.val (.ref eGRANT), .val .null, .val (.ref r4), .val (.int (18 : Int32)), .val (.int (2 : Int32)), .val (.ref u1)] []))
  refine own_go (fun _ ww => XS.iload X9.here hx rfl (hb hby d1_12) rfl  ww) ?_
  show own_Goes _ _ _ _ _ _ _ (T9.setTop (mkF m 14 #[.val (.ref eGRANT), .val .null, .val (.ref r4), .val (.int (18 : Int32)), .val (.int (2 : Int32)), .val (.ref u1)] [(.int (2 : Int32))]))
  refine own_go (fun _ ww => XS.iloadN X9.here hx rfl (hb hby d1_14) rfl  ww) ?_
  show own_Goes _ _ _ _ _ _ _ (T9.setTop (mkF m 15 #[.val (.ref eGRANT), .val .null, .val (.ref r4), .val (.int (18 : Int32)), .val (.int (2 : Int32)), .val (.ref u1)] [(.int (18 : Int32)), (.int (2 : Int32))]))
  refine own_go (fun _ ww => XS.icmpNo X9.here hx rfl (hb hby d1_15) rfl (tlt (by decide : (2 : Int32) < (18 : Int32))).2.1 ww) ?_
  show own_Goes _ _ _ _ _ _ _ (T9.setTop (mkF m 18 #[.val (.ref eGRANT), .val .null, .val (.ref r4), .val (.int (18 : Int32)), .val (.int (2 : Int32)), .val (.ref u1)] []))
  refine own_go (fun _ ww => XS.aloadN X9.here hx rfl (hb hby d1_18) rfl rfl ww) ?_
  show own_Goes _ _ _ _ _ _ _ (T9.setTop (mkF m 19 #[.val (.ref eGRANT), .val .null, .val (.ref r4), .val (.int (18 : Int32)), .val (.int (2 : Int32)), .val (.ref u1)] [(.ref r4)]))
  refine own_go (fun _ ww => XS.iload X9.here hx rfl (hb hby d1_19) rfl  ww) ?_
  show own_Goes _ _ _ _ _ _ _ (T9.setTop (mkF m 21 #[.val (.ref eGRANT), .val .null, .val (.ref r4), .val (.int (18 : Int32)), .val (.int (2 : Int32)), .val (.ref u1)] [(.int (2 : Int32)), (.ref r4)]))
  obtain ⟨cl10, Ar10, -, S10, -, H10, -⟩ := id V4q
  have hin10 := inb_of (j := (2 : Int32)) S10 ⟨by decide, by decide⟩
  have hat10 : cl10.slots[((2 : Int32)).toNatClampNeg]? = some (.ref u2) := Has.at H10 hin10 rfl
  refine own_go (fun _ ww => X9.aaload hx (j := (2 : Int32)) (v := (.ref u2)) (by rw [e9]; exact Ar10.1) (State.isArrayOf_alike hZ.alike Ar10.2.1) rfl Ar10.2.2 hin10 hat10 (g := (mkF m 21 #[.val (.ref eGRANT), .val .null, .val (.ref r4), .val (.int (18 : Int32)), .val (.int (2 : Int32)), .val (.ref u1)] [(.int (2 : Int32)), (.ref r4)])) rfl rfl (hb hby d1_21) _ ww) ?_
  show own_Goes _ _ _ _ _ _ _ (T9.setTop (mkF m 22 #[.val (.ref eGRANT), .val .null, .val (.ref r4), .val (.int (18 : Int32)), .val (.int (2 : Int32)), .val (.ref u1)] [(.ref u2)]))
  refine own_go (fun _ ww => XS.astore X9.here hx rfl (hb hby d1_22) rfl rfl (l' := #[.val (.ref eGRANT), .val .null, .val (.ref r4), .val (.int (18 : Int32)), .val (.int (2 : Int32)), .val (.ref u2)]) rfl ww) ?_
  show own_Goes _ _ _ _ _ _ _ (T9.setTop (mkF m 24 #[.val (.ref eGRANT), .val .null, .val (.ref r4), .val (.int (18 : Int32)), .val (.int (2 : Int32)), .val (.ref u2)] []))
  refine own_go (fun _ ww => XS.aload X9.here hx rfl (hb hby d1_24) rfl rfl ww) ?_
  show own_Goes _ _ _ _ _ _ _ (T9.setTop (mkF m 26 #[.val (.ref eGRANT), .val .null, .val (.ref r4), .val (.int (18 : Int32)), .val (.int (2 : Int32)), .val (.ref u2)] [(.ref u2)]))
  obtain ⟨T11, X11, e11, st11⟩ := getF X9 hx hZ hown (host := "") (Or.inl (hw _ (List.mem_of_getElem? (i := 42) rfl))) Via.refl e9 (F2.ext O4.2) (g := (mkF m 26 #[.val (.ref eGRANT), .val .null, .val (.ref r4), .val (.int (18 : Int32)), .val (.int (2 : Int32)), .val (.ref u2)] [(.ref u2)])) rfl rfl (hb hby d1_26)
  refine own_go st11 ?_
  show own_Goes _ _ _ _ _ _ _ (T11.setTop (mkF m 29 #[.val (.ref eGRANT), .val .null, .val (.ref r4), .val (.int (18 : Int32)), .val (.int (2 : Int32)), .val (.ref u2)] [.null]))
  refine own_go (fun _ ww => XS.aloadN X11.here hx rfl (hb hby d1_29) rfl rfl ww) ?_
  show own_Goes _ _ _ _ _ _ _ (T11.setTop (mkF m 30 #[.val (.ref eGRANT), .val .null, .val (.ref r4), .val (.int (18 : Int32)), .val (.int (2 : Int32)), .val (.ref u2)] [(.ref eGRANT), .null]))
  refine own_go (fun _ ww => XT.acmpYes X11.here hx rfl (pc0 := 30) (pc' := 36) rfl (hb hby d1_30) rfl rfl rfl (XT.aa_ne_t (by simp)) (by decide) (by decide) ww) ?_
  show own_Goes _ _ _ _ _ _ _ (T11.setTop (mkF m 36 #[.val (.ref eGRANT), .val .null, .val (.ref r4), .val (.int (18 : Int32)), .val (.int (2 : Int32)), .val (.ref u2)] []))
  refine own_go (fun _ ww => XS.iinc X11.here hx rfl (hb hby d1_36) rfl (l' := #[.val (.ref eGRANT), .val .null, .val (.ref r4), .val (.int (18 : Int32)), .val (.int (3 : Int32)), .val (.ref u2)]) rfl ww) ?_
  show own_Goes _ _ _ _ _ _ _ (T11.setTop (mkF m 39 #[.val (.ref eGRANT), .val .null, .val (.ref r4), .val (.int (18 : Int32)), .val (.int (3 : Int32)), .val (.ref u2)] []))
  refine own_go (fun _ ww => XS.goto X11.here hx rfl (pc0 := 39) (pc' := 12) rfl (hb hby d1_39) (by decide) (by decide) ww) ?_
  show own_Goes _ _ _ _ _ _ _ (T11.setTop (mkF m 12 #[.val (.ref eGRANT), .val .null, .val (.ref r4), .val (.int (18 : Int32)), .val (.int (3 : Int32)), .val (.ref u2)] []))
  refine own_go (fun _ ww => XS.iload X11.here hx rfl (hb hby d1_12) rfl  ww) ?_
  show own_Goes _ _ _ _ _ _ _ (T11.setTop (mkF m 14 #[.val (.ref eGRANT), .val .null, .val (.ref r4), .val (.int (18 : Int32)), .val (.int (3 : Int32)), .val (.ref u2)] [(.int (3 : Int32))]))
  refine own_go (fun _ ww => XS.iloadN X11.here hx rfl (hb hby d1_14) rfl  ww) ?_
  show own_Goes _ _ _ _ _ _ _ (T11.setTop (mkF m 15 #[.val (.ref eGRANT), .val .null, .val (.ref r4), .val (.int (18 : Int32)), .val (.int (3 : Int32)), .val (.ref u2)] [(.int (18 : Int32)), (.int (3 : Int32))]))
  refine own_go (fun _ ww => XS.icmpNo X11.here hx rfl (hb hby d1_15) rfl (tlt (by decide : (3 : Int32) < (18 : Int32))).2.1 ww) ?_
  show own_Goes _ _ _ _ _ _ _ (T11.setTop (mkF m 18 #[.val (.ref eGRANT), .val .null, .val (.ref r4), .val (.int (18 : Int32)), .val (.int (3 : Int32)), .val (.ref u2)] []))
  refine own_go (fun _ ww => XS.aloadN X11.here hx rfl (hb hby d1_18) rfl rfl ww) ?_
  show own_Goes _ _ _ _ _ _ _ (T11.setTop (mkF m 19 #[.val (.ref eGRANT), .val .null, .val (.ref r4), .val (.int (18 : Int32)), .val (.int (3 : Int32)), .val (.ref u2)] [(.ref r4)]))
  refine own_go (fun _ ww => XS.iload X11.here hx rfl (hb hby d1_19) rfl  ww) ?_
  show own_Goes _ _ _ _ _ _ _ (T11.setTop (mkF m 21 #[.val (.ref eGRANT), .val .null, .val (.ref r4), .val (.int (18 : Int32)), .val (.int (3 : Int32)), .val (.ref u2)] [(.int (3 : Int32)), (.ref r4)]))
  obtain ⟨cl12, Ar12, -, S12, -, H12, -⟩ := id V4q
  have hin12 := inb_of (j := (3 : Int32)) S12 ⟨by decide, by decide⟩
  have hat12 : cl12.slots[((3 : Int32)).toNatClampNeg]? = some (.ref u3) := Has.at H12 hin12 rfl
  refine own_go (fun _ ww => X11.aaload hx (j := (3 : Int32)) (v := (.ref u3)) (by rw [e11]; exact Ar12.1) (State.isArrayOf_alike hZ.alike Ar12.2.1) rfl Ar12.2.2 hin12 hat12 (g := (mkF m 21 #[.val (.ref eGRANT), .val .null, .val (.ref r4), .val (.int (18 : Int32)), .val (.int (3 : Int32)), .val (.ref u2)] [(.int (3 : Int32)), (.ref r4)])) rfl rfl (hb hby d1_21) _ ww) ?_
  show own_Goes _ _ _ _ _ _ _ (T11.setTop (mkF m 22 #[.val (.ref eGRANT), .val .null, .val (.ref r4), .val (.int (18 : Int32)), .val (.int (3 : Int32)), .val (.ref u2)] [(.ref u3)]))
  refine own_go (fun _ ww => XS.astore X11.here hx rfl (hb hby d1_22) rfl rfl (l' := #[.val (.ref eGRANT), .val .null, .val (.ref r4), .val (.int (18 : Int32)), .val (.int (3 : Int32)), .val (.ref u3)]) rfl ww) ?_
  show own_Goes _ _ _ _ _ _ _ (T11.setTop (mkF m 24 #[.val (.ref eGRANT), .val .null, .val (.ref r4), .val (.int (18 : Int32)), .val (.int (3 : Int32)), .val (.ref u3)] []))
  refine own_go (fun _ ww => XS.aload X11.here hx rfl (hb hby d1_24) rfl rfl ww) ?_
  show own_Goes _ _ _ _ _ _ _ (T11.setTop (mkF m 26 #[.val (.ref eGRANT), .val .null, .val (.ref r4), .val (.int (18 : Int32)), .val (.int (3 : Int32)), .val (.ref u3)] [(.ref u3)]))
  obtain ⟨T13, X13, e13, st13⟩ := getF X11 hx hZ hown (host := "") (Or.inl (hw _ (List.mem_of_getElem? (i := 42) rfl))) Via.refl e11 (F3.ext O4.2) (g := (mkF m 26 #[.val (.ref eGRANT), .val .null, .val (.ref r4), .val (.int (18 : Int32)), .val (.int (3 : Int32)), .val (.ref u3)] [(.ref u3)])) rfl rfl (hb hby d1_26)
  refine own_go st13 ?_
  show own_Goes _ _ _ _ _ _ _ (T13.setTop (mkF m 29 #[.val (.ref eGRANT), .val .null, .val (.ref r4), .val (.int (18 : Int32)), .val (.int (3 : Int32)), .val (.ref u3)] [.null]))
  refine own_go (fun _ ww => XS.aloadN X13.here hx rfl (hb hby d1_29) rfl rfl ww) ?_
  show own_Goes _ _ _ _ _ _ _ (T13.setTop (mkF m 30 #[.val (.ref eGRANT), .val .null, .val (.ref r4), .val (.int (18 : Int32)), .val (.int (3 : Int32)), .val (.ref u3)] [(.ref eGRANT), .null]))
  refine own_go (fun _ ww => XT.acmpYes X13.here hx rfl (pc0 := 30) (pc' := 36) rfl (hb hby d1_30) rfl rfl rfl (XT.aa_ne_t (by simp)) (by decide) (by decide) ww) ?_
  show own_Goes _ _ _ _ _ _ _ (T13.setTop (mkF m 36 #[.val (.ref eGRANT), .val .null, .val (.ref r4), .val (.int (18 : Int32)), .val (.int (3 : Int32)), .val (.ref u3)] []))
  refine own_go (fun _ ww => XS.iinc X13.here hx rfl (hb hby d1_36) rfl (l' := #[.val (.ref eGRANT), .val .null, .val (.ref r4), .val (.int (18 : Int32)), .val (.int (4 : Int32)), .val (.ref u3)]) rfl ww) ?_
  show own_Goes _ _ _ _ _ _ _ (T13.setTop (mkF m 39 #[.val (.ref eGRANT), .val .null, .val (.ref r4), .val (.int (18 : Int32)), .val (.int (4 : Int32)), .val (.ref u3)] []))
  refine own_go (fun _ ww => XS.goto X13.here hx rfl (pc0 := 39) (pc' := 12) rfl (hb hby d1_39) (by decide) (by decide) ww) ?_
  show own_Goes _ _ _ _ _ _ _ (T13.setTop (mkF m 12 #[.val (.ref eGRANT), .val .null, .val (.ref r4), .val (.int (18 : Int32)), .val (.int (4 : Int32)), .val (.ref u3)] []))
  refine own_go (fun _ ww => XS.iload X13.here hx rfl (hb hby d1_12) rfl  ww) ?_
  show own_Goes _ _ _ _ _ _ _ (T13.setTop (mkF m 14 #[.val (.ref eGRANT), .val .null, .val (.ref r4), .val (.int (18 : Int32)), .val (.int (4 : Int32)), .val (.ref u3)] [(.int (4 : Int32))]))
  refine own_go (fun _ ww => XS.iloadN X13.here hx rfl (hb hby d1_14) rfl  ww) ?_
  show own_Goes _ _ _ _ _ _ _ (T13.setTop (mkF m 15 #[.val (.ref eGRANT), .val .null, .val (.ref r4), .val (.int (18 : Int32)), .val (.int (4 : Int32)), .val (.ref u3)] [(.int (18 : Int32)), (.int (4 : Int32))]))
  refine own_go (fun _ ww => XS.icmpNo X13.here hx rfl (hb hby d1_15) rfl (tlt (by decide : (4 : Int32) < (18 : Int32))).2.1 ww) ?_
  show own_Goes _ _ _ _ _ _ _ (T13.setTop (mkF m 18 #[.val (.ref eGRANT), .val .null, .val (.ref r4), .val (.int (18 : Int32)), .val (.int (4 : Int32)), .val (.ref u3)] []))
  refine own_go (fun _ ww => XS.aloadN X13.here hx rfl (hb hby d1_18) rfl rfl ww) ?_
  show own_Goes _ _ _ _ _ _ _ (T13.setTop (mkF m 19 #[.val (.ref eGRANT), .val .null, .val (.ref r4), .val (.int (18 : Int32)), .val (.int (4 : Int32)), .val (.ref u3)] [(.ref r4)]))
  refine own_go (fun _ ww => XS.iload X13.here hx rfl (hb hby d1_19) rfl  ww) ?_
  show own_Goes _ _ _ _ _ _ _ (T13.setTop (mkF m 21 #[.val (.ref eGRANT), .val .null, .val (.ref r4), .val (.int (18 : Int32)), .val (.int (4 : Int32)), .val (.ref u3)] [(.int (4 : Int32)), (.ref r4)]))
  obtain ⟨cl14, Ar14, -, S14, -, H14, -⟩ := id V4q
  have hin14 := inb_of (j := (4 : Int32)) S14 ⟨by decide, by decide⟩
  have hat14 : cl14.slots[((4 : Int32)).toNatClampNeg]? = some (.ref u4) := Has.at H14 hin14 rfl
  refine own_go (fun _ ww => X13.aaload hx (j := (4 : Int32)) (v := (.ref u4)) (by rw [e13]; exact Ar14.1) (State.isArrayOf_alike hZ.alike Ar14.2.1) rfl Ar14.2.2 hin14 hat14 (g := (mkF m 21 #[.val (.ref eGRANT), .val .null, .val (.ref r4), .val (.int (18 : Int32)), .val (.int (4 : Int32)), .val (.ref u3)] [(.int (4 : Int32)), (.ref r4)])) rfl rfl (hb hby d1_21) _ ww) ?_
  show own_Goes _ _ _ _ _ _ _ (T13.setTop (mkF m 22 #[.val (.ref eGRANT), .val .null, .val (.ref r4), .val (.int (18 : Int32)), .val (.int (4 : Int32)), .val (.ref u3)] [(.ref u4)]))
  refine own_go (fun _ ww => XS.astore X13.here hx rfl (hb hby d1_22) rfl rfl (l' := #[.val (.ref eGRANT), .val .null, .val (.ref r4), .val (.int (18 : Int32)), .val (.int (4 : Int32)), .val (.ref u4)]) rfl ww) ?_
  show own_Goes _ _ _ _ _ _ _ (T13.setTop (mkF m 24 #[.val (.ref eGRANT), .val .null, .val (.ref r4), .val (.int (18 : Int32)), .val (.int (4 : Int32)), .val (.ref u4)] []))
  refine own_go (fun _ ww => XS.aload X13.here hx rfl (hb hby d1_24) rfl rfl ww) ?_
  show own_Goes _ _ _ _ _ _ _ (T13.setTop (mkF m 26 #[.val (.ref eGRANT), .val .null, .val (.ref r4), .val (.int (18 : Int32)), .val (.int (4 : Int32)), .val (.ref u4)] [(.ref u4)]))
  obtain ⟨T15, X15, e15, st15⟩ := getF X13 hx hZ hown (host := "") (Or.inl (hw _ (List.mem_of_getElem? (i := 42) rfl))) Via.refl e13 (F4.ext O4.2) (g := (mkF m 26 #[.val (.ref eGRANT), .val .null, .val (.ref r4), .val (.int (18 : Int32)), .val (.int (4 : Int32)), .val (.ref u4)] [(.ref u4)])) rfl rfl (hb hby d1_26)
  refine own_go st15 ?_
  show own_Goes _ _ _ _ _ _ _ (T15.setTop (mkF m 29 #[.val (.ref eGRANT), .val .null, .val (.ref r4), .val (.int (18 : Int32)), .val (.int (4 : Int32)), .val (.ref u4)] [.null]))
  refine own_go (fun _ ww => XS.aloadN X15.here hx rfl (hb hby d1_29) rfl rfl ww) ?_
  show own_Goes _ _ _ _ _ _ _ (T15.setTop (mkF m 30 #[.val (.ref eGRANT), .val .null, .val (.ref r4), .val (.int (18 : Int32)), .val (.int (4 : Int32)), .val (.ref u4)] [(.ref eGRANT), .null]))
  refine own_go (fun _ ww => XT.acmpYes X15.here hx rfl (pc0 := 30) (pc' := 36) rfl (hb hby d1_30) rfl rfl rfl (XT.aa_ne_t (by simp)) (by decide) (by decide) ww) ?_
  show own_Goes _ _ _ _ _ _ _ (T15.setTop (mkF m 36 #[.val (.ref eGRANT), .val .null, .val (.ref r4), .val (.int (18 : Int32)), .val (.int (4 : Int32)), .val (.ref u4)] []))
  refine own_go (fun _ ww => XS.iinc X15.here hx rfl (hb hby d1_36) rfl (l' := #[.val (.ref eGRANT), .val .null, .val (.ref r4), .val (.int (18 : Int32)), .val (.int (5 : Int32)), .val (.ref u4)]) rfl ww) ?_
  show own_Goes _ _ _ _ _ _ _ (T15.setTop (mkF m 39 #[.val (.ref eGRANT), .val .null, .val (.ref r4), .val (.int (18 : Int32)), .val (.int (5 : Int32)), .val (.ref u4)] []))
  refine own_go (fun _ ww => XS.goto X15.here hx rfl (pc0 := 39) (pc' := 12) rfl (hb hby d1_39) (by decide) (by decide) ww) ?_
  show own_Goes _ _ _ _ _ _ _ (T15.setTop (mkF m 12 #[.val (.ref eGRANT), .val .null, .val (.ref r4), .val (.int (18 : Int32)), .val (.int (5 : Int32)), .val (.ref u4)] []))
  refine own_go (fun _ ww => XS.iload X15.here hx rfl (hb hby d1_12) rfl  ww) ?_
  show own_Goes _ _ _ _ _ _ _ (T15.setTop (mkF m 14 #[.val (.ref eGRANT), .val .null, .val (.ref r4), .val (.int (18 : Int32)), .val (.int (5 : Int32)), .val (.ref u4)] [(.int (5 : Int32))]))
  refine own_go (fun _ ww => XS.iloadN X15.here hx rfl (hb hby d1_14) rfl  ww) ?_
  show own_Goes _ _ _ _ _ _ _ (T15.setTop (mkF m 15 #[.val (.ref eGRANT), .val .null, .val (.ref r4), .val (.int (18 : Int32)), .val (.int (5 : Int32)), .val (.ref u4)] [(.int (18 : Int32)), (.int (5 : Int32))]))
  refine own_go (fun _ ww => XS.icmpNo X15.here hx rfl (hb hby d1_15) rfl (tlt (by decide : (5 : Int32) < (18 : Int32))).2.1 ww) ?_
  show own_Goes _ _ _ _ _ _ _ (T15.setTop (mkF m 18 #[.val (.ref eGRANT), .val .null, .val (.ref r4), .val (.int (18 : Int32)), .val (.int (5 : Int32)), .val (.ref u4)] []))
  refine own_go (fun _ ww => XS.aloadN X15.here hx rfl (hb hby d1_18) rfl rfl ww) ?_
  show own_Goes _ _ _ _ _ _ _ (T15.setTop (mkF m 19 #[.val (.ref eGRANT), .val .null, .val (.ref r4), .val (.int (18 : Int32)), .val (.int (5 : Int32)), .val (.ref u4)] [(.ref r4)]))
  refine own_go (fun _ ww => XS.iload X15.here hx rfl (hb hby d1_19) rfl  ww) ?_
  show own_Goes _ _ _ _ _ _ _ (T15.setTop (mkF m 21 #[.val (.ref eGRANT), .val .null, .val (.ref r4), .val (.int (18 : Int32)), .val (.int (5 : Int32)), .val (.ref u4)] [(.int (5 : Int32)), (.ref r4)]))
  obtain ⟨cl16, Ar16, -, S16, -, H16, -⟩ := id V4q
  have hin16 := inb_of (j := (5 : Int32)) S16 ⟨by decide, by decide⟩
  have hat16 : cl16.slots[((5 : Int32)).toNatClampNeg]? = some (.ref u5) := Has.at H16 hin16 rfl
  refine own_go (fun _ ww => X15.aaload hx (j := (5 : Int32)) (v := (.ref u5)) (by rw [e15]; exact Ar16.1) (State.isArrayOf_alike hZ.alike Ar16.2.1) rfl Ar16.2.2 hin16 hat16 (g := (mkF m 21 #[.val (.ref eGRANT), .val .null, .val (.ref r4), .val (.int (18 : Int32)), .val (.int (5 : Int32)), .val (.ref u4)] [(.int (5 : Int32)), (.ref r4)])) rfl rfl (hb hby d1_21) _ ww) ?_
  show own_Goes _ _ _ _ _ _ _ (T15.setTop (mkF m 22 #[.val (.ref eGRANT), .val .null, .val (.ref r4), .val (.int (18 : Int32)), .val (.int (5 : Int32)), .val (.ref u4)] [(.ref u5)]))
  refine own_go (fun _ ww => XS.astore X15.here hx rfl (hb hby d1_22) rfl rfl (l' := #[.val (.ref eGRANT), .val .null, .val (.ref r4), .val (.int (18 : Int32)), .val (.int (5 : Int32)), .val (.ref u5)]) rfl ww) ?_
  show own_Goes _ _ _ _ _ _ _ (T15.setTop (mkF m 24 #[.val (.ref eGRANT), .val .null, .val (.ref r4), .val (.int (18 : Int32)), .val (.int (5 : Int32)), .val (.ref u5)] []))
  refine own_go (fun _ ww => XS.aload X15.here hx rfl (hb hby d1_24) rfl rfl ww) ?_
  show own_Goes _ _ _ _ _ _ _ (T15.setTop (mkF m 26 #[.val (.ref eGRANT), .val .null, .val (.ref r4), .val (.int (18 : Int32)), .val (.int (5 : Int32)), .val (.ref u5)] [(.ref u5)]))
  obtain ⟨T17, X17, e17, st17⟩ := getF X15 hx hZ hown (host := "") (Or.inl (hw _ (List.mem_of_getElem? (i := 42) rfl))) Via.refl e15 (F5.ext O4.2) (g := (mkF m 26 #[.val (.ref eGRANT), .val .null, .val (.ref r4), .val (.int (18 : Int32)), .val (.int (5 : Int32)), .val (.ref u5)] [(.ref u5)])) rfl rfl (hb hby d1_26)
  refine own_go st17 ?_
  show own_Goes _ _ _ _ _ _ _ (T17.setTop (mkF m 29 #[.val (.ref eGRANT), .val .null, .val (.ref r4), .val (.int (18 : Int32)), .val (.int (5 : Int32)), .val (.ref u5)] [.null]))
  refine own_go (fun _ ww => XS.aloadN X17.here hx rfl (hb hby d1_29) rfl rfl ww) ?_
  show own_Goes _ _ _ _ _ _ _ (T17.setTop (mkF m 30 #[.val (.ref eGRANT), .val .null, .val (.ref r4), .val (.int (18 : Int32)), .val (.int (5 : Int32)), .val (.ref u5)] [(.ref eGRANT), .null]))
  refine own_go (fun _ ww => XT.acmpYes X17.here hx rfl (pc0 := 30) (pc' := 36) rfl (hb hby d1_30) rfl rfl rfl (XT.aa_ne_t (by simp)) (by decide) (by decide) ww) ?_
  show own_Goes _ _ _ _ _ _ _ (T17.setTop (mkF m 36 #[.val (.ref eGRANT), .val .null, .val (.ref r4), .val (.int (18 : Int32)), .val (.int (5 : Int32)), .val (.ref u5)] []))
  refine own_go (fun _ ww => XS.iinc X17.here hx rfl (hb hby d1_36) rfl (l' := #[.val (.ref eGRANT), .val .null, .val (.ref r4), .val (.int (18 : Int32)), .val (.int (6 : Int32)), .val (.ref u5)]) rfl ww) ?_
  show own_Goes _ _ _ _ _ _ _ (T17.setTop (mkF m 39 #[.val (.ref eGRANT), .val .null, .val (.ref r4), .val (.int (18 : Int32)), .val (.int (6 : Int32)), .val (.ref u5)] []))
  refine own_go (fun _ ww => XS.goto X17.here hx rfl (pc0 := 39) (pc' := 12) rfl (hb hby d1_39) (by decide) (by decide) ww) ?_
  show own_Goes _ _ _ _ _ _ _ (T17.setTop (mkF m 12 #[.val (.ref eGRANT), .val .null, .val (.ref r4), .val (.int (18 : Int32)), .val (.int (6 : Int32)), .val (.ref u5)] []))
  refine own_go (fun _ ww => XS.iload X17.here hx rfl (hb hby d1_12) rfl  ww) ?_
  show own_Goes _ _ _ _ _ _ _ (T17.setTop (mkF m 14 #[.val (.ref eGRANT), .val .null, .val (.ref r4), .val (.int (18 : Int32)), .val (.int (6 : Int32)), .val (.ref u5)] [(.int (6 : Int32))]))
  refine own_go (fun _ ww => XS.iloadN X17.here hx rfl (hb hby d1_14) rfl  ww) ?_
  show own_Goes _ _ _ _ _ _ _ (T17.setTop (mkF m 15 #[.val (.ref eGRANT), .val .null, .val (.ref r4), .val (.int (18 : Int32)), .val (.int (6 : Int32)), .val (.ref u5)] [(.int (18 : Int32)), (.int (6 : Int32))]))
  refine own_go (fun _ ww => XS.icmpNo X17.here hx rfl (hb hby d1_15) rfl (tlt (by decide : (6 : Int32) < (18 : Int32))).2.1 ww) ?_
  show own_Goes _ _ _ _ _ _ _ (T17.setTop (mkF m 18 #[.val (.ref eGRANT), .val .null, .val (.ref r4), .val (.int (18 : Int32)), .val (.int (6 : Int32)), .val (.ref u5)] []))
  refine own_go (fun _ ww => XS.aloadN X17.here hx rfl (hb hby d1_18) rfl rfl ww) ?_
  show own_Goes _ _ _ _ _ _ _ (T17.setTop (mkF m 19 #[.val (.ref eGRANT), .val .null, .val (.ref r4), .val (.int (18 : Int32)), .val (.int (6 : Int32)), .val (.ref u5)] [(.ref r4)]))
  refine own_go (fun _ ww => XS.iload X17.here hx rfl (hb hby d1_19) rfl  ww) ?_
  show own_Goes _ _ _ _ _ _ _ (T17.setTop (mkF m 21 #[.val (.ref eGRANT), .val .null, .val (.ref r4), .val (.int (18 : Int32)), .val (.int (6 : Int32)), .val (.ref u5)] [(.int (6 : Int32)), (.ref r4)]))
  obtain ⟨cl18, Ar18, -, S18, -, H18, -⟩ := id V4q
  have hin18 := inb_of (j := (6 : Int32)) S18 ⟨by decide, by decide⟩
  have hat18 : cl18.slots[((6 : Int32)).toNatClampNeg]? = some (.ref u6) := Has.at H18 hin18 rfl
  refine own_go (fun _ ww => X17.aaload hx (j := (6 : Int32)) (v := (.ref u6)) (by rw [e17]; exact Ar18.1) (State.isArrayOf_alike hZ.alike Ar18.2.1) rfl Ar18.2.2 hin18 hat18 (g := (mkF m 21 #[.val (.ref eGRANT), .val .null, .val (.ref r4), .val (.int (18 : Int32)), .val (.int (6 : Int32)), .val (.ref u5)] [(.int (6 : Int32)), (.ref r4)])) rfl rfl (hb hby d1_21) _ ww) ?_
  show own_Goes _ _ _ _ _ _ _ (T17.setTop (mkF m 22 #[.val (.ref eGRANT), .val .null, .val (.ref r4), .val (.int (18 : Int32)), .val (.int (6 : Int32)), .val (.ref u5)] [(.ref u6)]))
  refine own_go (fun _ ww => XS.astore X17.here hx rfl (hb hby d1_22) rfl rfl (l' := #[.val (.ref eGRANT), .val .null, .val (.ref r4), .val (.int (18 : Int32)), .val (.int (6 : Int32)), .val (.ref u6)]) rfl ww) ?_
  show own_Goes _ _ _ _ _ _ _ (T17.setTop (mkF m 24 #[.val (.ref eGRANT), .val .null, .val (.ref r4), .val (.int (18 : Int32)), .val (.int (6 : Int32)), .val (.ref u6)] []))
  refine own_go (fun _ ww => XS.aload X17.here hx rfl (hb hby d1_24) rfl rfl ww) ?_
  show own_Goes _ _ _ _ _ _ _ (T17.setTop (mkF m 26 #[.val (.ref eGRANT), .val .null, .val (.ref r4), .val (.int (18 : Int32)), .val (.int (6 : Int32)), .val (.ref u6)] [(.ref u6)]))
  obtain ⟨T19, X19, e19, st19⟩ := getF X17 hx hZ hown (host := "") (Or.inl (hw _ (List.mem_of_getElem? (i := 42) rfl))) Via.refl e17 (F6.ext O4.2) (g := (mkF m 26 #[.val (.ref eGRANT), .val .null, .val (.ref r4), .val (.int (18 : Int32)), .val (.int (6 : Int32)), .val (.ref u6)] [(.ref u6)])) rfl rfl (hb hby d1_26)
  refine own_go st19 ?_
  show own_Goes _ _ _ _ _ _ _ (T19.setTop (mkF m 29 #[.val (.ref eGRANT), .val .null, .val (.ref r4), .val (.int (18 : Int32)), .val (.int (6 : Int32)), .val (.ref u6)] [.null]))
  refine own_go (fun _ ww => XS.aloadN X19.here hx rfl (hb hby d1_29) rfl rfl ww) ?_
  show own_Goes _ _ _ _ _ _ _ (T19.setTop (mkF m 30 #[.val (.ref eGRANT), .val .null, .val (.ref r4), .val (.int (18 : Int32)), .val (.int (6 : Int32)), .val (.ref u6)] [(.ref eGRANT), .null]))
  refine own_go (fun _ ww => XT.acmpYes X19.here hx rfl (pc0 := 30) (pc' := 36) rfl (hb hby d1_30) rfl rfl rfl (XT.aa_ne_t (by simp)) (by decide) (by decide) ww) ?_
  show own_Goes _ _ _ _ _ _ _ (T19.setTop (mkF m 36 #[.val (.ref eGRANT), .val .null, .val (.ref r4), .val (.int (18 : Int32)), .val (.int (6 : Int32)), .val (.ref u6)] []))
  refine own_go (fun _ ww => XS.iinc X19.here hx rfl (hb hby d1_36) rfl (l' := #[.val (.ref eGRANT), .val .null, .val (.ref r4), .val (.int (18 : Int32)), .val (.int (7 : Int32)), .val (.ref u6)]) rfl ww) ?_
  show own_Goes _ _ _ _ _ _ _ (T19.setTop (mkF m 39 #[.val (.ref eGRANT), .val .null, .val (.ref r4), .val (.int (18 : Int32)), .val (.int (7 : Int32)), .val (.ref u6)] []))
  refine own_go (fun _ ww => XS.goto X19.here hx rfl (pc0 := 39) (pc' := 12) rfl (hb hby d1_39) (by decide) (by decide) ww) ?_
  show own_Goes _ _ _ _ _ _ _ (T19.setTop (mkF m 12 #[.val (.ref eGRANT), .val .null, .val (.ref r4), .val (.int (18 : Int32)), .val (.int (7 : Int32)), .val (.ref u6)] []))
  refine own_go (fun _ ww => XS.iload X19.here hx rfl (hb hby d1_12) rfl  ww) ?_
  show own_Goes _ _ _ _ _ _ _ (T19.setTop (mkF m 14 #[.val (.ref eGRANT), .val .null, .val (.ref r4), .val (.int (18 : Int32)), .val (.int (7 : Int32)), .val (.ref u6)] [(.int (7 : Int32))]))
  refine own_go (fun _ ww => XS.iloadN X19.here hx rfl (hb hby d1_14) rfl  ww) ?_
  show own_Goes _ _ _ _ _ _ _ (T19.setTop (mkF m 15 #[.val (.ref eGRANT), .val .null, .val (.ref r4), .val (.int (18 : Int32)), .val (.int (7 : Int32)), .val (.ref u6)] [(.int (18 : Int32)), (.int (7 : Int32))]))
  refine own_go (fun _ ww => XS.icmpNo X19.here hx rfl (hb hby d1_15) rfl (tlt (by decide : (7 : Int32) < (18 : Int32))).2.1 ww) ?_
  show own_Goes _ _ _ _ _ _ _ (T19.setTop (mkF m 18 #[.val (.ref eGRANT), .val .null, .val (.ref r4), .val (.int (18 : Int32)), .val (.int (7 : Int32)), .val (.ref u6)] []))
  refine own_go (fun _ ww => XS.aloadN X19.here hx rfl (hb hby d1_18) rfl rfl ww) ?_
  show own_Goes _ _ _ _ _ _ _ (T19.setTop (mkF m 19 #[.val (.ref eGRANT), .val .null, .val (.ref r4), .val (.int (18 : Int32)), .val (.int (7 : Int32)), .val (.ref u6)] [(.ref r4)]))
  refine own_go (fun _ ww => XS.iload X19.here hx rfl (hb hby d1_19) rfl  ww) ?_
  show own_Goes _ _ _ _ _ _ _ (T19.setTop (mkF m 21 #[.val (.ref eGRANT), .val .null, .val (.ref r4), .val (.int (18 : Int32)), .val (.int (7 : Int32)), .val (.ref u6)] [(.int (7 : Int32)), (.ref r4)]))
  obtain ⟨cl20, Ar20, -, S20, -, H20, -⟩ := id V4q
  have hin20 := inb_of (j := (7 : Int32)) S20 ⟨by decide, by decide⟩
  have hat20 : cl20.slots[((7 : Int32)).toNatClampNeg]? = some (.ref u7) := Has.at H20 hin20 rfl
  refine own_go (fun _ ww => X19.aaload hx (j := (7 : Int32)) (v := (.ref u7)) (by rw [e19]; exact Ar20.1) (State.isArrayOf_alike hZ.alike Ar20.2.1) rfl Ar20.2.2 hin20 hat20 (g := (mkF m 21 #[.val (.ref eGRANT), .val .null, .val (.ref r4), .val (.int (18 : Int32)), .val (.int (7 : Int32)), .val (.ref u6)] [(.int (7 : Int32)), (.ref r4)])) rfl rfl (hb hby d1_21) _ ww) ?_
  show own_Goes _ _ _ _ _ _ _ (T19.setTop (mkF m 22 #[.val (.ref eGRANT), .val .null, .val (.ref r4), .val (.int (18 : Int32)), .val (.int (7 : Int32)), .val (.ref u6)] [(.ref u7)]))
  refine own_go (fun _ ww => XS.astore X19.here hx rfl (hb hby d1_22) rfl rfl (l' := #[.val (.ref eGRANT), .val .null, .val (.ref r4), .val (.int (18 : Int32)), .val (.int (7 : Int32)), .val (.ref u7)]) rfl ww) ?_
  show own_Goes _ _ _ _ _ _ _ (T19.setTop (mkF m 24 #[.val (.ref eGRANT), .val .null, .val (.ref r4), .val (.int (18 : Int32)), .val (.int (7 : Int32)), .val (.ref u7)] []))
  refine own_go (fun _ ww => XS.aload X19.here hx rfl (hb hby d1_24) rfl rfl ww) ?_
  show own_Goes _ _ _ _ _ _ _ (T19.setTop (mkF m 26 #[.val (.ref eGRANT), .val .null, .val (.ref r4), .val (.int (18 : Int32)), .val (.int (7 : Int32)), .val (.ref u7)] [(.ref u7)]))
  obtain ⟨T21, X21, e21, st21⟩ := getF X19 hx hZ hown (host := "") (Or.inl (hw _ (List.mem_of_getElem? (i := 42) rfl))) Via.refl e19 (F7.ext O4.2) (g := (mkF m 26 #[.val (.ref eGRANT), .val .null, .val (.ref r4), .val (.int (18 : Int32)), .val (.int (7 : Int32)), .val (.ref u7)] [(.ref u7)])) rfl rfl (hb hby d1_26)
  refine own_go st21 ?_
  show own_Goes _ _ _ _ _ _ _ (T21.setTop (mkF m 29 #[.val (.ref eGRANT), .val .null, .val (.ref r4), .val (.int (18 : Int32)), .val (.int (7 : Int32)), .val (.ref u7)] [.null]))
  refine own_go (fun _ ww => XS.aloadN X21.here hx rfl (hb hby d1_29) rfl rfl ww) ?_
  show own_Goes _ _ _ _ _ _ _ (T21.setTop (mkF m 30 #[.val (.ref eGRANT), .val .null, .val (.ref r4), .val (.int (18 : Int32)), .val (.int (7 : Int32)), .val (.ref u7)] [(.ref eGRANT), .null]))
  refine own_go (fun _ ww => XT.acmpYes X21.here hx rfl (pc0 := 30) (pc' := 36) rfl (hb hby d1_30) rfl rfl rfl (XT.aa_ne_t (by simp)) (by decide) (by decide) ww) ?_
  show own_Goes _ _ _ _ _ _ _ (T21.setTop (mkF m 36 #[.val (.ref eGRANT), .val .null, .val (.ref r4), .val (.int (18 : Int32)), .val (.int (7 : Int32)), .val (.ref u7)] []))
  refine own_go (fun _ ww => XS.iinc X21.here hx rfl (hb hby d1_36) rfl (l' := #[.val (.ref eGRANT), .val .null, .val (.ref r4), .val (.int (18 : Int32)), .val (.int (8 : Int32)), .val (.ref u7)]) rfl ww) ?_
  show own_Goes _ _ _ _ _ _ _ (T21.setTop (mkF m 39 #[.val (.ref eGRANT), .val .null, .val (.ref r4), .val (.int (18 : Int32)), .val (.int (8 : Int32)), .val (.ref u7)] []))
  refine own_go (fun _ ww => XS.goto X21.here hx rfl (pc0 := 39) (pc' := 12) rfl (hb hby d1_39) (by decide) (by decide) ww) ?_
  show own_Goes _ _ _ _ _ _ _ (T21.setTop (mkF m 12 #[.val (.ref eGRANT), .val .null, .val (.ref r4), .val (.int (18 : Int32)), .val (.int (8 : Int32)), .val (.ref u7)] []))
  refine own_go (fun _ ww => XS.iload X21.here hx rfl (hb hby d1_12) rfl  ww) ?_
  show own_Goes _ _ _ _ _ _ _ (T21.setTop (mkF m 14 #[.val (.ref eGRANT), .val .null, .val (.ref r4), .val (.int (18 : Int32)), .val (.int (8 : Int32)), .val (.ref u7)] [(.int (8 : Int32))]))
  refine own_go (fun _ ww => XS.iloadN X21.here hx rfl (hb hby d1_14) rfl  ww) ?_
  show own_Goes _ _ _ _ _ _ _ (T21.setTop (mkF m 15 #[.val (.ref eGRANT), .val .null, .val (.ref r4), .val (.int (18 : Int32)), .val (.int (8 : Int32)), .val (.ref u7)] [(.int (18 : Int32)), (.int (8 : Int32))]))
  refine own_go (fun _ ww => XS.icmpNo X21.here hx rfl (hb hby d1_15) rfl (tlt (by decide : (8 : Int32) < (18 : Int32))).2.1 ww) ?_
  show own_Goes _ _ _ _ _ _ _ (T21.setTop (mkF m 18 #[.val (.ref eGRANT), .val .null, .val (.ref r4), .val (.int (18 : Int32)), .val (.int (8 : Int32)), .val (.ref u7)] []))
  refine own_go (fun _ ww => XS.aloadN X21.here hx rfl (hb hby d1_18) rfl rfl ww) ?_
  show own_Goes _ _ _ _ _ _ _ (T21.setTop (mkF m 19 #[.val (.ref eGRANT), .val .null, .val (.ref r4), .val (.int (18 : Int32)), .val (.int (8 : Int32)), .val (.ref u7)] [(.ref r4)]))
  refine own_go (fun _ ww => XS.iload X21.here hx rfl (hb hby d1_19) rfl  ww) ?_
  show own_Goes _ _ _ _ _ _ _ (T21.setTop (mkF m 21 #[.val (.ref eGRANT), .val .null, .val (.ref r4), .val (.int (18 : Int32)), .val (.int (8 : Int32)), .val (.ref u7)] [(.int (8 : Int32)), (.ref r4)]))
  obtain ⟨cl22, Ar22, -, S22, -, H22, -⟩ := id V4q
  have hin22 := inb_of (j := (8 : Int32)) S22 ⟨by decide, by decide⟩
  have hat22 : cl22.slots[((8 : Int32)).toNatClampNeg]? = some (.ref u8) := Has.at H22 hin22 rfl
  refine own_go (fun _ ww => X21.aaload hx (j := (8 : Int32)) (v := (.ref u8)) (by rw [e21]; exact Ar22.1) (State.isArrayOf_alike hZ.alike Ar22.2.1) rfl Ar22.2.2 hin22 hat22 (g := (mkF m 21 #[.val (.ref eGRANT), .val .null, .val (.ref r4), .val (.int (18 : Int32)), .val (.int (8 : Int32)), .val (.ref u7)] [(.int (8 : Int32)), (.ref r4)])) rfl rfl (hb hby d1_21) _ ww) ?_
  show own_Goes _ _ _ _ _ _ _ (T21.setTop (mkF m 22 #[.val (.ref eGRANT), .val .null, .val (.ref r4), .val (.int (18 : Int32)), .val (.int (8 : Int32)), .val (.ref u7)] [(.ref u8)]))
  refine own_go (fun _ ww => XS.astore X21.here hx rfl (hb hby d1_22) rfl rfl (l' := #[.val (.ref eGRANT), .val .null, .val (.ref r4), .val (.int (18 : Int32)), .val (.int (8 : Int32)), .val (.ref u8)]) rfl ww) ?_
  show own_Goes _ _ _ _ _ _ _ (T21.setTop (mkF m 24 #[.val (.ref eGRANT), .val .null, .val (.ref r4), .val (.int (18 : Int32)), .val (.int (8 : Int32)), .val (.ref u8)] []))
  refine own_go (fun _ ww => XS.aload X21.here hx rfl (hb hby d1_24) rfl rfl ww) ?_
  show own_Goes _ _ _ _ _ _ _ (T21.setTop (mkF m 26 #[.val (.ref eGRANT), .val .null, .val (.ref r4), .val (.int (18 : Int32)), .val (.int (8 : Int32)), .val (.ref u8)] [(.ref u8)]))
  obtain ⟨T23, X23, e23, st23⟩ := getF X21 hx hZ hown (host := "") (Or.inl (hw _ (List.mem_of_getElem? (i := 42) rfl))) Via.refl e21 (F8.ext O4.2) (g := (mkF m 26 #[.val (.ref eGRANT), .val .null, .val (.ref r4), .val (.int (18 : Int32)), .val (.int (8 : Int32)), .val (.ref u8)] [(.ref u8)])) rfl rfl (hb hby d1_26)
  refine own_go st23 ?_
  show own_Goes _ _ _ _ _ _ _ (T23.setTop (mkF m 29 #[.val (.ref eGRANT), .val .null, .val (.ref r4), .val (.int (18 : Int32)), .val (.int (8 : Int32)), .val (.ref u8)] [.null]))
  refine own_go (fun _ ww => XS.aloadN X23.here hx rfl (hb hby d1_29) rfl rfl ww) ?_
  show own_Goes _ _ _ _ _ _ _ (T23.setTop (mkF m 30 #[.val (.ref eGRANT), .val .null, .val (.ref r4), .val (.int (18 : Int32)), .val (.int (8 : Int32)), .val (.ref u8)] [(.ref eGRANT), .null]))
  refine own_go (fun _ ww => XT.acmpYes X23.here hx rfl (pc0 := 30) (pc' := 36) rfl (hb hby d1_30) rfl rfl rfl (XT.aa_ne_t (by simp)) (by decide) (by decide) ww) ?_
  show own_Goes _ _ _ _ _ _ _ (T23.setTop (mkF m 36 #[.val (.ref eGRANT), .val .null, .val (.ref r4), .val (.int (18 : Int32)), .val (.int (8 : Int32)), .val (.ref u8)] []))
  refine own_go (fun _ ww => XS.iinc X23.here hx rfl (hb hby d1_36) rfl (l' := #[.val (.ref eGRANT), .val .null, .val (.ref r4), .val (.int (18 : Int32)), .val (.int (9 : Int32)), .val (.ref u8)]) rfl ww) ?_
  show own_Goes _ _ _ _ _ _ _ (T23.setTop (mkF m 39 #[.val (.ref eGRANT), .val .null, .val (.ref r4), .val (.int (18 : Int32)), .val (.int (9 : Int32)), .val (.ref u8)] []))
  refine own_go (fun _ ww => XS.goto X23.here hx rfl (pc0 := 39) (pc' := 12) rfl (hb hby d1_39) (by decide) (by decide) ww) ?_
  show own_Goes _ _ _ _ _ _ _ (T23.setTop (mkF m 12 #[.val (.ref eGRANT), .val .null, .val (.ref r4), .val (.int (18 : Int32)), .val (.int (9 : Int32)), .val (.ref u8)] []))
  refine own_go (fun _ ww => XS.iload X23.here hx rfl (hb hby d1_12) rfl  ww) ?_
  show own_Goes _ _ _ _ _ _ _ (T23.setTop (mkF m 14 #[.val (.ref eGRANT), .val .null, .val (.ref r4), .val (.int (18 : Int32)), .val (.int (9 : Int32)), .val (.ref u8)] [(.int (9 : Int32))]))
  refine own_go (fun _ ww => XS.iloadN X23.here hx rfl (hb hby d1_14) rfl  ww) ?_
  show own_Goes _ _ _ _ _ _ _ (T23.setTop (mkF m 15 #[.val (.ref eGRANT), .val .null, .val (.ref r4), .val (.int (18 : Int32)), .val (.int (9 : Int32)), .val (.ref u8)] [(.int (18 : Int32)), (.int (9 : Int32))]))
  refine own_go (fun _ ww => XS.icmpNo X23.here hx rfl (hb hby d1_15) rfl (tlt (by decide : (9 : Int32) < (18 : Int32))).2.1 ww) ?_
  show own_Goes _ _ _ _ _ _ _ (T23.setTop (mkF m 18 #[.val (.ref eGRANT), .val .null, .val (.ref r4), .val (.int (18 : Int32)), .val (.int (9 : Int32)), .val (.ref u8)] []))
  refine own_go (fun _ ww => XS.aloadN X23.here hx rfl (hb hby d1_18) rfl rfl ww) ?_
  show own_Goes _ _ _ _ _ _ _ (T23.setTop (mkF m 19 #[.val (.ref eGRANT), .val .null, .val (.ref r4), .val (.int (18 : Int32)), .val (.int (9 : Int32)), .val (.ref u8)] [(.ref r4)]))
  refine own_go (fun _ ww => XS.iload X23.here hx rfl (hb hby d1_19) rfl  ww) ?_
  show own_Goes _ _ _ _ _ _ _ (T23.setTop (mkF m 21 #[.val (.ref eGRANT), .val .null, .val (.ref r4), .val (.int (18 : Int32)), .val (.int (9 : Int32)), .val (.ref u8)] [(.int (9 : Int32)), (.ref r4)]))
  obtain ⟨cl24, Ar24, -, S24, -, H24, -⟩ := id V4q
  have hin24 := inb_of (j := (9 : Int32)) S24 ⟨by decide, by decide⟩
  have hat24 : cl24.slots[((9 : Int32)).toNatClampNeg]? = some (.ref u9) := Has.at H24 hin24 rfl
  refine own_go (fun _ ww => X23.aaload hx (j := (9 : Int32)) (v := (.ref u9)) (by rw [e23]; exact Ar24.1) (State.isArrayOf_alike hZ.alike Ar24.2.1) rfl Ar24.2.2 hin24 hat24 (g := (mkF m 21 #[.val (.ref eGRANT), .val .null, .val (.ref r4), .val (.int (18 : Int32)), .val (.int (9 : Int32)), .val (.ref u8)] [(.int (9 : Int32)), (.ref r4)])) rfl rfl (hb hby d1_21) _ ww) ?_
  show own_Goes _ _ _ _ _ _ _ (T23.setTop (mkF m 22 #[.val (.ref eGRANT), .val .null, .val (.ref r4), .val (.int (18 : Int32)), .val (.int (9 : Int32)), .val (.ref u8)] [(.ref u9)]))
  refine own_go (fun _ ww => XS.astore X23.here hx rfl (hb hby d1_22) rfl rfl (l' := #[.val (.ref eGRANT), .val .null, .val (.ref r4), .val (.int (18 : Int32)), .val (.int (9 : Int32)), .val (.ref u9)]) rfl ww) ?_
  show own_Goes _ _ _ _ _ _ _ (T23.setTop (mkF m 24 #[.val (.ref eGRANT), .val .null, .val (.ref r4), .val (.int (18 : Int32)), .val (.int (9 : Int32)), .val (.ref u9)] []))
  refine own_go (fun _ ww => XS.aload X23.here hx rfl (hb hby d1_24) rfl rfl ww) ?_
  show own_Goes _ _ _ _ _ _ _ (T23.setTop (mkF m 26 #[.val (.ref eGRANT), .val .null, .val (.ref r4), .val (.int (18 : Int32)), .val (.int (9 : Int32)), .val (.ref u9)] [(.ref u9)]))
  obtain ⟨T25, X25, e25, st25⟩ := getF X23 hx hZ hown (host := "") (Or.inl (hw _ (List.mem_of_getElem? (i := 42) rfl))) Via.refl e23 (F9.ext O4.2) (g := (mkF m 26 #[.val (.ref eGRANT), .val .null, .val (.ref r4), .val (.int (18 : Int32)), .val (.int (9 : Int32)), .val (.ref u9)] [(.ref u9)])) rfl rfl (hb hby d1_26)
  refine own_go st25 ?_
  show own_Goes _ _ _ _ _ _ _ (T25.setTop (mkF m 29 #[.val (.ref eGRANT), .val .null, .val (.ref r4), .val (.int (18 : Int32)), .val (.int (9 : Int32)), .val (.ref u9)] [.null]))
  refine own_go (fun _ ww => XS.aloadN X25.here hx rfl (hb hby d1_29) rfl rfl ww) ?_
  show own_Goes _ _ _ _ _ _ _ (T25.setTop (mkF m 30 #[.val (.ref eGRANT), .val .null, .val (.ref r4), .val (.int (18 : Int32)), .val (.int (9 : Int32)), .val (.ref u9)] [(.ref eGRANT), .null]))
  refine own_go (fun _ ww => XT.acmpYes X25.here hx rfl (pc0 := 30) (pc' := 36) rfl (hb hby d1_30) rfl rfl rfl (XT.aa_ne_t (by simp)) (by decide) (by decide) ww) ?_
  show own_Goes _ _ _ _ _ _ _ (T25.setTop (mkF m 36 #[.val (.ref eGRANT), .val .null, .val (.ref r4), .val (.int (18 : Int32)), .val (.int (9 : Int32)), .val (.ref u9)] []))
  refine own_go (fun _ ww => XS.iinc X25.here hx rfl (hb hby d1_36) rfl (l' := #[.val (.ref eGRANT), .val .null, .val (.ref r4), .val (.int (18 : Int32)), .val (.int (10 : Int32)), .val (.ref u9)]) rfl ww) ?_
  show own_Goes _ _ _ _ _ _ _ (T25.setTop (mkF m 39 #[.val (.ref eGRANT), .val .null, .val (.ref r4), .val (.int (18 : Int32)), .val (.int (10 : Int32)), .val (.ref u9)] []))
  refine own_go (fun _ ww => XS.goto X25.here hx rfl (pc0 := 39) (pc' := 12) rfl (hb hby d1_39) (by decide) (by decide) ww) ?_
  show own_Goes _ _ _ _ _ _ _ (T25.setTop (mkF m 12 #[.val (.ref eGRANT), .val .null, .val (.ref r4), .val (.int (18 : Int32)), .val (.int (10 : Int32)), .val (.ref u9)] []))
  refine own_go (fun _ ww => XS.iload X25.here hx rfl (hb hby d1_12) rfl  ww) ?_
  show own_Goes _ _ _ _ _ _ _ (T25.setTop (mkF m 14 #[.val (.ref eGRANT), .val .null, .val (.ref r4), .val (.int (18 : Int32)), .val (.int (10 : Int32)), .val (.ref u9)] [(.int (10 : Int32))]))
  refine own_go (fun _ ww => XS.iloadN X25.here hx rfl (hb hby d1_14) rfl  ww) ?_
  show own_Goes _ _ _ _ _ _ _ (T25.setTop (mkF m 15 #[.val (.ref eGRANT), .val .null, .val (.ref r4), .val (.int (18 : Int32)), .val (.int (10 : Int32)), .val (.ref u9)] [(.int (18 : Int32)), (.int (10 : Int32))]))
  refine own_go (fun _ ww => XS.icmpNo X25.here hx rfl (hb hby d1_15) rfl (tlt (by decide : (10 : Int32) < (18 : Int32))).2.1 ww) ?_
  show own_Goes _ _ _ _ _ _ _ (T25.setTop (mkF m 18 #[.val (.ref eGRANT), .val .null, .val (.ref r4), .val (.int (18 : Int32)), .val (.int (10 : Int32)), .val (.ref u9)] []))
  refine own_go (fun _ ww => XS.aloadN X25.here hx rfl (hb hby d1_18) rfl rfl ww) ?_
  show own_Goes _ _ _ _ _ _ _ (T25.setTop (mkF m 19 #[.val (.ref eGRANT), .val .null, .val (.ref r4), .val (.int (18 : Int32)), .val (.int (10 : Int32)), .val (.ref u9)] [(.ref r4)]))
  refine own_go (fun _ ww => XS.iload X25.here hx rfl (hb hby d1_19) rfl  ww) ?_
  show own_Goes _ _ _ _ _ _ _ (T25.setTop (mkF m 21 #[.val (.ref eGRANT), .val .null, .val (.ref r4), .val (.int (18 : Int32)), .val (.int (10 : Int32)), .val (.ref u9)] [(.int (10 : Int32)), (.ref r4)]))
  obtain ⟨cl26, Ar26, -, S26, -, H26, -⟩ := id V4q
  have hin26 := inb_of (j := (10 : Int32)) S26 ⟨by decide, by decide⟩
  have hat26 : cl26.slots[((10 : Int32)).toNatClampNeg]? = some (.ref u10) := Has.at H26 hin26 rfl
  refine own_go (fun _ ww => X25.aaload hx (j := (10 : Int32)) (v := (.ref u10)) (by rw [e25]; exact Ar26.1) (State.isArrayOf_alike hZ.alike Ar26.2.1) rfl Ar26.2.2 hin26 hat26 (g := (mkF m 21 #[.val (.ref eGRANT), .val .null, .val (.ref r4), .val (.int (18 : Int32)), .val (.int (10 : Int32)), .val (.ref u9)] [(.int (10 : Int32)), (.ref r4)])) rfl rfl (hb hby d1_21) _ ww) ?_
  show own_Goes _ _ _ _ _ _ _ (T25.setTop (mkF m 22 #[.val (.ref eGRANT), .val .null, .val (.ref r4), .val (.int (18 : Int32)), .val (.int (10 : Int32)), .val (.ref u9)] [(.ref u10)]))
  refine own_go (fun _ ww => XS.astore X25.here hx rfl (hb hby d1_22) rfl rfl (l' := #[.val (.ref eGRANT), .val .null, .val (.ref r4), .val (.int (18 : Int32)), .val (.int (10 : Int32)), .val (.ref u10)]) rfl ww) ?_
  show own_Goes _ _ _ _ _ _ _ (T25.setTop (mkF m 24 #[.val (.ref eGRANT), .val .null, .val (.ref r4), .val (.int (18 : Int32)), .val (.int (10 : Int32)), .val (.ref u10)] []))
  refine own_go (fun _ ww => XS.aload X25.here hx rfl (hb hby d1_24) rfl rfl ww) ?_
  show own_Goes _ _ _ _ _ _ _ (T25.setTop (mkF m 26 #[.val (.ref eGRANT), .val .null, .val (.ref r4), .val (.int (18 : Int32)), .val (.int (10 : Int32)), .val (.ref u10)] [(.ref u10)]))
  obtain ⟨T27, X27, e27, st27⟩ := getF X25 hx hZ hown (host := "") (Or.inl (hw _ (List.mem_of_getElem? (i := 42) rfl))) Via.refl e25 (F10.ext O4.2) (g := (mkF m 26 #[.val (.ref eGRANT), .val .null, .val (.ref r4), .val (.int (18 : Int32)), .val (.int (10 : Int32)), .val (.ref u10)] [(.ref u10)])) rfl rfl (hb hby d1_26)
  refine own_go st27 ?_
  show own_Goes _ _ _ _ _ _ _ (T27.setTop (mkF m 29 #[.val (.ref eGRANT), .val .null, .val (.ref r4), .val (.int (18 : Int32)), .val (.int (10 : Int32)), .val (.ref u10)] [.null]))
  refine own_go (fun _ ww => XS.aloadN X27.here hx rfl (hb hby d1_29) rfl rfl ww) ?_
  show own_Goes _ _ _ _ _ _ _ (T27.setTop (mkF m 30 #[.val (.ref eGRANT), .val .null, .val (.ref r4), .val (.int (18 : Int32)), .val (.int (10 : Int32)), .val (.ref u10)] [(.ref eGRANT), .null]))
  refine own_go (fun _ ww => XT.acmpYes X27.here hx rfl (pc0 := 30) (pc' := 36) rfl (hb hby d1_30) rfl rfl rfl (XT.aa_ne_t (by simp)) (by decide) (by decide) ww) ?_
  show own_Goes _ _ _ _ _ _ _ (T27.setTop (mkF m 36 #[.val (.ref eGRANT), .val .null, .val (.ref r4), .val (.int (18 : Int32)), .val (.int (10 : Int32)), .val (.ref u10)] []))
  refine own_go (fun _ ww => XS.iinc X27.here hx rfl (hb hby d1_36) rfl (l' := #[.val (.ref eGRANT), .val .null, .val (.ref r4), .val (.int (18 : Int32)), .val (.int (11 : Int32)), .val (.ref u10)]) rfl ww) ?_
  show own_Goes _ _ _ _ _ _ _ (T27.setTop (mkF m 39 #[.val (.ref eGRANT), .val .null, .val (.ref r4), .val (.int (18 : Int32)), .val (.int (11 : Int32)), .val (.ref u10)] []))
  refine own_go (fun _ ww => XS.goto X27.here hx rfl (pc0 := 39) (pc' := 12) rfl (hb hby d1_39) (by decide) (by decide) ww) ?_
  show own_Goes _ _ _ _ _ _ _ (T27.setTop (mkF m 12 #[.val (.ref eGRANT), .val .null, .val (.ref r4), .val (.int (18 : Int32)), .val (.int (11 : Int32)), .val (.ref u10)] []))
  refine own_go (fun _ ww => XS.iload X27.here hx rfl (hb hby d1_12) rfl  ww) ?_
  show own_Goes _ _ _ _ _ _ _ (T27.setTop (mkF m 14 #[.val (.ref eGRANT), .val .null, .val (.ref r4), .val (.int (18 : Int32)), .val (.int (11 : Int32)), .val (.ref u10)] [(.int (11 : Int32))]))
  refine own_go (fun _ ww => XS.iloadN X27.here hx rfl (hb hby d1_14) rfl  ww) ?_
  show own_Goes _ _ _ _ _ _ _ (T27.setTop (mkF m 15 #[.val (.ref eGRANT), .val .null, .val (.ref r4), .val (.int (18 : Int32)), .val (.int (11 : Int32)), .val (.ref u10)] [(.int (18 : Int32)), (.int (11 : Int32))]))
  refine own_go (fun _ ww => XS.icmpNo X27.here hx rfl (hb hby d1_15) rfl (tlt (by decide : (11 : Int32) < (18 : Int32))).2.1 ww) ?_
  show own_Goes _ _ _ _ _ _ _ (T27.setTop (mkF m 18 #[.val (.ref eGRANT), .val .null, .val (.ref r4), .val (.int (18 : Int32)), .val (.int (11 : Int32)), .val (.ref u10)] []))
  refine own_go (fun _ ww => XS.aloadN X27.here hx rfl (hb hby d1_18) rfl rfl ww) ?_
  show own_Goes _ _ _ _ _ _ _ (T27.setTop (mkF m 19 #[.val (.ref eGRANT), .val .null, .val (.ref r4), .val (.int (18 : Int32)), .val (.int (11 : Int32)), .val (.ref u10)] [(.ref r4)]))
  refine own_go (fun _ ww => XS.iload X27.here hx rfl (hb hby d1_19) rfl  ww) ?_
  show own_Goes _ _ _ _ _ _ _ (T27.setTop (mkF m 21 #[.val (.ref eGRANT), .val .null, .val (.ref r4), .val (.int (18 : Int32)), .val (.int (11 : Int32)), .val (.ref u10)] [(.int (11 : Int32)), (.ref r4)]))
  obtain ⟨cl28, Ar28, -, S28, -, H28, -⟩ := id V4q
  have hin28 := inb_of (j := (11 : Int32)) S28 ⟨by decide, by decide⟩
  have hat28 : cl28.slots[((11 : Int32)).toNatClampNeg]? = some (.ref u11) := Has.at H28 hin28 rfl
  refine own_go (fun _ ww => X27.aaload hx (j := (11 : Int32)) (v := (.ref u11)) (by rw [e27]; exact Ar28.1) (State.isArrayOf_alike hZ.alike Ar28.2.1) rfl Ar28.2.2 hin28 hat28 (g := (mkF m 21 #[.val (.ref eGRANT), .val .null, .val (.ref r4), .val (.int (18 : Int32)), .val (.int (11 : Int32)), .val (.ref u10)] [(.int (11 : Int32)), (.ref r4)])) rfl rfl (hb hby d1_21) _ ww) ?_
  show own_Goes _ _ _ _ _ _ _ (T27.setTop (mkF m 22 #[.val (.ref eGRANT), .val .null, .val (.ref r4), .val (.int (18 : Int32)), .val (.int (11 : Int32)), .val (.ref u10)] [(.ref u11)]))
  refine own_go (fun _ ww => XS.astore X27.here hx rfl (hb hby d1_22) rfl rfl (l' := #[.val (.ref eGRANT), .val .null, .val (.ref r4), .val (.int (18 : Int32)), .val (.int (11 : Int32)), .val (.ref u11)]) rfl ww) ?_
  show own_Goes _ _ _ _ _ _ _ (T27.setTop (mkF m 24 #[.val (.ref eGRANT), .val .null, .val (.ref r4), .val (.int (18 : Int32)), .val (.int (11 : Int32)), .val (.ref u11)] []))
  refine own_go (fun _ ww => XS.aload X27.here hx rfl (hb hby d1_24) rfl rfl ww) ?_
  show own_Goes _ _ _ _ _ _ _ (T27.setTop (mkF m 26 #[.val (.ref eGRANT), .val .null, .val (.ref r4), .val (.int (18 : Int32)), .val (.int (11 : Int32)), .val (.ref u11)] [(.ref u11)]))
  obtain ⟨T29, X29, e29, st29⟩ := getF X27 hx hZ hown (host := "") (Or.inl (hw _ (List.mem_of_getElem? (i := 42) rfl))) Via.refl e27 (F11.ext O4.2) (g := (mkF m 26 #[.val (.ref eGRANT), .val .null, .val (.ref r4), .val (.int (18 : Int32)), .val (.int (11 : Int32)), .val (.ref u11)] [(.ref u11)])) rfl rfl (hb hby d1_26)
  refine own_go st29 ?_
  show own_Goes _ _ _ _ _ _ _ (T29.setTop (mkF m 29 #[.val (.ref eGRANT), .val .null, .val (.ref r4), .val (.int (18 : Int32)), .val (.int (11 : Int32)), .val (.ref u11)] [(.ref eGRANT)]))
  refine own_go (fun _ ww => XS.aloadN X29.here hx rfl (hb hby d1_29) rfl rfl ww) ?_
  show own_Goes _ _ _ _ _ _ _ (T29.setTop (mkF m 30 #[.val (.ref eGRANT), .val .null, .val (.ref r4), .val (.int (18 : Int32)), .val (.int (11 : Int32)), .val (.ref u11)] [(.ref eGRANT), (.ref eGRANT)]))
  refine own_go (fun _ ww => XT.acmpNo X29.here hx rfl (hb hby d1_30) rfl rfl rfl (own_aeq (rfl : eGRANT = eGRANT)).2 ww) ?_
  show own_Goes _ _ _ _ _ _ _ (T29.setTop (mkF m 33 #[.val (.ref eGRANT), .val .null, .val (.ref r4), .val (.int (18 : Int32)), .val (.int (11 : Int32)), .val (.ref u11)] []))
  refine own_go (fun _ ww => XS.aload X29.here hx rfl (hb hby d1_33) rfl rfl ww) ?_
  show own_Goes _ _ _ _ _ _ _ (T29.setTop (mkF m 35 #[.val (.ref eGRANT), .val .null, .val (.ref r4), .val (.int (18 : Int32)), .val (.int (11 : Int32)), .val (.ref u11)] [(.ref u11)]))
  refine own_go (fun _ ww => XS.astoreN X29.here hx rfl (hb hby d1_35) rfl rfl (l' := #[.val (.ref eGRANT), .val (.ref u11), .val (.ref r4), .val (.int (18 : Int32)), .val (.int (11 : Int32)), .val (.ref u11)]) rfl ww) ?_
  show own_Goes _ _ _ _ _ _ _ (T29.setTop (mkF m 36 #[.val (.ref eGRANT), .val (.ref u11), .val (.ref r4), .val (.int (18 : Int32)), .val (.int (11 : Int32)), .val (.ref u11)] []))
  refine own_go (fun _ ww => XS.iinc X29.here hx rfl (hb hby d1_36) rfl (l' := #[.val (.ref eGRANT), .val (.ref u11), .val (.ref r4), .val (.int (18 : Int32)), .val (.int (12 : Int32)), .val (.ref u11)]) rfl ww) ?_
  show own_Goes _ _ _ _ _ _ _ (T29.setTop (mkF m 39 #[.val (.ref eGRANT), .val (.ref u11), .val (.ref r4), .val (.int (18 : Int32)), .val (.int (12 : Int32)), .val (.ref u11)] []))
  refine own_go (fun _ ww => XS.goto X29.here hx rfl (pc0 := 39) (pc' := 12) rfl (hb hby d1_39) (by decide) (by decide) ww) ?_
  show own_Goes _ _ _ _ _ _ _ (T29.setTop (mkF m 12 #[.val (.ref eGRANT), .val (.ref u11), .val (.ref r4), .val (.int (18 : Int32)), .val (.int (12 : Int32)), .val (.ref u11)] []))
  refine own_go (fun _ ww => XS.iload X29.here hx rfl (hb hby d1_12) rfl  ww) ?_
  show own_Goes _ _ _ _ _ _ _ (T29.setTop (mkF m 14 #[.val (.ref eGRANT), .val (.ref u11), .val (.ref r4), .val (.int (18 : Int32)), .val (.int (12 : Int32)), .val (.ref u11)] [(.int (12 : Int32))]))
  refine own_go (fun _ ww => XS.iloadN X29.here hx rfl (hb hby d1_14) rfl  ww) ?_
  show own_Goes _ _ _ _ _ _ _ (T29.setTop (mkF m 15 #[.val (.ref eGRANT), .val (.ref u11), .val (.ref r4), .val (.int (18 : Int32)), .val (.int (12 : Int32)), .val (.ref u11)] [(.int (18 : Int32)), (.int (12 : Int32))]))
  refine own_go (fun _ ww => XS.icmpNo X29.here hx rfl (hb hby d1_15) rfl (tlt (by decide : (12 : Int32) < (18 : Int32))).2.1 ww) ?_
  show own_Goes _ _ _ _ _ _ _ (T29.setTop (mkF m 18 #[.val (.ref eGRANT), .val (.ref u11), .val (.ref r4), .val (.int (18 : Int32)), .val (.int (12 : Int32)), .val (.ref u11)] []))
  refine own_go (fun _ ww => XS.aloadN X29.here hx rfl (hb hby d1_18) rfl rfl ww) ?_
  show own_Goes _ _ _ _ _ _ _ (T29.setTop (mkF m 19 #[.val (.ref eGRANT), .val (.ref u11), .val (.ref r4), .val (.int (18 : Int32)), .val (.int (12 : Int32)), .val (.ref u11)] [(.ref r4)]))
  refine own_go (fun _ ww => XS.iload X29.here hx rfl (hb hby d1_19) rfl  ww) ?_
  show own_Goes _ _ _ _ _ _ _ (T29.setTop (mkF m 21 #[.val (.ref eGRANT), .val (.ref u11), .val (.ref r4), .val (.int (18 : Int32)), .val (.int (12 : Int32)), .val (.ref u11)] [(.int (12 : Int32)), (.ref r4)]))
  obtain ⟨cl30, Ar30, -, S30, -, H30, -⟩ := id V4q
  have hin30 := inb_of (j := (12 : Int32)) S30 ⟨by decide, by decide⟩
  have hat30 : cl30.slots[((12 : Int32)).toNatClampNeg]? = some (.ref u12) := Has.at H30 hin30 rfl
  refine own_go (fun _ ww => X29.aaload hx (j := (12 : Int32)) (v := (.ref u12)) (by rw [e29]; exact Ar30.1) (State.isArrayOf_alike hZ.alike Ar30.2.1) rfl Ar30.2.2 hin30 hat30 (g := (mkF m 21 #[.val (.ref eGRANT), .val (.ref u11), .val (.ref r4), .val (.int (18 : Int32)), .val (.int (12 : Int32)), .val (.ref u11)] [(.int (12 : Int32)), (.ref r4)])) rfl rfl (hb hby d1_21) _ ww) ?_
  show own_Goes _ _ _ _ _ _ _ (T29.setTop (mkF m 22 #[.val (.ref eGRANT), .val (.ref u11), .val (.ref r4), .val (.int (18 : Int32)), .val (.int (12 : Int32)), .val (.ref u11)] [(.ref u12)]))
  refine own_go (fun _ ww => XS.astore X29.here hx rfl (hb hby d1_22) rfl rfl (l' := #[.val (.ref eGRANT), .val (.ref u11), .val (.ref r4), .val (.int (18 : Int32)), .val (.int (12 : Int32)), .val (.ref u12)]) rfl ww) ?_
  show own_Goes _ _ _ _ _ _ _ (T29.setTop (mkF m 24 #[.val (.ref eGRANT), .val (.ref u11), .val (.ref r4), .val (.int (18 : Int32)), .val (.int (12 : Int32)), .val (.ref u12)] []))
  refine own_go (fun _ ww => XS.aload X29.here hx rfl (hb hby d1_24) rfl rfl ww) ?_
  show own_Goes _ _ _ _ _ _ _ (T29.setTop (mkF m 26 #[.val (.ref eGRANT), .val (.ref u11), .val (.ref r4), .val (.int (18 : Int32)), .val (.int (12 : Int32)), .val (.ref u12)] [(.ref u12)]))
  obtain ⟨T31, X31, e31, st31⟩ := getF X29 hx hZ hown (host := "") (Or.inl (hw _ (List.mem_of_getElem? (i := 42) rfl))) Via.refl e29 (F12.ext O4.2) (g := (mkF m 26 #[.val (.ref eGRANT), .val (.ref u11), .val (.ref r4), .val (.int (18 : Int32)), .val (.int (12 : Int32)), .val (.ref u12)] [(.ref u12)])) rfl rfl (hb hby d1_26)
  refine own_go st31 ?_
  show own_Goes _ _ _ _ _ _ _ (T31.setTop (mkF m 29 #[.val (.ref eGRANT), .val (.ref u11), .val (.ref r4), .val (.int (18 : Int32)), .val (.int (12 : Int32)), .val (.ref u12)] [(.ref eDENY)]))
  refine own_go (fun _ ww => XS.aloadN X31.here hx rfl (hb hby d1_29) rfl rfl ww) ?_
  show own_Goes _ _ _ _ _ _ _ (T31.setTop (mkF m 30 #[.val (.ref eGRANT), .val (.ref u11), .val (.ref r4), .val (.int (18 : Int32)), .val (.int (12 : Int32)), .val (.ref u12)] [(.ref eGRANT), (.ref eDENY)]))
  refine own_go (fun _ ww => XT.acmpYes X31.here hx rfl (pc0 := 30) (pc' := 36) rfl (hb hby d1_30) rfl rfl rfl (own_ane (Ne.symm n01)).2 (by decide) (by decide) ww) ?_
  show own_Goes _ _ _ _ _ _ _ (T31.setTop (mkF m 36 #[.val (.ref eGRANT), .val (.ref u11), .val (.ref r4), .val (.int (18 : Int32)), .val (.int (12 : Int32)), .val (.ref u12)] []))
  refine own_go (fun _ ww => XS.iinc X31.here hx rfl (hb hby d1_36) rfl (l' := #[.val (.ref eGRANT), .val (.ref u11), .val (.ref r4), .val (.int (18 : Int32)), .val (.int (13 : Int32)), .val (.ref u12)]) rfl ww) ?_
  show own_Goes _ _ _ _ _ _ _ (T31.setTop (mkF m 39 #[.val (.ref eGRANT), .val (.ref u11), .val (.ref r4), .val (.int (18 : Int32)), .val (.int (13 : Int32)), .val (.ref u12)] []))
  refine own_go (fun _ ww => XS.goto X31.here hx rfl (pc0 := 39) (pc' := 12) rfl (hb hby d1_39) (by decide) (by decide) ww) ?_
  show own_Goes _ _ _ _ _ _ _ (T31.setTop (mkF m 12 #[.val (.ref eGRANT), .val (.ref u11), .val (.ref r4), .val (.int (18 : Int32)), .val (.int (13 : Int32)), .val (.ref u12)] []))
  refine own_go (fun _ ww => XS.iload X31.here hx rfl (hb hby d1_12) rfl  ww) ?_
  show own_Goes _ _ _ _ _ _ _ (T31.setTop (mkF m 14 #[.val (.ref eGRANT), .val (.ref u11), .val (.ref r4), .val (.int (18 : Int32)), .val (.int (13 : Int32)), .val (.ref u12)] [(.int (13 : Int32))]))
  refine own_go (fun _ ww => XS.iloadN X31.here hx rfl (hb hby d1_14) rfl  ww) ?_
  show own_Goes _ _ _ _ _ _ _ (T31.setTop (mkF m 15 #[.val (.ref eGRANT), .val (.ref u11), .val (.ref r4), .val (.int (18 : Int32)), .val (.int (13 : Int32)), .val (.ref u12)] [(.int (18 : Int32)), (.int (13 : Int32))]))
  refine own_go (fun _ ww => XS.icmpNo X31.here hx rfl (hb hby d1_15) rfl (tlt (by decide : (13 : Int32) < (18 : Int32))).2.1 ww) ?_
  show own_Goes _ _ _ _ _ _ _ (T31.setTop (mkF m 18 #[.val (.ref eGRANT), .val (.ref u11), .val (.ref r4), .val (.int (18 : Int32)), .val (.int (13 : Int32)), .val (.ref u12)] []))
  refine own_go (fun _ ww => XS.aloadN X31.here hx rfl (hb hby d1_18) rfl rfl ww) ?_
  show own_Goes _ _ _ _ _ _ _ (T31.setTop (mkF m 19 #[.val (.ref eGRANT), .val (.ref u11), .val (.ref r4), .val (.int (18 : Int32)), .val (.int (13 : Int32)), .val (.ref u12)] [(.ref r4)]))
  refine own_go (fun _ ww => XS.iload X31.here hx rfl (hb hby d1_19) rfl  ww) ?_
  show own_Goes _ _ _ _ _ _ _ (T31.setTop (mkF m 21 #[.val (.ref eGRANT), .val (.ref u11), .val (.ref r4), .val (.int (18 : Int32)), .val (.int (13 : Int32)), .val (.ref u12)] [(.int (13 : Int32)), (.ref r4)]))
  obtain ⟨cl32, Ar32, -, S32, -, H32, -⟩ := id V4q
  have hin32 := inb_of (j := (13 : Int32)) S32 ⟨by decide, by decide⟩
  have hat32 : cl32.slots[((13 : Int32)).toNatClampNeg]? = some (.ref u13) := Has.at H32 hin32 rfl
  refine own_go (fun _ ww => X31.aaload hx (j := (13 : Int32)) (v := (.ref u13)) (by rw [e31]; exact Ar32.1) (State.isArrayOf_alike hZ.alike Ar32.2.1) rfl Ar32.2.2 hin32 hat32 (g := (mkF m 21 #[.val (.ref eGRANT), .val (.ref u11), .val (.ref r4), .val (.int (18 : Int32)), .val (.int (13 : Int32)), .val (.ref u12)] [(.int (13 : Int32)), (.ref r4)])) rfl rfl (hb hby d1_21) _ ww) ?_
  show own_Goes _ _ _ _ _ _ _ (T31.setTop (mkF m 22 #[.val (.ref eGRANT), .val (.ref u11), .val (.ref r4), .val (.int (18 : Int32)), .val (.int (13 : Int32)), .val (.ref u12)] [(.ref u13)]))
  refine own_go (fun _ ww => XS.astore X31.here hx rfl (hb hby d1_22) rfl rfl (l' := #[.val (.ref eGRANT), .val (.ref u11), .val (.ref r4), .val (.int (18 : Int32)), .val (.int (13 : Int32)), .val (.ref u13)]) rfl ww) ?_
  show own_Goes _ _ _ _ _ _ _ (T31.setTop (mkF m 24 #[.val (.ref eGRANT), .val (.ref u11), .val (.ref r4), .val (.int (18 : Int32)), .val (.int (13 : Int32)), .val (.ref u13)] []))
  refine own_go (fun _ ww => XS.aload X31.here hx rfl (hb hby d1_24) rfl rfl ww) ?_
  show own_Goes _ _ _ _ _ _ _ (T31.setTop (mkF m 26 #[.val (.ref eGRANT), .val (.ref u11), .val (.ref r4), .val (.int (18 : Int32)), .val (.int (13 : Int32)), .val (.ref u13)] [(.ref u13)]))
  obtain ⟨T33, X33, e33, st33⟩ := getF X31 hx hZ hown (host := "") (Or.inl (hw _ (List.mem_of_getElem? (i := 42) rfl))) Via.refl e31 (F13.ext O4.2) (g := (mkF m 26 #[.val (.ref eGRANT), .val (.ref u11), .val (.ref r4), .val (.int (18 : Int32)), .val (.int (13 : Int32)), .val (.ref u13)] [(.ref u13)])) rfl rfl (hb hby d1_26)
  refine own_go st33 ?_
  show own_Goes _ _ _ _ _ _ _ (T33.setTop (mkF m 29 #[.val (.ref eGRANT), .val (.ref u11), .val (.ref r4), .val (.int (18 : Int32)), .val (.int (13 : Int32)), .val (.ref u13)] [(.ref eFORBID)]))
  refine own_go (fun _ ww => XS.aloadN X33.here hx rfl (hb hby d1_29) rfl rfl ww) ?_
  show own_Goes _ _ _ _ _ _ _ (T33.setTop (mkF m 30 #[.val (.ref eGRANT), .val (.ref u11), .val (.ref r4), .val (.int (18 : Int32)), .val (.int (13 : Int32)), .val (.ref u13)] [(.ref eGRANT), (.ref eFORBID)]))
  refine own_go (fun _ ww => XT.acmpYes X33.here hx rfl (pc0 := 30) (pc' := 36) rfl (hb hby d1_30) rfl rfl rfl (own_ane (Ne.symm n02)).2 (by decide) (by decide) ww) ?_
  show own_Goes _ _ _ _ _ _ _ (T33.setTop (mkF m 36 #[.val (.ref eGRANT), .val (.ref u11), .val (.ref r4), .val (.int (18 : Int32)), .val (.int (13 : Int32)), .val (.ref u13)] []))
  refine own_go (fun _ ww => XS.iinc X33.here hx rfl (hb hby d1_36) rfl (l' := #[.val (.ref eGRANT), .val (.ref u11), .val (.ref r4), .val (.int (18 : Int32)), .val (.int (14 : Int32)), .val (.ref u13)]) rfl ww) ?_
  show own_Goes _ _ _ _ _ _ _ (T33.setTop (mkF m 39 #[.val (.ref eGRANT), .val (.ref u11), .val (.ref r4), .val (.int (18 : Int32)), .val (.int (14 : Int32)), .val (.ref u13)] []))
  refine own_go (fun _ ww => XS.goto X33.here hx rfl (pc0 := 39) (pc' := 12) rfl (hb hby d1_39) (by decide) (by decide) ww) ?_
  show own_Goes _ _ _ _ _ _ _ (T33.setTop (mkF m 12 #[.val (.ref eGRANT), .val (.ref u11), .val (.ref r4), .val (.int (18 : Int32)), .val (.int (14 : Int32)), .val (.ref u13)] []))
  refine own_go (fun _ ww => XS.iload X33.here hx rfl (hb hby d1_12) rfl  ww) ?_
  show own_Goes _ _ _ _ _ _ _ (T33.setTop (mkF m 14 #[.val (.ref eGRANT), .val (.ref u11), .val (.ref r4), .val (.int (18 : Int32)), .val (.int (14 : Int32)), .val (.ref u13)] [(.int (14 : Int32))]))
  refine own_go (fun _ ww => XS.iloadN X33.here hx rfl (hb hby d1_14) rfl  ww) ?_
  show own_Goes _ _ _ _ _ _ _ (T33.setTop (mkF m 15 #[.val (.ref eGRANT), .val (.ref u11), .val (.ref r4), .val (.int (18 : Int32)), .val (.int (14 : Int32)), .val (.ref u13)] [(.int (18 : Int32)), (.int (14 : Int32))]))
  refine own_go (fun _ ww => XS.icmpNo X33.here hx rfl (hb hby d1_15) rfl (tlt (by decide : (14 : Int32) < (18 : Int32))).2.1 ww) ?_
  show own_Goes _ _ _ _ _ _ _ (T33.setTop (mkF m 18 #[.val (.ref eGRANT), .val (.ref u11), .val (.ref r4), .val (.int (18 : Int32)), .val (.int (14 : Int32)), .val (.ref u13)] []))
  refine own_go (fun _ ww => XS.aloadN X33.here hx rfl (hb hby d1_18) rfl rfl ww) ?_
  show own_Goes _ _ _ _ _ _ _ (T33.setTop (mkF m 19 #[.val (.ref eGRANT), .val (.ref u11), .val (.ref r4), .val (.int (18 : Int32)), .val (.int (14 : Int32)), .val (.ref u13)] [(.ref r4)]))
  refine own_go (fun _ ww => XS.iload X33.here hx rfl (hb hby d1_19) rfl  ww) ?_
  show own_Goes _ _ _ _ _ _ _ (T33.setTop (mkF m 21 #[.val (.ref eGRANT), .val (.ref u11), .val (.ref r4), .val (.int (18 : Int32)), .val (.int (14 : Int32)), .val (.ref u13)] [(.int (14 : Int32)), (.ref r4)]))
  obtain ⟨cl34, Ar34, -, S34, -, H34, -⟩ := id V4q
  have hin34 := inb_of (j := (14 : Int32)) S34 ⟨by decide, by decide⟩
  have hat34 : cl34.slots[((14 : Int32)).toNatClampNeg]? = some (.ref u14) := Has.at H34 hin34 rfl
  refine own_go (fun _ ww => X33.aaload hx (j := (14 : Int32)) (v := (.ref u14)) (by rw [e33]; exact Ar34.1) (State.isArrayOf_alike hZ.alike Ar34.2.1) rfl Ar34.2.2 hin34 hat34 (g := (mkF m 21 #[.val (.ref eGRANT), .val (.ref u11), .val (.ref r4), .val (.int (18 : Int32)), .val (.int (14 : Int32)), .val (.ref u13)] [(.int (14 : Int32)), (.ref r4)])) rfl rfl (hb hby d1_21) _ ww) ?_
  show own_Goes _ _ _ _ _ _ _ (T33.setTop (mkF m 22 #[.val (.ref eGRANT), .val (.ref u11), .val (.ref r4), .val (.int (18 : Int32)), .val (.int (14 : Int32)), .val (.ref u13)] [(.ref u14)]))
  refine own_go (fun _ ww => XS.astore X33.here hx rfl (hb hby d1_22) rfl rfl (l' := #[.val (.ref eGRANT), .val (.ref u11), .val (.ref r4), .val (.int (18 : Int32)), .val (.int (14 : Int32)), .val (.ref u14)]) rfl ww) ?_
  show own_Goes _ _ _ _ _ _ _ (T33.setTop (mkF m 24 #[.val (.ref eGRANT), .val (.ref u11), .val (.ref r4), .val (.int (18 : Int32)), .val (.int (14 : Int32)), .val (.ref u14)] []))
  refine own_go (fun _ ww => XS.aload X33.here hx rfl (hb hby d1_24) rfl rfl ww) ?_
  show own_Goes _ _ _ _ _ _ _ (T33.setTop (mkF m 26 #[.val (.ref eGRANT), .val (.ref u11), .val (.ref r4), .val (.int (18 : Int32)), .val (.int (14 : Int32)), .val (.ref u14)] [(.ref u14)]))
  obtain ⟨T35, X35, e35, st35⟩ := getF X33 hx hZ hown (host := "") (Or.inl (hw _ (List.mem_of_getElem? (i := 42) rfl))) Via.refl e33 (F14.ext O4.2) (g := (mkF m 26 #[.val (.ref eGRANT), .val (.ref u11), .val (.ref r4), .val (.int (18 : Int32)), .val (.int (14 : Int32)), .val (.ref u14)] [(.ref u14)])) rfl rfl (hb hby d1_26)
  refine own_go st35 ?_
  show own_Goes _ _ _ _ _ _ _ (T35.setTop (mkF m 29 #[.val (.ref eGRANT), .val (.ref u11), .val (.ref r4), .val (.int (18 : Int32)), .val (.int (14 : Int32)), .val (.ref u14)] [.null]))
  refine own_go (fun _ ww => XS.aloadN X35.here hx rfl (hb hby d1_29) rfl rfl ww) ?_
  show own_Goes _ _ _ _ _ _ _ (T35.setTop (mkF m 30 #[.val (.ref eGRANT), .val (.ref u11), .val (.ref r4), .val (.int (18 : Int32)), .val (.int (14 : Int32)), .val (.ref u14)] [(.ref eGRANT), .null]))
  refine own_go (fun _ ww => XT.acmpYes X35.here hx rfl (pc0 := 30) (pc' := 36) rfl (hb hby d1_30) rfl rfl rfl (XT.aa_ne_t (by simp)) (by decide) (by decide) ww) ?_
  show own_Goes _ _ _ _ _ _ _ (T35.setTop (mkF m 36 #[.val (.ref eGRANT), .val (.ref u11), .val (.ref r4), .val (.int (18 : Int32)), .val (.int (14 : Int32)), .val (.ref u14)] []))
  refine own_go (fun _ ww => XS.iinc X35.here hx rfl (hb hby d1_36) rfl (l' := #[.val (.ref eGRANT), .val (.ref u11), .val (.ref r4), .val (.int (18 : Int32)), .val (.int (15 : Int32)), .val (.ref u14)]) rfl ww) ?_
  show own_Goes _ _ _ _ _ _ _ (T35.setTop (mkF m 39 #[.val (.ref eGRANT), .val (.ref u11), .val (.ref r4), .val (.int (18 : Int32)), .val (.int (15 : Int32)), .val (.ref u14)] []))
  refine own_go (fun _ ww => XS.goto X35.here hx rfl (pc0 := 39) (pc' := 12) rfl (hb hby d1_39) (by decide) (by decide) ww) ?_
  show own_Goes _ _ _ _ _ _ _ (T35.setTop (mkF m 12 #[.val (.ref eGRANT), .val (.ref u11), .val (.ref r4), .val (.int (18 : Int32)), .val (.int (15 : Int32)), .val (.ref u14)] []))
  refine own_go (fun _ ww => XS.iload X35.here hx rfl (hb hby d1_12) rfl  ww) ?_
  show own_Goes _ _ _ _ _ _ _ (T35.setTop (mkF m 14 #[.val (.ref eGRANT), .val (.ref u11), .val (.ref r4), .val (.int (18 : Int32)), .val (.int (15 : Int32)), .val (.ref u14)] [(.int (15 : Int32))]))
  refine own_go (fun _ ww => XS.iloadN X35.here hx rfl (hb hby d1_14) rfl  ww) ?_
  show own_Goes _ _ _ _ _ _ _ (T35.setTop (mkF m 15 #[.val (.ref eGRANT), .val (.ref u11), .val (.ref r4), .val (.int (18 : Int32)), .val (.int (15 : Int32)), .val (.ref u14)] [(.int (18 : Int32)), (.int (15 : Int32))]))
  refine own_go (fun _ ww => XS.icmpNo X35.here hx rfl (hb hby d1_15) rfl (tlt (by decide : (15 : Int32) < (18 : Int32))).2.1 ww) ?_
  show own_Goes _ _ _ _ _ _ _ (T35.setTop (mkF m 18 #[.val (.ref eGRANT), .val (.ref u11), .val (.ref r4), .val (.int (18 : Int32)), .val (.int (15 : Int32)), .val (.ref u14)] []))
  refine own_go (fun _ ww => XS.aloadN X35.here hx rfl (hb hby d1_18) rfl rfl ww) ?_
  show own_Goes _ _ _ _ _ _ _ (T35.setTop (mkF m 19 #[.val (.ref eGRANT), .val (.ref u11), .val (.ref r4), .val (.int (18 : Int32)), .val (.int (15 : Int32)), .val (.ref u14)] [(.ref r4)]))
  refine own_go (fun _ ww => XS.iload X35.here hx rfl (hb hby d1_19) rfl  ww) ?_
  show own_Goes _ _ _ _ _ _ _ (T35.setTop (mkF m 21 #[.val (.ref eGRANT), .val (.ref u11), .val (.ref r4), .val (.int (18 : Int32)), .val (.int (15 : Int32)), .val (.ref u14)] [(.int (15 : Int32)), (.ref r4)]))
  obtain ⟨cl36, Ar36, -, S36, -, H36, -⟩ := id V4q
  have hin36 := inb_of (j := (15 : Int32)) S36 ⟨by decide, by decide⟩
  have hat36 : cl36.slots[((15 : Int32)).toNatClampNeg]? = some (.ref u15) := Has.at H36 hin36 rfl
  refine own_go (fun _ ww => X35.aaload hx (j := (15 : Int32)) (v := (.ref u15)) (by rw [e35]; exact Ar36.1) (State.isArrayOf_alike hZ.alike Ar36.2.1) rfl Ar36.2.2 hin36 hat36 (g := (mkF m 21 #[.val (.ref eGRANT), .val (.ref u11), .val (.ref r4), .val (.int (18 : Int32)), .val (.int (15 : Int32)), .val (.ref u14)] [(.int (15 : Int32)), (.ref r4)])) rfl rfl (hb hby d1_21) _ ww) ?_
  show own_Goes _ _ _ _ _ _ _ (T35.setTop (mkF m 22 #[.val (.ref eGRANT), .val (.ref u11), .val (.ref r4), .val (.int (18 : Int32)), .val (.int (15 : Int32)), .val (.ref u14)] [(.ref u15)]))
  refine own_go (fun _ ww => XS.astore X35.here hx rfl (hb hby d1_22) rfl rfl (l' := #[.val (.ref eGRANT), .val (.ref u11), .val (.ref r4), .val (.int (18 : Int32)), .val (.int (15 : Int32)), .val (.ref u15)]) rfl ww) ?_
  show own_Goes _ _ _ _ _ _ _ (T35.setTop (mkF m 24 #[.val (.ref eGRANT), .val (.ref u11), .val (.ref r4), .val (.int (18 : Int32)), .val (.int (15 : Int32)), .val (.ref u15)] []))
  refine own_go (fun _ ww => XS.aload X35.here hx rfl (hb hby d1_24) rfl rfl ww) ?_
  show own_Goes _ _ _ _ _ _ _ (T35.setTop (mkF m 26 #[.val (.ref eGRANT), .val (.ref u11), .val (.ref r4), .val (.int (18 : Int32)), .val (.int (15 : Int32)), .val (.ref u15)] [(.ref u15)]))
  obtain ⟨T37, X37, e37, st37⟩ := getF X35 hx hZ hown (host := "") (Or.inl (hw _ (List.mem_of_getElem? (i := 42) rfl))) Via.refl e35 (F15.ext O4.2) (g := (mkF m 26 #[.val (.ref eGRANT), .val (.ref u11), .val (.ref r4), .val (.int (18 : Int32)), .val (.int (15 : Int32)), .val (.ref u15)] [(.ref u15)])) rfl rfl (hb hby d1_26)
  refine own_go st37 ?_
  show own_Goes _ _ _ _ _ _ _ (T37.setTop (mkF m 29 #[.val (.ref eGRANT), .val (.ref u11), .val (.ref r4), .val (.int (18 : Int32)), .val (.int (15 : Int32)), .val (.ref u15)] [.null]))
  refine own_go (fun _ ww => XS.aloadN X37.here hx rfl (hb hby d1_29) rfl rfl ww) ?_
  show own_Goes _ _ _ _ _ _ _ (T37.setTop (mkF m 30 #[.val (.ref eGRANT), .val (.ref u11), .val (.ref r4), .val (.int (18 : Int32)), .val (.int (15 : Int32)), .val (.ref u15)] [(.ref eGRANT), .null]))
  refine own_go (fun _ ww => XT.acmpYes X37.here hx rfl (pc0 := 30) (pc' := 36) rfl (hb hby d1_30) rfl rfl rfl (XT.aa_ne_t (by simp)) (by decide) (by decide) ww) ?_
  show own_Goes _ _ _ _ _ _ _ (T37.setTop (mkF m 36 #[.val (.ref eGRANT), .val (.ref u11), .val (.ref r4), .val (.int (18 : Int32)), .val (.int (15 : Int32)), .val (.ref u15)] []))
  refine own_go (fun _ ww => XS.iinc X37.here hx rfl (hb hby d1_36) rfl (l' := #[.val (.ref eGRANT), .val (.ref u11), .val (.ref r4), .val (.int (18 : Int32)), .val (.int (16 : Int32)), .val (.ref u15)]) rfl ww) ?_
  show own_Goes _ _ _ _ _ _ _ (T37.setTop (mkF m 39 #[.val (.ref eGRANT), .val (.ref u11), .val (.ref r4), .val (.int (18 : Int32)), .val (.int (16 : Int32)), .val (.ref u15)] []))
  refine own_go (fun _ ww => XS.goto X37.here hx rfl (pc0 := 39) (pc' := 12) rfl (hb hby d1_39) (by decide) (by decide) ww) ?_
  show own_Goes _ _ _ _ _ _ _ (T37.setTop (mkF m 12 #[.val (.ref eGRANT), .val (.ref u11), .val (.ref r4), .val (.int (18 : Int32)), .val (.int (16 : Int32)), .val (.ref u15)] []))
  refine own_go (fun _ ww => XS.iload X37.here hx rfl (hb hby d1_12) rfl  ww) ?_
  show own_Goes _ _ _ _ _ _ _ (T37.setTop (mkF m 14 #[.val (.ref eGRANT), .val (.ref u11), .val (.ref r4), .val (.int (18 : Int32)), .val (.int (16 : Int32)), .val (.ref u15)] [(.int (16 : Int32))]))
  refine own_go (fun _ ww => XS.iloadN X37.here hx rfl (hb hby d1_14) rfl  ww) ?_
  show own_Goes _ _ _ _ _ _ _ (T37.setTop (mkF m 15 #[.val (.ref eGRANT), .val (.ref u11), .val (.ref r4), .val (.int (18 : Int32)), .val (.int (16 : Int32)), .val (.ref u15)] [(.int (18 : Int32)), (.int (16 : Int32))]))
  refine own_go (fun _ ww => XS.icmpNo X37.here hx rfl (hb hby d1_15) rfl (tlt (by decide : (16 : Int32) < (18 : Int32))).2.1 ww) ?_
  show own_Goes _ _ _ _ _ _ _ (T37.setTop (mkF m 18 #[.val (.ref eGRANT), .val (.ref u11), .val (.ref r4), .val (.int (18 : Int32)), .val (.int (16 : Int32)), .val (.ref u15)] []))
  refine own_go (fun _ ww => XS.aloadN X37.here hx rfl (hb hby d1_18) rfl rfl ww) ?_
  show own_Goes _ _ _ _ _ _ _ (T37.setTop (mkF m 19 #[.val (.ref eGRANT), .val (.ref u11), .val (.ref r4), .val (.int (18 : Int32)), .val (.int (16 : Int32)), .val (.ref u15)] [(.ref r4)]))
  refine own_go (fun _ ww => XS.iload X37.here hx rfl (hb hby d1_19) rfl  ww) ?_
  show own_Goes _ _ _ _ _ _ _ (T37.setTop (mkF m 21 #[.val (.ref eGRANT), .val (.ref u11), .val (.ref r4), .val (.int (18 : Int32)), .val (.int (16 : Int32)), .val (.ref u15)] [(.int (16 : Int32)), (.ref r4)]))
  obtain ⟨cl38, Ar38, -, S38, -, H38, -⟩ := id V4q
  have hin38 := inb_of (j := (16 : Int32)) S38 ⟨by decide, by decide⟩
  have hat38 : cl38.slots[((16 : Int32)).toNatClampNeg]? = some (.ref u16) := Has.at H38 hin38 rfl
  refine own_go (fun _ ww => X37.aaload hx (j := (16 : Int32)) (v := (.ref u16)) (by rw [e37]; exact Ar38.1) (State.isArrayOf_alike hZ.alike Ar38.2.1) rfl Ar38.2.2 hin38 hat38 (g := (mkF m 21 #[.val (.ref eGRANT), .val (.ref u11), .val (.ref r4), .val (.int (18 : Int32)), .val (.int (16 : Int32)), .val (.ref u15)] [(.int (16 : Int32)), (.ref r4)])) rfl rfl (hb hby d1_21) _ ww) ?_
  show own_Goes _ _ _ _ _ _ _ (T37.setTop (mkF m 22 #[.val (.ref eGRANT), .val (.ref u11), .val (.ref r4), .val (.int (18 : Int32)), .val (.int (16 : Int32)), .val (.ref u15)] [(.ref u16)]))
  refine own_go (fun _ ww => XS.astore X37.here hx rfl (hb hby d1_22) rfl rfl (l' := #[.val (.ref eGRANT), .val (.ref u11), .val (.ref r4), .val (.int (18 : Int32)), .val (.int (16 : Int32)), .val (.ref u16)]) rfl ww) ?_
  show own_Goes _ _ _ _ _ _ _ (T37.setTop (mkF m 24 #[.val (.ref eGRANT), .val (.ref u11), .val (.ref r4), .val (.int (18 : Int32)), .val (.int (16 : Int32)), .val (.ref u16)] []))
  refine own_go (fun _ ww => XS.aload X37.here hx rfl (hb hby d1_24) rfl rfl ww) ?_
  show own_Goes _ _ _ _ _ _ _ (T37.setTop (mkF m 26 #[.val (.ref eGRANT), .val (.ref u11), .val (.ref r4), .val (.int (18 : Int32)), .val (.int (16 : Int32)), .val (.ref u16)] [(.ref u16)]))
  obtain ⟨T39, X39, e39, st39⟩ := getF X37 hx hZ hown (host := "") (Or.inl (hw _ (List.mem_of_getElem? (i := 42) rfl))) Via.refl e37 (F16.ext O4.2) (g := (mkF m 26 #[.val (.ref eGRANT), .val (.ref u11), .val (.ref r4), .val (.int (18 : Int32)), .val (.int (16 : Int32)), .val (.ref u16)] [(.ref u16)])) rfl rfl (hb hby d1_26)
  refine own_go st39 ?_
  show own_Goes _ _ _ _ _ _ _ (T39.setTop (mkF m 29 #[.val (.ref eGRANT), .val (.ref u11), .val (.ref r4), .val (.int (18 : Int32)), .val (.int (16 : Int32)), .val (.ref u16)] [.null]))
  refine own_go (fun _ ww => XS.aloadN X39.here hx rfl (hb hby d1_29) rfl rfl ww) ?_
  show own_Goes _ _ _ _ _ _ _ (T39.setTop (mkF m 30 #[.val (.ref eGRANT), .val (.ref u11), .val (.ref r4), .val (.int (18 : Int32)), .val (.int (16 : Int32)), .val (.ref u16)] [(.ref eGRANT), .null]))
  refine own_go (fun _ ww => XT.acmpYes X39.here hx rfl (pc0 := 30) (pc' := 36) rfl (hb hby d1_30) rfl rfl rfl (XT.aa_ne_t (by simp)) (by decide) (by decide) ww) ?_
  show own_Goes _ _ _ _ _ _ _ (T39.setTop (mkF m 36 #[.val (.ref eGRANT), .val (.ref u11), .val (.ref r4), .val (.int (18 : Int32)), .val (.int (16 : Int32)), .val (.ref u16)] []))
  refine own_go (fun _ ww => XS.iinc X39.here hx rfl (hb hby d1_36) rfl (l' := #[.val (.ref eGRANT), .val (.ref u11), .val (.ref r4), .val (.int (18 : Int32)), .val (.int (17 : Int32)), .val (.ref u16)]) rfl ww) ?_
  show own_Goes _ _ _ _ _ _ _ (T39.setTop (mkF m 39 #[.val (.ref eGRANT), .val (.ref u11), .val (.ref r4), .val (.int (18 : Int32)), .val (.int (17 : Int32)), .val (.ref u16)] []))
  refine own_go (fun _ ww => XS.goto X39.here hx rfl (pc0 := 39) (pc' := 12) rfl (hb hby d1_39) (by decide) (by decide) ww) ?_
  show own_Goes _ _ _ _ _ _ _ (T39.setTop (mkF m 12 #[.val (.ref eGRANT), .val (.ref u11), .val (.ref r4), .val (.int (18 : Int32)), .val (.int (17 : Int32)), .val (.ref u16)] []))
  refine own_go (fun _ ww => XS.iload X39.here hx rfl (hb hby d1_12) rfl  ww) ?_
  show own_Goes _ _ _ _ _ _ _ (T39.setTop (mkF m 14 #[.val (.ref eGRANT), .val (.ref u11), .val (.ref r4), .val (.int (18 : Int32)), .val (.int (17 : Int32)), .val (.ref u16)] [(.int (17 : Int32))]))
  refine own_go (fun _ ww => XS.iloadN X39.here hx rfl (hb hby d1_14) rfl  ww) ?_
  show own_Goes _ _ _ _ _ _ _ (T39.setTop (mkF m 15 #[.val (.ref eGRANT), .val (.ref u11), .val (.ref r4), .val (.int (18 : Int32)), .val (.int (17 : Int32)), .val (.ref u16)] [(.int (18 : Int32)), (.int (17 : Int32))]))
  refine own_go (fun _ ww => XS.icmpNo X39.here hx rfl (hb hby d1_15) rfl (tlt (by decide : (17 : Int32) < (18 : Int32))).2.1 ww) ?_
  show own_Goes _ _ _ _ _ _ _ (T39.setTop (mkF m 18 #[.val (.ref eGRANT), .val (.ref u11), .val (.ref r4), .val (.int (18 : Int32)), .val (.int (17 : Int32)), .val (.ref u16)] []))
  refine own_go (fun _ ww => XS.aloadN X39.here hx rfl (hb hby d1_18) rfl rfl ww) ?_
  show own_Goes _ _ _ _ _ _ _ (T39.setTop (mkF m 19 #[.val (.ref eGRANT), .val (.ref u11), .val (.ref r4), .val (.int (18 : Int32)), .val (.int (17 : Int32)), .val (.ref u16)] [(.ref r4)]))
  refine own_go (fun _ ww => XS.iload X39.here hx rfl (hb hby d1_19) rfl  ww) ?_
  show own_Goes _ _ _ _ _ _ _ (T39.setTop (mkF m 21 #[.val (.ref eGRANT), .val (.ref u11), .val (.ref r4), .val (.int (18 : Int32)), .val (.int (17 : Int32)), .val (.ref u16)] [(.int (17 : Int32)), (.ref r4)]))
  obtain ⟨cl40, Ar40, -, S40, -, H40, -⟩ := id V4q
  have hin40 := inb_of (j := (17 : Int32)) S40 ⟨by decide, by decide⟩
  have hat40 : cl40.slots[((17 : Int32)).toNatClampNeg]? = some (.ref u17) := Has.at H40 hin40 rfl
  refine own_go (fun _ ww => X39.aaload hx (j := (17 : Int32)) (v := (.ref u17)) (by rw [e39]; exact Ar40.1) (State.isArrayOf_alike hZ.alike Ar40.2.1) rfl Ar40.2.2 hin40 hat40 (g := (mkF m 21 #[.val (.ref eGRANT), .val (.ref u11), .val (.ref r4), .val (.int (18 : Int32)), .val (.int (17 : Int32)), .val (.ref u16)] [(.int (17 : Int32)), (.ref r4)])) rfl rfl (hb hby d1_21) _ ww) ?_
  show own_Goes _ _ _ _ _ _ _ (T39.setTop (mkF m 22 #[.val (.ref eGRANT), .val (.ref u11), .val (.ref r4), .val (.int (18 : Int32)), .val (.int (17 : Int32)), .val (.ref u16)] [(.ref u17)]))
  refine own_go (fun _ ww => XS.astore X39.here hx rfl (hb hby d1_22) rfl rfl (l' := #[.val (.ref eGRANT), .val (.ref u11), .val (.ref r4), .val (.int (18 : Int32)), .val (.int (17 : Int32)), .val (.ref u17)]) rfl ww) ?_
  show own_Goes _ _ _ _ _ _ _ (T39.setTop (mkF m 24 #[.val (.ref eGRANT), .val (.ref u11), .val (.ref r4), .val (.int (18 : Int32)), .val (.int (17 : Int32)), .val (.ref u17)] []))
  refine own_go (fun _ ww => XS.aload X39.here hx rfl (hb hby d1_24) rfl rfl ww) ?_
  show own_Goes _ _ _ _ _ _ _ (T39.setTop (mkF m 26 #[.val (.ref eGRANT), .val (.ref u11), .val (.ref r4), .val (.int (18 : Int32)), .val (.int (17 : Int32)), .val (.ref u17)] [(.ref u17)]))
  obtain ⟨T41, X41, e41, st41⟩ := getF X39 hx hZ hown (host := "") (Or.inl (hw _ (List.mem_of_getElem? (i := 42) rfl))) Via.refl e39 (F17.ext O4.2) (g := (mkF m 26 #[.val (.ref eGRANT), .val (.ref u11), .val (.ref r4), .val (.int (18 : Int32)), .val (.int (17 : Int32)), .val (.ref u17)] [(.ref u17)])) rfl rfl (hb hby d1_26)
  refine own_go st41 ?_
  show own_Goes _ _ _ _ _ _ _ (T41.setTop (mkF m 29 #[.val (.ref eGRANT), .val (.ref u11), .val (.ref r4), .val (.int (18 : Int32)), .val (.int (17 : Int32)), .val (.ref u17)] [.null]))
  refine own_go (fun _ ww => XS.aloadN X41.here hx rfl (hb hby d1_29) rfl rfl ww) ?_
  show own_Goes _ _ _ _ _ _ _ (T41.setTop (mkF m 30 #[.val (.ref eGRANT), .val (.ref u11), .val (.ref r4), .val (.int (18 : Int32)), .val (.int (17 : Int32)), .val (.ref u17)] [(.ref eGRANT), .null]))
  refine own_go (fun _ ww => XT.acmpYes X41.here hx rfl (pc0 := 30) (pc' := 36) rfl (hb hby d1_30) rfl rfl rfl (XT.aa_ne_t (by simp)) (by decide) (by decide) ww) ?_
  show own_Goes _ _ _ _ _ _ _ (T41.setTop (mkF m 36 #[.val (.ref eGRANT), .val (.ref u11), .val (.ref r4), .val (.int (18 : Int32)), .val (.int (17 : Int32)), .val (.ref u17)] []))
  refine own_go (fun _ ww => XS.iinc X41.here hx rfl (hb hby d1_36) rfl (l' := #[.val (.ref eGRANT), .val (.ref u11), .val (.ref r4), .val (.int (18 : Int32)), .val (.int (18 : Int32)), .val (.ref u17)]) rfl ww) ?_
  show own_Goes _ _ _ _ _ _ _ (T41.setTop (mkF m 39 #[.val (.ref eGRANT), .val (.ref u11), .val (.ref r4), .val (.int (18 : Int32)), .val (.int (18 : Int32)), .val (.ref u17)] []))
  refine own_go (fun _ ww => XS.goto X41.here hx rfl (pc0 := 39) (pc' := 12) rfl (hb hby d1_39) (by decide) (by decide) ww) ?_
  show own_Goes _ _ _ _ _ _ _ (T41.setTop (mkF m 12 #[.val (.ref eGRANT), .val (.ref u11), .val (.ref r4), .val (.int (18 : Int32)), .val (.int (18 : Int32)), .val (.ref u17)] []))
  refine own_go (fun _ ww => XS.iload X41.here hx rfl (hb hby d1_12) rfl  ww) ?_
  show own_Goes _ _ _ _ _ _ _ (T41.setTop (mkF m 14 #[.val (.ref eGRANT), .val (.ref u11), .val (.ref r4), .val (.int (18 : Int32)), .val (.int (18 : Int32)), .val (.ref u17)] [(.int (18 : Int32))]))
  refine own_go (fun _ ww => XS.iloadN X41.here hx rfl (hb hby d1_14) rfl  ww) ?_
  show own_Goes _ _ _ _ _ _ _ (T41.setTop (mkF m 15 #[.val (.ref eGRANT), .val (.ref u11), .val (.ref r4), .val (.int (18 : Int32)), .val (.int (18 : Int32)), .val (.ref u17)] [(.int (18 : Int32)), (.int (18 : Int32))]))
  refine own_go (fun _ ww => XS.icmpYes X41.here hx rfl (pc0 := 15) (pc' := 42) rfl (hb hby d1_15) rfl (flt (by decide : ¬ ((18 : Int32) < (18 : Int32)))).2.1 (by decide) (by decide) ww) ?_
  show own_Goes _ _ _ _ _ _ _ (T41.setTop (mkF m 42 #[.val (.ref eGRANT), .val (.ref u11), .val (.ref r4), .val (.int (18 : Int32)), .val (.int (18 : Int32)), .val (.ref u17)] []))
  refine own_go (fun _ ww => XS.aloadN X41.here hx rfl (hb hby d1_42) rfl rfl ww) ?_
  show own_Goes _ _ _ _ _ _ _ (T41.setTop (mkF m 43 #[.val (.ref eGRANT), .val (.ref u11), .val (.ref r4), .val (.int (18 : Int32)), .val (.int (18 : Int32)), .val (.ref u17)] [(.ref u11)]))
  exact own_out X41 hlk (v := some (.ref u11)) (fun h => by rw [hret] at h; cases h) (fun fs hr => retOut X41 hx (t := (.object "com/example/role_rights/rolerights/policy/Statement")) hret rfl (Or.inr (Or.inr (Or.inr (Or.inr ⟨rfl, rfl, rfl⟩)))) (hb hby d1_43) hr) e41 ⟨0, rfl, N4, K4⟩ (by decide) (by decide)
theorem d3_0 : decode prog_50_method_13_code 0 = .ok (.aload_n 0, 1) := by decide +kernel
theorem d3_1 : decode prog_50_method_13_code 1 = .ok (.getfield 120, 3) := by decide +kernel
theorem d3_4 : decode prog_50_method_13_code 4 = .ok (.areturn, 1) := by decide +kernel
theorem ef_effectGRANT (m : MethodId) (a : Addr) (o : Addr) : entryFrame m #[(.ref a)] 1 = mkF m 0 #[.val (.ref a)] [] := by
  first | (simp [entryFrame, mkF, argsToLocals, Value.category]; done) | rfl
def Q_effectGRANT (Z : State) (a : Addr) (o : Addr) (h0 : Heap) (n0 : Nat) (v : Option Value) (h : Heap) (L : List Loc) : Prop := v = some (.ref o) ∧ Fr n0 L ∧ h = h0
set_option maxRecDepth 65536 in
set_option maxHeartbeats 40000000 in
theorem rm_effectGRANT (l : Launch) (Z : State) (a0 : Array Value) (hw : ∀ d ∈ tables_1, d.before a0 Z = true) (ws : List Jvm.Cond) (a : Addr) (o : Addr) (h0 : Heap) (n0 : Nat) (O0 : Old Z n0 h0) (Fa : Fld Z h0 a "com/example/role_rights/rolerights/policy/Statement" "effect" "Lcom/example/role_rights/rolerights/policy/Effect;" (.ref o)) :
    MetFree l (⟨"com/example/role_rights/rolerights/policy/Statement", "effect", "()Lcom/example/role_rights/rolerights/policy/Effect;"⟩ : MethodName) (head1 (Jvm.Cond.code (⟨"com/example/role_rights/rolerights/policy/Statement", "effect", "()Lcom/example/role_rights/rolerights/policy/Effect;"⟩ : MethodName) prog_50_method_13_code 1 (some (.object "com/example/role_rights/rolerights/policy/Effect")) :: ws) ({ frames := 0, cells := 0, slots := 0, locals := 0 } : Room)) (fun av_ U => av_ = #[(.ref a)] ∧ Z.Warmed39 U.vm ∧ U.heap = h0) (fun _ _ _ _ _ => True) (fun _ U o_ U' => ∃ v L, o_ = .returned v ∧ Q_effectGRANT Z a o h0 n0 v U'.heap L ∧ FrameEnd U o_ U' L ({ frames := 0, cells := 0, slots := 0, locals := 0 } : Room).cells ({ frames := 0, cells := 0, slots := 0, locals := 0 } : Room).slots) := by
  refine MetFree.of_bodySF (plainFor_of_name pn_0) hisR ?_
  intro p e s m args below meth c s₁ Bd hml0 hP hK
  obtain ⟨rfl, hZ, hh⟩ := hP
  have hx := Bd.exec
  have hby := Bd.bytes
  have hml : c.maxLocals = 1 := hml0
  have hown : s.vm.findClass "com/example/role_rights/rolerights/policy/Statement" = some m.cls := findClass_of_methodNamed Bd.named
  have hnm := (name_of_methodNamed Bd.named Bd.method).1
  have hlk := own_lk Bd
  have hret := Bd.returns
  have X0 : Stand p l e ({ frames := 0, cells := 0, slots := 0, locals := 0 } : Room) s m #[(.ref a)] below meth c s₁ [] 0 0 := Stand.of_body Bd
  have e0 : s₁.heap = h0 := by rw [← hh, Bd.state]; rfl
  have N0 := Fr.nil n0
  show own_Goes p e below s (Q_effectGRANT Z a o h0 n0) ({ frames := 0, cells := 0, slots := 0, locals := 0 } : Room).cells ({ frames := 0, cells := 0, slots := 0, locals := 0 } : Room).slots (s₁.setTop (entryFrame m #[(.ref a)] 1))
  refine own_go (fun _ ww => castTop (ef_effectGRANT m a o) ww) ?_
  show own_Goes _ _ _ _ _ _ _ (s₁.setTop (mkF m 0 #[.val (.ref a)] []))
  refine own_go (fun _ ww => XS.aloadN X0.here hx rfl (hb hby d3_0) rfl rfl ww) ?_
  show own_Goes _ _ _ _ _ _ _ (s₁.setTop (mkF m 1 #[.val (.ref a)] [(.ref a)]))
  obtain ⟨T42, X42, e42, st42⟩ := getF X0 hx hZ hown (host := "") (Or.inl (hw _ (List.mem_of_getElem? (i := 42) rfl))) Via.refl e0 Fa (g := (mkF m 1 #[.val (.ref a)] [(.ref a)])) rfl rfl (hb hby d3_1)
  refine own_go st42 ?_
  show own_Goes _ _ _ _ _ _ _ (T42.setTop (mkF m 4 #[.val (.ref a)] [(.ref o)]))
  exact own_out X42 hlk (v := some (.ref o)) (fun h => by rw [hret] at h; cases h) (fun fs hr => retOut X42 hx (t := (.object "com/example/role_rights/rolerights/policy/Effect")) hret rfl (Or.inr (Or.inr (Or.inr (Or.inr ⟨rfl, rfl, rfl⟩)))) (hb hby d3_4) hr) e42 ⟨rfl, N0, rfl⟩ (by decide) (by decide)
theorem ef_statingDENY (m : MethodId) (va : Addr) (kk : ClassId) (u0 : Addr) (u1 : Addr) (u2 : Addr) (u3 : Addr) (u4 : Addr) (u5 : Addr) (u6 : Addr) (u7 : Addr) (u8 : Addr) (u9 : Addr) (u10 : Addr) (u11 : Addr) (u12 : Addr) (u13 : Addr) (u14 : Addr) (u15 : Addr) (u16 : Addr) (u17 : Addr) (eGRANT : Addr) (eDENY : Addr) (eFORBID : Addr) : entryFrame m #[(.ref eDENY)] 6 = mkF m 0 #[.val (.ref eDENY), .unset, .unset, .unset, .unset, .unset] [] := by
  first | (simp [entryFrame, mkF, argsToLocals, Value.category]; done) | rfl
def Q_statingDENY (Z : State) (va : Addr) (kk : ClassId) (u0 : Addr) (u1 : Addr) (u2 : Addr) (u3 : Addr) (u4 : Addr) (u5 : Addr) (u6 : Addr) (u7 : Addr) (u8 : Addr) (u9 : Addr) (u10 : Addr) (u11 : Addr) (u12 : Addr) (u13 : Addr) (u14 : Addr) (u15 : Addr) (u16 : Addr) (u17 : Addr) (eGRANT : Addr) (eDENY : Addr) (eFORBID : Addr) (h0 : Heap) (n0 : Nat) (v : Option Value) (h : Heap) (L : List Loc) : Prop := ∃ b : Addr, v = some (.ref u12) ∧ Fr n0 L ∧ Keep h0 h []
set_option maxRecDepth 65536 in
set_option maxHeartbeats 40000000 in
theorem rm_statingDENY (l : Launch) (Z : State) (a0 : Array Value) (hw : ∀ d ∈ tables_1, d.before a0 Z = true) (ws : List Jvm.Cond) (va : Addr) (kk : ClassId) (u0 : Addr) (u1 : Addr) (u2 : Addr) (u3 : Addr) (u4 : Addr) (u5 : Addr) (u6 : Addr) (u7 : Addr) (u8 : Addr) (u9 : Addr) (u10 : Addr) (u11 : Addr) (u12 : Addr) (u13 : Addr) (u14 : Addr) (u15 : Addr) (u16 : Addr) (u17 : Addr) (eGRANT : Addr) (eDENY : Addr) (eFORBID : Addr) (h0 : Heap) (n0 : Nat) (O0 : Old Z n0 h0) (SV : Sta Z Z.heap "com/example/role_rights/rolerights/policy/Statement" "$VALUES" "[Lcom/example/role_rights/rolerights/policy/Statement;" (.ref va)) (AV : Arv Z Z.heap va kk (.object "com/example/role_rights/rolerights/policy/Statement") (18 : Int32) [(.ref u0), (.ref u1), (.ref u2), (.ref u3), (.ref u4), (.ref u5), (.ref u6), (.ref u7), (.ref u8), (.ref u9), (.ref u10), (.ref u11), (.ref u12), (.ref u13), (.ref u14), (.ref u15), (.ref u16), (.ref u17)] .null) (EV : Exa Z Z.heap va "[Lcom/example/role_rights/rolerights/policy/Statement;") (F0 : Fld Z Z.heap u0 "com/example/role_rights/rolerights/policy/Statement" "effect" "Lcom/example/role_rights/rolerights/policy/Effect;" .null) (F1 : Fld Z Z.heap u1 "com/example/role_rights/rolerights/policy/Statement" "effect" "Lcom/example/role_rights/rolerights/policy/Effect;" .null) (F2 : Fld Z Z.heap u2 "com/example/role_rights/rolerights/policy/Statement" "effect" "Lcom/example/role_rights/rolerights/policy/Effect;" .null) (F3 : Fld Z Z.heap u3 "com/example/role_rights/rolerights/policy/Statement" "effect" "Lcom/example/role_rights/rolerights/policy/Effect;" .null) (F4 : Fld Z Z.heap u4 "com/example/role_rights/rolerights/policy/Statement" "effect" "Lcom/example/role_rights/rolerights/policy/Effect;" .null) (F5 : Fld Z Z.heap u5 "com/example/role_rights/rolerights/policy/Statement" "effect" "Lcom/example/role_rights/rolerights/policy/Effect;" .null) (F6 : Fld Z Z.heap u6 "com/example/role_rights/rolerights/policy/Statement" "effect" "Lcom/example/role_rights/rolerights/policy/Effect;" .null) (F7 : Fld Z Z.heap u7 "com/example/role_rights/rolerights/policy/Statement" "effect" "Lcom/example/role_rights/rolerights/policy/Effect;" .null) (F8 : Fld Z Z.heap u8 "com/example/role_rights/rolerights/policy/Statement" "effect" "Lcom/example/role_rights/rolerights/policy/Effect;" .null) (F9 : Fld Z Z.heap u9 "com/example/role_rights/rolerights/policy/Statement" "effect" "Lcom/example/role_rights/rolerights/policy/Effect;" .null) (F10 : Fld Z Z.heap u10 "com/example/role_rights/rolerights/policy/Statement" "effect" "Lcom/example/role_rights/rolerights/policy/Effect;" .null) (F11 : Fld Z Z.heap u11 "com/example/role_rights/rolerights/policy/Statement" "effect" "Lcom/example/role_rights/rolerights/policy/Effect;" (.ref eGRANT)) (F12 : Fld Z Z.heap u12 "com/example/role_rights/rolerights/policy/Statement" "effect" "Lcom/example/role_rights/rolerights/policy/Effect;" (.ref eDENY)) (F13 : Fld Z Z.heap u13 "com/example/role_rights/rolerights/policy/Statement" "effect" "Lcom/example/role_rights/rolerights/policy/Effect;" (.ref eFORBID)) (F14 : Fld Z Z.heap u14 "com/example/role_rights/rolerights/policy/Statement" "effect" "Lcom/example/role_rights/rolerights/policy/Effect;" .null) (F15 : Fld Z Z.heap u15 "com/example/role_rights/rolerights/policy/Statement" "effect" "Lcom/example/role_rights/rolerights/policy/Effect;" .null) (F16 : Fld Z Z.heap u16 "com/example/role_rights/rolerights/policy/Statement" "effect" "Lcom/example/role_rights/rolerights/policy/Effect;" .null) (F17 : Fld Z Z.heap u17 "com/example/role_rights/rolerights/policy/Statement" "effect" "Lcom/example/role_rights/rolerights/policy/Effect;" .null) (n01 : eGRANT ≠ eDENY) (n02 : eGRANT ≠ eFORBID) (n12 : eDENY ≠ eFORBID) :
    MetFree l (⟨"com/example/role_rights/rolerights/policy/Statement", "stating", "(Lcom/example/role_rights/rolerights/policy/Effect;)Lcom/example/role_rights/rolerights/policy/Statement;"⟩ : MethodName) (head1 (Jvm.Cond.code (⟨"com/example/role_rights/rolerights/policy/Statement", "stating", "(Lcom/example/role_rights/rolerights/policy/Effect;)Lcom/example/role_rights/rolerights/policy/Statement;"⟩ : MethodName) prog_50_method_9_code 6 (some (.object "com/example/role_rights/rolerights/policy/Statement")) :: ws) ({ frames := 2, cells := 1, slots := 18, locals := 25 } : Room)) (fun av_ U => av_ = #[(.ref eDENY)] ∧ Z.Warmed39 U.vm ∧ U.heap = h0) (fun _ _ _ _ _ => True) (fun _ U o_ U' => ∃ v L, o_ = .returned v ∧ Q_statingDENY Z va kk u0 u1 u2 u3 u4 u5 u6 u7 u8 u9 u10 u11 u12 u13 u14 u15 u16 u17 eGRANT eDENY eFORBID h0 n0 v U'.heap L ∧ FrameEnd U o_ U' L ({ frames := 2, cells := 1, slots := 18, locals := 25 } : Room).cells ({ frames := 2, cells := 1, slots := 18, locals := 25 } : Room).slots) := by
  refine MetFree.of_bodySF (plainFor_of_name pn_0) hisR ?_
  intro p e s m args below meth c s₁ Bd hml0 hP hK
  obtain ⟨rfl, hZ, hh⟩ := hP
  have hx := Bd.exec
  have hby := Bd.bytes
  have hml : c.maxLocals = 6 := hml0
  have hown : s.vm.findClass "com/example/role_rights/rolerights/policy/Statement" = some m.cls := findClass_of_methodNamed Bd.named
  have hnm := (name_of_methodNamed Bd.named Bd.method).1
  have hlk := own_lk Bd
  have hret := Bd.returns
  have X0 : Stand p l e ({ frames := 2, cells := 1, slots := 18, locals := 25 } : Room) s m #[(.ref eDENY)] below meth c s₁ [] 0 0 := Stand.of_body Bd
  have e0 : s₁.heap = h0 := by rw [← hh, Bd.state]; rfl
  have N0 := Fr.nil n0
  show own_Goes p e below s (Q_statingDENY Z va kk u0 u1 u2 u3 u4 u5 u6 u7 u8 u9 u10 u11 u12 u13 u14 u15 u16 u17 eGRANT eDENY eFORBID h0 n0) ({ frames := 2, cells := 1, slots := 18, locals := 25 } : Room).cells ({ frames := 2, cells := 1, slots := 18, locals := 25 } : Room).slots (s₁.setTop (entryFrame m #[(.ref eDENY)] 6))
  refine own_go (fun _ ww => castTop (ef_statingDENY m va kk u0 u1 u2 u3 u4 u5 u6 u7 u8 u9 u10 u11 u12 u13 u14 u15 u16 u17 eGRANT eDENY eFORBID) ww) ?_
  show own_Goes _ _ _ _ _ _ _ (s₁.setTop (mkF m 0 #[.val (.ref eDENY), .unset, .unset, .unset, .unset, .unset] []))
  refine own_go (fun _ ww => XS.aconstNull X0.here hx rfl (hb hby d1_0) ww) ?_
  show own_Goes _ _ _ _ _ _ _ (s₁.setTop (mkF m 1 #[.val (.ref eDENY), .unset, .unset, .unset, .unset, .unset] [.null]))
  refine own_go (fun _ ww => XS.astoreN X0.here hx rfl (hb hby d1_1) rfl rfl (l' := #[.val (.ref eDENY), .val .null, .unset, .unset, .unset, .unset]) rfl ww) ?_
  show own_Goes _ _ _ _ _ _ _ (s₁.setTop (mkF m 2 #[.val (.ref eDENY), .val .null, .unset, .unset, .unset, .unset] []))
  obtain ⟨_, _, ⟨T43, L43, k43, n43⟩, -, X43, ⟨Lc43, hQ43, l43, y43, z43⟩, st43⟩ := Jvm.LawKit.callS X0 hx (y := (⟨"com/example/role_rights/rolerights/policy/Statement", "values", "()[Lcom/example/role_rights/rolerights/policy/Statement;"⟩ : MethodName)) hown (mvT hZ (hw _ (List.mem_of_getElem? (i := 10) rfl))) (mvT hZ (hw _ (List.mem_of_getElem? (i := 11) rfl))) (mvT hZ (hw _ (List.mem_of_getElem? (i := 5) rfl))) (mvT hZ (hw _ (List.mem_of_getElem? (i := 12) rfl))) (by decide) (backOf (W := 0) (rm_values l Z a0 hw [] va kk u0 u1 u2 u3 u4 u5 u6 u7 u8 u9 u10 u11 u12 u13 u14 u15 u16 u17 h0 n0 O0 SV AV EV) hZ (hw _ (List.mem_of_getElem? (i := 12) rfl)) (hw _ (List.mem_of_getElem? (i := 5) rfl)) (by decide) (by decide)) (g := (mkF m 2 #[.val (.ref eDENY), .val .null, .unset, .unset, .unset, .unset] [])) rfl (by rw [hml]; rfl) (argsL := []) (rest := []) (lenOf pd_0 rfl) rfl (by show 2 * 0 + _ ≤ _; exact Nat.le_of_eq rfl) (hb hby d1_2) (fun _ _ => ⟨rfl, e0, (by decide : 0 + 1 ≤ _), (by decide : 0 + 18 ≤ _)⟩)
  dsimp only [Pt.U, Pt.locs, Pt.cells, Pt.slots] at X43 l43 y43 z43 st43 hQ43
  subst l43 y43 z43
  obtain ⟨r43, rfl, N43q, B43, K43q, V43q⟩ := hQ43
  have N43 := Fr.app N0 N43q
  have ne_u0_r43 : u0 ≠ r43 := Nat.ne_of_lt (Nat.lt_of_lt_of_le (F0.ext O0.2).lt B43)
  have ne_u1_r43 : u1 ≠ r43 := Nat.ne_of_lt (Nat.lt_of_lt_of_le (F1.ext O0.2).lt B43)
  have ne_u2_r43 : u2 ≠ r43 := Nat.ne_of_lt (Nat.lt_of_lt_of_le (F2.ext O0.2).lt B43)
  have ne_u3_r43 : u3 ≠ r43 := Nat.ne_of_lt (Nat.lt_of_lt_of_le (F3.ext O0.2).lt B43)
  have ne_u4_r43 : u4 ≠ r43 := Nat.ne_of_lt (Nat.lt_of_lt_of_le (F4.ext O0.2).lt B43)
  have ne_u5_r43 : u5 ≠ r43 := Nat.ne_of_lt (Nat.lt_of_lt_of_le (F5.ext O0.2).lt B43)
  have ne_u6_r43 : u6 ≠ r43 := Nat.ne_of_lt (Nat.lt_of_lt_of_le (F6.ext O0.2).lt B43)
  have ne_u7_r43 : u7 ≠ r43 := Nat.ne_of_lt (Nat.lt_of_lt_of_le (F7.ext O0.2).lt B43)
  have ne_u8_r43 : u8 ≠ r43 := Nat.ne_of_lt (Nat.lt_of_lt_of_le (F8.ext O0.2).lt B43)
  have ne_u9_r43 : u9 ≠ r43 := Nat.ne_of_lt (Nat.lt_of_lt_of_le (F9.ext O0.2).lt B43)
  have ne_u10_r43 : u10 ≠ r43 := Nat.ne_of_lt (Nat.lt_of_lt_of_le (F10.ext O0.2).lt B43)
  have ne_u11_r43 : u11 ≠ r43 := Nat.ne_of_lt (Nat.lt_of_lt_of_le (F11.ext O0.2).lt B43)
  have ne_u12_r43 : u12 ≠ r43 := Nat.ne_of_lt (Nat.lt_of_lt_of_le (F12.ext O0.2).lt B43)
  have ne_u13_r43 : u13 ≠ r43 := Nat.ne_of_lt (Nat.lt_of_lt_of_le (F13.ext O0.2).lt B43)
  have ne_u14_r43 : u14 ≠ r43 := Nat.ne_of_lt (Nat.lt_of_lt_of_le (F14.ext O0.2).lt B43)
  have ne_u15_r43 : u15 ≠ r43 := Nat.ne_of_lt (Nat.lt_of_lt_of_le (F15.ext O0.2).lt B43)
  have ne_u16_r43 : u16 ≠ r43 := Nat.ne_of_lt (Nat.lt_of_lt_of_le (F16.ext O0.2).lt B43)
  have ne_u17_r43 : u17 ≠ r43 := Nat.ne_of_lt (Nat.lt_of_lt_of_le (F17.ext O0.2).lt B43)
  have g_r43 : n0 ≤ r43 := Nat.le_trans (O0.1 ▸ O0.2.1) B43
  have sz_r43 : h0.size ≤ r43 := Nat.le_trans (own_ks (Keep.refl h0 [])) B43
  have O43 := O0.keep K43q all0
  have K43 := (Keep.refl h0 []).trans K43q all0
  refine own_go st43 ?_
  show own_Goes _ _ _ _ _ _ _ (T43.setTop (mkF m 5 #[.val (.ref eDENY), .val .null, .unset, .unset, .unset, .unset] [(.ref r43)]))
  refine own_go (fun _ ww => XS.astoreN X43.here hx rfl (hb hby d1_5) rfl rfl (l' := #[.val (.ref eDENY), .val .null, .val (.ref r43), .unset, .unset, .unset]) rfl ww) ?_
  show own_Goes _ _ _ _ _ _ _ (T43.setTop (mkF m 6 #[.val (.ref eDENY), .val .null, .val (.ref r43), .unset, .unset, .unset] []))
  refine own_go (fun _ ww => XS.aloadN X43.here hx rfl (hb hby d1_6) rfl rfl ww) ?_
  show own_Goes _ _ _ _ _ _ _ (T43.setTop (mkF m 7 #[.val (.ref eDENY), .val .null, .val (.ref r43), .unset, .unset, .unset] [(.ref r43)]))
  obtain ⟨cl44, Ar44, -, S44, Ng44, -, -⟩ := id V43q
  refine own_go (fun _ ww => X43.arraylength hx Ar44.1 (State.isArrayOf_alike hZ.alike Ar44.2.1) (g := (mkF m 7 #[.val (.ref eDENY), .val .null, .val (.ref r43), .unset, .unset, .unset] [(.ref r43)])) rfl rfl (hb hby d1_7) _ ww) ?_
  rw [len_of S44 Ng44]
  show own_Goes _ _ _ _ _ _ _ (T43.setTop (mkF m 8 #[.val (.ref eDENY), .val .null, .val (.ref r43), .unset, .unset, .unset] [(.int (18 : Int32))]))
  refine own_go (fun _ ww => XS.istoreN X43.here hx rfl (hb hby d1_8) rfl (l' := #[.val (.ref eDENY), .val .null, .val (.ref r43), .val (.int (18 : Int32)), .unset, .unset]) rfl ww) ?_
  show own_Goes _ _ _ _ _ _ _ (T43.setTop (mkF m 9 #[.val (.ref eDENY), .val .null, .val (.ref r43), .val (.int (18 : Int32)), .unset, .unset] []))
  refine own_go (fun _ ww => XS.iconst X43.here hx rfl (hb hby d1_9) ww) ?_
  show own_Goes _ _ _ _ _ _ _ (T43.setTop (mkF m 10 #[.val (.ref eDENY), .val .null, .val (.ref r43), .val (.int (18 : Int32)), .unset, .unset] [(.int (0 : Int32))]))
  refine own_go (fun _ ww => XS.istore X43.here hx rfl (hb hby d1_10) rfl (l' := #[.val (.ref eDENY), .val .null, .val (.ref r43), .val (.int (18 : Int32)), .val (.int (0 : Int32)), .unset]) rfl ww) ?_
  show own_Goes _ _ _ _ _ _ _ (T43.setTop (mkF m 12 #[.val (.ref eDENY), .val .null, .val (.ref r43), .val (.int (18 : Int32)), .val (.int (0 : Int32)), .unset] []))
  refine own_go (fun _ ww => XS.iload X43.here hx rfl (hb hby d1_12) rfl  ww) ?_
  show own_Goes _ _ _ _ _ _ _ (T43.setTop (mkF m 14 #[.val (.ref eDENY), .val .null, .val (.ref r43), .val (.int (18 : Int32)), .val (.int (0 : Int32)), .unset] [(.int (0 : Int32))]))
  refine own_go (fun _ ww => XS.iloadN X43.here hx rfl (hb hby d1_14) rfl  ww) ?_
  show own_Goes _ _ _ _ _ _ _ (T43.setTop (mkF m 15 #[.val (.ref eDENY), .val .null, .val (.ref r43), .val (.int (18 : Int32)), .val (.int (0 : Int32)), .unset] [(.int (18 : Int32)), (.int (0 : Int32))]))
  refine own_go (fun _ ww => XS.icmpNo X43.here hx rfl (hb hby d1_15) rfl (tlt (by decide : (0 : Int32) < (18 : Int32))).2.1 ww) ?_
  show own_Goes _ _ _ _ _ _ _ (T43.setTop (mkF m 18 #[.val (.ref eDENY), .val .null, .val (.ref r43), .val (.int (18 : Int32)), .val (.int (0 : Int32)), .unset] []))
  refine own_go (fun _ ww => XS.aloadN X43.here hx rfl (hb hby d1_18) rfl rfl ww) ?_
  show own_Goes _ _ _ _ _ _ _ (T43.setTop (mkF m 19 #[.val (.ref eDENY), .val .null, .val (.ref r43), .val (.int (18 : Int32)), .val (.int (0 : Int32)), .unset] [(.ref r43)]))
  refine own_go (fun _ ww => XS.iload X43.here hx rfl (hb hby d1_19) rfl  ww) ?_
  show own_Goes _ _ _ _ _ _ _ (T43.setTop (mkF m 21 #[.val (.ref eDENY), .val .null, .val (.ref r43), .val (.int (18 : Int32)), .val (.int (0 : Int32)), .unset] [(.int (0 : Int32)), (.ref r43)]))
  obtain ⟨cl45, Ar45, -, S45, -, H45, -⟩ := id V43q
  have hin45 := inb_of (j := (0 : Int32)) S45 ⟨by decide, by decide⟩
  have hat45 : cl45.slots[((0 : Int32)).toNatClampNeg]? = some (.ref u0) := Has.at H45 hin45 rfl
  refine own_go (fun _ ww => X43.aaload hx (j := (0 : Int32)) (v := (.ref u0)) Ar45.1 (State.isArrayOf_alike hZ.alike Ar45.2.1) rfl Ar45.2.2 hin45 hat45 (g := (mkF m 21 #[.val (.ref eDENY), .val .null, .val (.ref r43), .val (.int (18 : Int32)), .val (.int (0 : Int32)), .unset] [(.int (0 : Int32)), (.ref r43)])) rfl rfl (hb hby d1_21) _ ww) ?_
  show own_Goes _ _ _ _ _ _ _ (T43.setTop (mkF m 22 #[.val (.ref eDENY), .val .null, .val (.ref r43), .val (.int (18 : Int32)), .val (.int (0 : Int32)), .unset] [(.ref u0)]))
  refine own_go (fun _ ww => XS.astore X43.here hx rfl (hb hby d1_22) rfl rfl (l' := #[.val (.ref eDENY), .val .null, .val (.ref r43), .val (.int (18 : Int32)), .val (.int (0 : Int32)), .val (.ref u0)]) rfl ww) ?_
  show own_Goes _ _ _ _ _ _ _ (T43.setTop (mkF m 24 #[.val (.ref eDENY), .val .null, .val (.ref r43), .val (.int (18 : Int32)), .val (.int (0 : Int32)), .val (.ref u0)] []))
  refine own_go (fun _ ww => XS.aload X43.here hx rfl (hb hby d1_24) rfl rfl ww) ?_
  show own_Goes _ _ _ _ _ _ _ (T43.setTop (mkF m 26 #[.val (.ref eDENY), .val .null, .val (.ref r43), .val (.int (18 : Int32)), .val (.int (0 : Int32)), .val (.ref u0)] [(.ref u0)]))
  obtain ⟨T46, X46, e46, st46⟩ := getF X43 hx hZ hown (host := "") (Or.inl (hw _ (List.mem_of_getElem? (i := 42) rfl))) Via.refl rfl (F0.ext O43.2) (g := (mkF m 26 #[.val (.ref eDENY), .val .null, .val (.ref r43), .val (.int (18 : Int32)), .val (.int (0 : Int32)), .val (.ref u0)] [(.ref u0)])) rfl rfl (hb hby d1_26)
  refine own_go st46 ?_
  show own_Goes _ _ _ _ _ _ _ (T46.setTop (mkF m 29 #[.val (.ref eDENY), .val .null, .val (.ref r43), .val (.int (18 : Int32)), .val (.int (0 : Int32)), .val (.ref u0)] [.null]))
  refine own_go (fun _ ww => XS.aloadN X46.here hx rfl (hb hby d1_29) rfl rfl ww) ?_
  show own_Goes _ _ _ _ _ _ _ (T46.setTop (mkF m 30 #[.val (.ref eDENY), .val .null, .val (.ref r43), .val (.int (18 : Int32)), .val (.int (0 : Int32)), .val (.ref u0)] [(.ref eDENY), .null]))
  refine own_go (fun _ ww => XT.acmpYes X46.here hx rfl (pc0 := 30) (pc' := 36) rfl (hb hby d1_30) rfl rfl rfl (XT.aa_ne_t (by simp)) (by decide) (by decide) ww) ?_
  show own_Goes _ _ _ _ _ _ _ (T46.setTop (mkF m 36 #[.val (.ref eDENY), .val .null, .val (.ref r43), .val (.int (18 : Int32)), .val (.int (0 : Int32)), .val (.ref u0)] []))
  refine own_go (fun _ ww => XS.iinc X46.here hx rfl (hb hby d1_36) rfl (l' := #[.val (.ref eDENY), .val .null, .val (.ref r43), .val (.int (18 : Int32)), .val (.int (1 : Int32)), .val (.ref u0)]) rfl ww) ?_
  show own_Goes _ _ _ _ _ _ _ (T46.setTop (mkF m 39 #[.val (.ref eDENY), .val .null, .val (.ref r43), .val (.int (18 : Int32)), .val (.int (1 : Int32)), .val (.ref u0)] []))
  refine own_go (fun _ ww => XS.goto X46.here hx rfl (pc0 := 39) (pc' := 12) rfl (hb hby d1_39) (by decide) (by decide) ww) ?_
  show own_Goes _ _ _ _ _ _ _ (T46.setTop (mkF m 12 #[.val (.ref eDENY), .val .null, .val (.ref r43), .val (.int (18 : Int32)), .val (.int (1 : Int32)), .val (.ref u0)] []))
  refine own_go (fun _ ww => XS.iload X46.here hx rfl (hb hby d1_12) rfl  ww) ?_
  show own_Goes _ _ _ _ _ _ _ (T46.setTop (mkF m 14 #[.val (.ref eDENY), .val .null, .val (.ref r43), .val (.int (18 : Int32)), .val (.int (1 : Int32)), .val (.ref u0)] [(.int (1 : Int32))]))
  refine own_go (fun _ ww => XS.iloadN X46.here hx rfl (hb hby d1_14) rfl  ww) ?_
  show own_Goes _ _ _ _ _ _ _ (T46.setTop (mkF m 15 #[.val (.ref eDENY), .val .null, .val (.ref r43), .val (.int (18 : Int32)), .val (.int (1 : Int32)), .val (.ref u0)] [(.int (18 : Int32)), (.int (1 : Int32))]))
  refine own_go (fun _ ww => XS.icmpNo X46.here hx rfl (hb hby d1_15) rfl (tlt (by decide : (1 : Int32) < (18 : Int32))).2.1 ww) ?_
  show own_Goes _ _ _ _ _ _ _ (T46.setTop (mkF m 18 #[.val (.ref eDENY), .val .null, .val (.ref r43), .val (.int (18 : Int32)), .val (.int (1 : Int32)), .val (.ref u0)] []))
  refine own_go (fun _ ww => XS.aloadN X46.here hx rfl (hb hby d1_18) rfl rfl ww) ?_
  show own_Goes _ _ _ _ _ _ _ (T46.setTop (mkF m 19 #[.val (.ref eDENY), .val .null, .val (.ref r43), .val (.int (18 : Int32)), .val (.int (1 : Int32)), .val (.ref u0)] [(.ref r43)]))
  refine own_go (fun _ ww => XS.iload X46.here hx rfl (hb hby d1_19) rfl  ww) ?_
  show own_Goes _ _ _ _ _ _ _ (T46.setTop (mkF m 21 #[.val (.ref eDENY), .val .null, .val (.ref r43), .val (.int (18 : Int32)), .val (.int (1 : Int32)), .val (.ref u0)] [(.int (1 : Int32)), (.ref r43)]))
  obtain ⟨cl47, Ar47, -, S47, -, H47, -⟩ := id V43q
  have hin47 := inb_of (j := (1 : Int32)) S47 ⟨by decide, by decide⟩
  have hat47 : cl47.slots[((1 : Int32)).toNatClampNeg]? = some (.ref u1) := Has.at H47 hin47 rfl
  refine own_go (fun _ ww => X46.aaload hx (j := (1 : Int32)) (v := (.ref u1)) (by rw [e46]; exact Ar47.1) (State.isArrayOf_alike hZ.alike Ar47.2.1) rfl Ar47.2.2 hin47 hat47 (g := (mkF m 21 #[.val (.ref eDENY), .val .null, .val (.ref r43), .val (.int (18 : Int32)), .val (.int (1 : Int32)), .val (.ref u0)] [(.int (1 : Int32)), (.ref r43)])) rfl rfl (hb hby d1_21) _ ww) ?_
  show own_Goes _ _ _ _ _ _ _ (T46.setTop (mkF m 22 #[.val (.ref eDENY), .val .null, .val (.ref r43), .val (.int (18 : Int32)), .val (.int (1 : Int32)), .val (.ref u0)] [(.ref u1)]))
  refine own_go (fun _ ww => XS.astore X46.here hx rfl (hb hby d1_22) rfl rfl (l' := #[.val (.ref eDENY), .val .null, .val (.ref r43), .val (.int (18 : Int32)), .val (.int (1 : Int32)), .val (.ref u1)]) rfl ww) ?_
  show own_Goes _ _ _ _ _ _ _ (T46.setTop (mkF m 24 #[.val (.ref eDENY), .val .null, .val (.ref r43), .val (.int (18 : Int32)), .val (.int (1 : Int32)), .val (.ref u1)] []))
  refine own_go (fun _ ww => XS.aload X46.here hx rfl (hb hby d1_24) rfl rfl ww) ?_
  show own_Goes _ _ _ _ _ _ _ (T46.setTop (mkF m 26 #[.val (.ref eDENY), .val .null, .val (.ref r43), .val (.int (18 : Int32)), .val (.int (1 : Int32)), .val (.ref u1)] [(.ref u1)]))
  obtain ⟨T48, X48, e48, st48⟩ := getF X46 hx hZ hown (host := "") (Or.inl (hw _ (List.mem_of_getElem? (i := 42) rfl))) Via.refl e46 (F1.ext O43.2) (g := (mkF m 26 #[.val (.ref eDENY), .val .null, .val (.ref r43), .val (.int (18 : Int32)), .val (.int (1 : Int32)), .val (.ref u1)] [(.ref u1)])) rfl rfl (hb hby d1_26)
  refine own_go st48 ?_
  show own_Goes _ _ _ _ _ _ _ (T48.setTop (mkF m 29 #[.val (.ref eDENY), .val .null, .val (.ref r43), .val (.int (18 : Int32)), .val (.int (1 : Int32)), .val (.ref u1)] [.null]))
  refine own_go (fun _ ww => XS.aloadN X48.here hx rfl (hb hby d1_29) rfl rfl ww) ?_
  show own_Goes _ _ _ _ _ _ _ (T48.setTop (mkF m 30 #[.val (.ref eDENY), .val .null, .val (.ref r43), .val (.int (18 : Int32)), .val (.int (1 : Int32)), .val (.ref u1)] [(.ref eDENY), .null]))
  refine own_go (fun _ ww => XT.acmpYes X48.here hx rfl (pc0 := 30) (pc' := 36) rfl (hb hby d1_30) rfl rfl rfl (XT.aa_ne_t (by simp)) (by decide) (by decide) ww) ?_
  show own_Goes _ _ _ _ _ _ _ (T48.setTop (mkF m 36 #[.val (.ref eDENY), .val .null, .val (.ref r43), .val (.int (18 : Int32)), .val (.int (1 : Int32)), .val (.ref u1)] []))
  refine own_go (fun _ ww => XS.iinc X48.here hx rfl (hb hby d1_36) rfl (l' := #[.val (.ref eDENY), .val .null, .val (.ref r43), .val (.int (18 : Int32)), .val (.int (2 : Int32)), .val (.ref u1)]) rfl ww) ?_
  show own_Goes _ _ _ _ _ _ _ (T48.setTop (mkF m 39 #[.val (.ref eDENY), .val .null, .val (.ref r43), .val (.int (18 : Int32)), .val (.int (2 : Int32)), .val (.ref u1)] []))
  refine own_go (fun _ ww => XS.goto X48.here hx rfl (pc0 := 39) (pc' := 12) rfl (hb hby d1_39) (by decide) (by decide) ww) ?_
  show own_Goes _ _ _ _ _ _ _ (T48.setTop (mkF m 12 #[.val (.ref eDENY), .val .null, .val (.ref r43), .val (.int (18 : Int32)), .val (.int (2 : Int32)), .val (.ref u1)] []))
  refine own_go (fun _ ww => XS.iload X48.here hx rfl (hb hby d1_12) rfl  ww) ?_
  show own_Goes _ _ _ _ _ _ _ (T48.setTop (mkF m 14 #[.val (.ref eDENY), .val .null, .val (.ref r43), .val (.int (18 : Int32)), .val (.int (2 : Int32)), .val (.ref u1)] [(.int (2 : Int32))]))
  refine own_go (fun _ ww => XS.iloadN X48.here hx rfl (hb hby d1_14) rfl  ww) ?_
  show own_Goes _ _ _ _ _ _ _ (T48.setTop (mkF m 15 #[.val (.ref eDENY), .val .null, .val (.ref r43), .val (.int (18 : Int32)), .val (.int (2 : Int32)), .val (.ref u1)] [(.int (18 : Int32)), (.int (2 : Int32))]))
  refine own_go (fun _ ww => XS.icmpNo X48.here hx rfl (hb hby d1_15) rfl (tlt (by decide : (2 : Int32) < (18 : Int32))).2.1 ww) ?_
  show own_Goes _ _ _ _ _ _ _ (T48.setTop (mkF m 18 #[.val (.ref eDENY), .val .null, .val (.ref r43), .val (.int (18 : Int32)), .val (.int (2 : Int32)), .val (.ref u1)] []))
  refine own_go (fun _ ww => XS.aloadN X48.here hx rfl (hb hby d1_18) rfl rfl ww) ?_
  show own_Goes _ _ _ _ _ _ _ (T48.setTop (mkF m 19 #[.val (.ref eDENY), .val .null, .val (.ref r43), .val (.int (18 : Int32)), .val (.int (2 : Int32)), .val (.ref u1)] [(.ref r43)]))
  refine own_go (fun _ ww => XS.iload X48.here hx rfl (hb hby d1_19) rfl  ww) ?_
  show own_Goes _ _ _ _ _ _ _ (T48.setTop (mkF m 21 #[.val (.ref eDENY), .val .null, .val (.ref r43), .val (.int (18 : Int32)), .val (.int (2 : Int32)), .val (.ref u1)] [(.int (2 : Int32)), (.ref r43)]))
  obtain ⟨cl49, Ar49, -, S49, -, H49, -⟩ := id V43q
  have hin49 := inb_of (j := (2 : Int32)) S49 ⟨by decide, by decide⟩
  have hat49 : cl49.slots[((2 : Int32)).toNatClampNeg]? = some (.ref u2) := Has.at H49 hin49 rfl
  refine own_go (fun _ ww => X48.aaload hx (j := (2 : Int32)) (v := (.ref u2)) (by rw [e48]; exact Ar49.1) (State.isArrayOf_alike hZ.alike Ar49.2.1) rfl Ar49.2.2 hin49 hat49 (g := (mkF m 21 #[.val (.ref eDENY), .val .null, .val (.ref r43), .val (.int (18 : Int32)), .val (.int (2 : Int32)), .val (.ref u1)] [(.int (2 : Int32)), (.ref r43)])) rfl rfl (hb hby d1_21) _ ww) ?_
  show own_Goes _ _ _ _ _ _ _ (T48.setTop (mkF m 22 #[.val (.ref eDENY), .val .null, .val (.ref r43), .val (.int (18 : Int32)), .val (.int (2 : Int32)), .val (.ref u1)] [(.ref u2)]))
  refine own_go (fun _ ww => XS.astore X48.here hx rfl (hb hby d1_22) rfl rfl (l' := #[.val (.ref eDENY), .val .null, .val (.ref r43), .val (.int (18 : Int32)), .val (.int (2 : Int32)), .val (.ref u2)]) rfl ww) ?_
  show own_Goes _ _ _ _ _ _ _ (T48.setTop (mkF m 24 #[.val (.ref eDENY), .val .null, .val (.ref r43), .val (.int (18 : Int32)), .val (.int (2 : Int32)), .val (.ref u2)] []))
  refine own_go (fun _ ww => XS.aload X48.here hx rfl (hb hby d1_24) rfl rfl ww) ?_
  show own_Goes _ _ _ _ _ _ _ (T48.setTop (mkF m 26 #[.val (.ref eDENY), .val .null, .val (.ref r43), .val (.int (18 : Int32)), .val (.int (2 : Int32)), .val (.ref u2)] [(.ref u2)]))
  obtain ⟨T50, X50, e50, st50⟩ := getF X48 hx hZ hown (host := "") (Or.inl (hw _ (List.mem_of_getElem? (i := 42) rfl))) Via.refl e48 (F2.ext O43.2) (g := (mkF m 26 #[.val (.ref eDENY), .val .null, .val (.ref r43), .val (.int (18 : Int32)), .val (.int (2 : Int32)), .val (.ref u2)] [(.ref u2)])) rfl rfl (hb hby d1_26)
  refine own_go st50 ?_
  show own_Goes _ _ _ _ _ _ _ (T50.setTop (mkF m 29 #[.val (.ref eDENY), .val .null, .val (.ref r43), .val (.int (18 : Int32)), .val (.int (2 : Int32)), .val (.ref u2)] [.null]))
  refine own_go (fun _ ww => XS.aloadN X50.here hx rfl (hb hby d1_29) rfl rfl ww) ?_
  show own_Goes _ _ _ _ _ _ _ (T50.setTop (mkF m 30 #[.val (.ref eDENY), .val .null, .val (.ref r43), .val (.int (18 : Int32)), .val (.int (2 : Int32)), .val (.ref u2)] [(.ref eDENY), .null]))
  refine own_go (fun _ ww => XT.acmpYes X50.here hx rfl (pc0 := 30) (pc' := 36) rfl (hb hby d1_30) rfl rfl rfl (XT.aa_ne_t (by simp)) (by decide) (by decide) ww) ?_
  show own_Goes _ _ _ _ _ _ _ (T50.setTop (mkF m 36 #[.val (.ref eDENY), .val .null, .val (.ref r43), .val (.int (18 : Int32)), .val (.int (2 : Int32)), .val (.ref u2)] []))
  refine own_go (fun _ ww => XS.iinc X50.here hx rfl (hb hby d1_36) rfl (l' := #[.val (.ref eDENY), .val .null, .val (.ref r43), .val (.int (18 : Int32)), .val (.int (3 : Int32)), .val (.ref u2)]) rfl ww) ?_
  show own_Goes _ _ _ _ _ _ _ (T50.setTop (mkF m 39 #[.val (.ref eDENY), .val .null, .val (.ref r43), .val (.int (18 : Int32)), .val (.int (3 : Int32)), .val (.ref u2)] []))
  refine own_go (fun _ ww => XS.goto X50.here hx rfl (pc0 := 39) (pc' := 12) rfl (hb hby d1_39) (by decide) (by decide) ww) ?_
  show own_Goes _ _ _ _ _ _ _ (T50.setTop (mkF m 12 #[.val (.ref eDENY), .val .null, .val (.ref r43), .val (.int (18 : Int32)), .val (.int (3 : Int32)), .val (.ref u2)] []))
  refine own_go (fun _ ww => XS.iload X50.here hx rfl (hb hby d1_12) rfl  ww) ?_
  show own_Goes _ _ _ _ _ _ _ (T50.setTop (mkF m 14 #[.val (.ref eDENY), .val .null, .val (.ref r43), .val (.int (18 : Int32)), .val (.int (3 : Int32)), .val (.ref u2)] [(.int (3 : Int32))]))
  refine own_go (fun _ ww => XS.iloadN X50.here hx rfl (hb hby d1_14) rfl  ww) ?_
  show own_Goes _ _ _ _ _ _ _ (T50.setTop (mkF m 15 #[.val (.ref eDENY), .val .null, .val (.ref r43), .val (.int (18 : Int32)), .val (.int (3 : Int32)), .val (.ref u2)] [(.int (18 : Int32)), (.int (3 : Int32))]))
  refine own_go (fun _ ww => XS.icmpNo X50.here hx rfl (hb hby d1_15) rfl (tlt (by decide : (3 : Int32) < (18 : Int32))).2.1 ww) ?_
  show own_Goes _ _ _ _ _ _ _ (T50.setTop (mkF m 18 #[.val (.ref eDENY), .val .null, .val (.ref r43), .val (.int (18 : Int32)), .val (.int (3 : Int32)), .val (.ref u2)] []))
  refine own_go (fun _ ww => XS.aloadN X50.here hx rfl (hb hby d1_18) rfl rfl ww) ?_
  show own_Goes _ _ _ _ _ _ _ (T50.setTop (mkF m 19 #[.val (.ref eDENY), .val .null, .val (.ref r43), .val (.int (18 : Int32)), .val (.int (3 : Int32)), .val (.ref u2)] [(.ref r43)]))
  refine own_go (fun _ ww => XS.iload X50.here hx rfl (hb hby d1_19) rfl  ww) ?_
  show own_Goes _ _ _ _ _ _ _ (T50.setTop (mkF m 21 #[.val (.ref eDENY), .val .null, .val (.ref r43), .val (.int (18 : Int32)), .val (.int (3 : Int32)), .val (.ref u2)] [(.int (3 : Int32)), (.ref r43)]))
  obtain ⟨cl51, Ar51, -, S51, -, H51, -⟩ := id V43q
  have hin51 := inb_of (j := (3 : Int32)) S51 ⟨by decide, by decide⟩
  have hat51 : cl51.slots[((3 : Int32)).toNatClampNeg]? = some (.ref u3) := Has.at H51 hin51 rfl
  refine own_go (fun _ ww => X50.aaload hx (j := (3 : Int32)) (v := (.ref u3)) (by rw [e50]; exact Ar51.1) (State.isArrayOf_alike hZ.alike Ar51.2.1) rfl Ar51.2.2 hin51 hat51 (g := (mkF m 21 #[.val (.ref eDENY), .val .null, .val (.ref r43), .val (.int (18 : Int32)), .val (.int (3 : Int32)), .val (.ref u2)] [(.int (3 : Int32)), (.ref r43)])) rfl rfl (hb hby d1_21) _ ww) ?_
  show own_Goes _ _ _ _ _ _ _ (T50.setTop (mkF m 22 #[.val (.ref eDENY), .val .null, .val (.ref r43), .val (.int (18 : Int32)), .val (.int (3 : Int32)), .val (.ref u2)] [(.ref u3)]))
  refine own_go (fun _ ww => XS.astore X50.here hx rfl (hb hby d1_22) rfl rfl (l' := #[.val (.ref eDENY), .val .null, .val (.ref r43), .val (.int (18 : Int32)), .val (.int (3 : Int32)), .val (.ref u3)]) rfl ww) ?_
  show own_Goes _ _ _ _ _ _ _ (T50.setTop (mkF m 24 #[.val (.ref eDENY), .val .null, .val (.ref r43), .val (.int (18 : Int32)), .val (.int (3 : Int32)), .val (.ref u3)] []))
  refine own_go (fun _ ww => XS.aload X50.here hx rfl (hb hby d1_24) rfl rfl ww) ?_
  show own_Goes _ _ _ _ _ _ _ (T50.setTop (mkF m 26 #[.val (.ref eDENY), .val .null, .val (.ref r43), .val (.int (18 : Int32)), .val (.int (3 : Int32)), .val (.ref u3)] [(.ref u3)]))
  obtain ⟨T52, X52, e52, st52⟩ := getF X50 hx hZ hown (host := "") (Or.inl (hw _ (List.mem_of_getElem? (i := 42) rfl))) Via.refl e50 (F3.ext O43.2) (g := (mkF m 26 #[.val (.ref eDENY), .val .null, .val (.ref r43), .val (.int (18 : Int32)), .val (.int (3 : Int32)), .val (.ref u3)] [(.ref u3)])) rfl rfl (hb hby d1_26)
  refine own_go st52 ?_
  show own_Goes _ _ _ _ _ _ _ (T52.setTop (mkF m 29 #[.val (.ref eDENY), .val .null, .val (.ref r43), .val (.int (18 : Int32)), .val (.int (3 : Int32)), .val (.ref u3)] [.null]))
  refine own_go (fun _ ww => XS.aloadN X52.here hx rfl (hb hby d1_29) rfl rfl ww) ?_
  show own_Goes _ _ _ _ _ _ _ (T52.setTop (mkF m 30 #[.val (.ref eDENY), .val .null, .val (.ref r43), .val (.int (18 : Int32)), .val (.int (3 : Int32)), .val (.ref u3)] [(.ref eDENY), .null]))
  refine own_go (fun _ ww => XT.acmpYes X52.here hx rfl (pc0 := 30) (pc' := 36) rfl (hb hby d1_30) rfl rfl rfl (XT.aa_ne_t (by simp)) (by decide) (by decide) ww) ?_
  show own_Goes _ _ _ _ _ _ _ (T52.setTop (mkF m 36 #[.val (.ref eDENY), .val .null, .val (.ref r43), .val (.int (18 : Int32)), .val (.int (3 : Int32)), .val (.ref u3)] []))
  refine own_go (fun _ ww => XS.iinc X52.here hx rfl (hb hby d1_36) rfl (l' := #[.val (.ref eDENY), .val .null, .val (.ref r43), .val (.int (18 : Int32)), .val (.int (4 : Int32)), .val (.ref u3)]) rfl ww) ?_
  show own_Goes _ _ _ _ _ _ _ (T52.setTop (mkF m 39 #[.val (.ref eDENY), .val .null, .val (.ref r43), .val (.int (18 : Int32)), .val (.int (4 : Int32)), .val (.ref u3)] []))
  refine own_go (fun _ ww => XS.goto X52.here hx rfl (pc0 := 39) (pc' := 12) rfl (hb hby d1_39) (by decide) (by decide) ww) ?_
  show own_Goes _ _ _ _ _ _ _ (T52.setTop (mkF m 12 #[.val (.ref eDENY), .val .null, .val (.ref r43), .val (.int (18 : Int32)), .val (.int (4 : Int32)), .val (.ref u3)] []))
  refine own_go (fun _ ww => XS.iload X52.here hx rfl (hb hby d1_12) rfl  ww) ?_
  show own_Goes _ _ _ _ _ _ _ (T52.setTop (mkF m 14 #[.val (.ref eDENY), .val .null, .val (.ref r43), .val (.int (18 : Int32)), .val (.int (4 : Int32)), .val (.ref u3)] [(.int (4 : Int32))]))
  refine own_go (fun _ ww => XS.iloadN X52.here hx rfl (hb hby d1_14) rfl  ww) ?_
  show own_Goes _ _ _ _ _ _ _ (T52.setTop (mkF m 15 #[.val (.ref eDENY), .val .null, .val (.ref r43), .val (.int (18 : Int32)), .val (.int (4 : Int32)), .val (.ref u3)] [(.int (18 : Int32)), (.int (4 : Int32))]))
  refine own_go (fun _ ww => XS.icmpNo X52.here hx rfl (hb hby d1_15) rfl (tlt (by decide : (4 : Int32) < (18 : Int32))).2.1 ww) ?_
  show own_Goes _ _ _ _ _ _ _ (T52.setTop (mkF m 18 #[.val (.ref eDENY), .val .null, .val (.ref r43), .val (.int (18 : Int32)), .val (.int (4 : Int32)), .val (.ref u3)] []))
  refine own_go (fun _ ww => XS.aloadN X52.here hx rfl (hb hby d1_18) rfl rfl ww) ?_
  show own_Goes _ _ _ _ _ _ _ (T52.setTop (mkF m 19 #[.val (.ref eDENY), .val .null, .val (.ref r43), .val (.int (18 : Int32)), .val (.int (4 : Int32)), .val (.ref u3)] [(.ref r43)]))
  refine own_go (fun _ ww => XS.iload X52.here hx rfl (hb hby d1_19) rfl  ww) ?_
  show own_Goes _ _ _ _ _ _ _ (T52.setTop (mkF m 21 #[.val (.ref eDENY), .val .null, .val (.ref r43), .val (.int (18 : Int32)), .val (.int (4 : Int32)), .val (.ref u3)] [(.int (4 : Int32)), (.ref r43)]))
  obtain ⟨cl53, Ar53, -, S53, -, H53, -⟩ := id V43q
  have hin53 := inb_of (j := (4 : Int32)) S53 ⟨by decide, by decide⟩
  have hat53 : cl53.slots[((4 : Int32)).toNatClampNeg]? = some (.ref u4) := Has.at H53 hin53 rfl
  refine own_go (fun _ ww => X52.aaload hx (j := (4 : Int32)) (v := (.ref u4)) (by rw [e52]; exact Ar53.1) (State.isArrayOf_alike hZ.alike Ar53.2.1) rfl Ar53.2.2 hin53 hat53 (g := (mkF m 21 #[.val (.ref eDENY), .val .null, .val (.ref r43), .val (.int (18 : Int32)), .val (.int (4 : Int32)), .val (.ref u3)] [(.int (4 : Int32)), (.ref r43)])) rfl rfl (hb hby d1_21) _ ww) ?_
  show own_Goes _ _ _ _ _ _ _ (T52.setTop (mkF m 22 #[.val (.ref eDENY), .val .null, .val (.ref r43), .val (.int (18 : Int32)), .val (.int (4 : Int32)), .val (.ref u3)] [(.ref u4)]))
  refine own_go (fun _ ww => XS.astore X52.here hx rfl (hb hby d1_22) rfl rfl (l' := #[.val (.ref eDENY), .val .null, .val (.ref r43), .val (.int (18 : Int32)), .val (.int (4 : Int32)), .val (.ref u4)]) rfl ww) ?_
  show own_Goes _ _ _ _ _ _ _ (T52.setTop (mkF m 24 #[.val (.ref eDENY), .val .null, .val (.ref r43), .val (.int (18 : Int32)), .val (.int (4 : Int32)), .val (.ref u4)] []))
  refine own_go (fun _ ww => XS.aload X52.here hx rfl (hb hby d1_24) rfl rfl ww) ?_
  show own_Goes _ _ _ _ _ _ _ (T52.setTop (mkF m 26 #[.val (.ref eDENY), .val .null, .val (.ref r43), .val (.int (18 : Int32)), .val (.int (4 : Int32)), .val (.ref u4)] [(.ref u4)]))
  obtain ⟨T54, X54, e54, st54⟩ := getF X52 hx hZ hown (host := "") (Or.inl (hw _ (List.mem_of_getElem? (i := 42) rfl))) Via.refl e52 (F4.ext O43.2) (g := (mkF m 26 #[.val (.ref eDENY), .val .null, .val (.ref r43), .val (.int (18 : Int32)), .val (.int (4 : Int32)), .val (.ref u4)] [(.ref u4)])) rfl rfl (hb hby d1_26)
  refine own_go st54 ?_
  show own_Goes _ _ _ _ _ _ _ (T54.setTop (mkF m 29 #[.val (.ref eDENY), .val .null, .val (.ref r43), .val (.int (18 : Int32)), .val (.int (4 : Int32)), .val (.ref u4)] [.null]))
  refine own_go (fun _ ww => XS.aloadN X54.here hx rfl (hb hby d1_29) rfl rfl ww) ?_
  show own_Goes _ _ _ _ _ _ _ (T54.setTop (mkF m 30 #[.val (.ref eDENY), .val .null, .val (.ref r43), .val (.int (18 : Int32)), .val (.int (4 : Int32)), .val (.ref u4)] [(.ref eDENY), .null]))
  refine own_go (fun _ ww => XT.acmpYes X54.here hx rfl (pc0 := 30) (pc' := 36) rfl (hb hby d1_30) rfl rfl rfl (XT.aa_ne_t (by simp)) (by decide) (by decide) ww) ?_
  show own_Goes _ _ _ _ _ _ _ (T54.setTop (mkF m 36 #[.val (.ref eDENY), .val .null, .val (.ref r43), .val (.int (18 : Int32)), .val (.int (4 : Int32)), .val (.ref u4)] []))
  refine own_go (fun _ ww => XS.iinc X54.here hx rfl (hb hby d1_36) rfl (l' := #[.val (.ref eDENY), .val .null, .val (.ref r43), .val (.int (18 : Int32)), .val (.int (5 : Int32)), .val (.ref u4)]) rfl ww) ?_
  show own_Goes _ _ _ _ _ _ _ (T54.setTop (mkF m 39 #[.val (.ref eDENY), .val .null, .val (.ref r43), .val (.int (18 : Int32)), .val (.int (5 : Int32)), .val (.ref u4)] []))
  refine own_go (fun _ ww => XS.goto X54.here hx rfl (pc0 := 39) (pc' := 12) rfl (hb hby d1_39) (by decide) (by decide) ww) ?_
  show own_Goes _ _ _ _ _ _ _ (T54.setTop (mkF m 12 #[.val (.ref eDENY), .val .null, .val (.ref r43), .val (.int (18 : Int32)), .val (.int (5 : Int32)), .val (.ref u4)] []))
  refine own_go (fun _ ww => XS.iload X54.here hx rfl (hb hby d1_12) rfl  ww) ?_
  show own_Goes _ _ _ _ _ _ _ (T54.setTop (mkF m 14 #[.val (.ref eDENY), .val .null, .val (.ref r43), .val (.int (18 : Int32)), .val (.int (5 : Int32)), .val (.ref u4)] [(.int (5 : Int32))]))
  refine own_go (fun _ ww => XS.iloadN X54.here hx rfl (hb hby d1_14) rfl  ww) ?_
  show own_Goes _ _ _ _ _ _ _ (T54.setTop (mkF m 15 #[.val (.ref eDENY), .val .null, .val (.ref r43), .val (.int (18 : Int32)), .val (.int (5 : Int32)), .val (.ref u4)] [(.int (18 : Int32)), (.int (5 : Int32))]))
  refine own_go (fun _ ww => XS.icmpNo X54.here hx rfl (hb hby d1_15) rfl (tlt (by decide : (5 : Int32) < (18 : Int32))).2.1 ww) ?_
  show own_Goes _ _ _ _ _ _ _ (T54.setTop (mkF m 18 #[.val (.ref eDENY), .val .null, .val (.ref r43), .val (.int (18 : Int32)), .val (.int (5 : Int32)), .val (.ref u4)] []))
  refine own_go (fun _ ww => XS.aloadN X54.here hx rfl (hb hby d1_18) rfl rfl ww) ?_
  show own_Goes _ _ _ _ _ _ _ (T54.setTop (mkF m 19 #[.val (.ref eDENY), .val .null, .val (.ref r43), .val (.int (18 : Int32)), .val (.int (5 : Int32)), .val (.ref u4)] [(.ref r43)]))
  refine own_go (fun _ ww => XS.iload X54.here hx rfl (hb hby d1_19) rfl  ww) ?_
  show own_Goes _ _ _ _ _ _ _ (T54.setTop (mkF m 21 #[.val (.ref eDENY), .val .null, .val (.ref r43), .val (.int (18 : Int32)), .val (.int (5 : Int32)), .val (.ref u4)] [(.int (5 : Int32)), (.ref r43)]))
  obtain ⟨cl55, Ar55, -, S55, -, H55, -⟩ := id V43q
  have hin55 := inb_of (j := (5 : Int32)) S55 ⟨by decide, by decide⟩
  have hat55 : cl55.slots[((5 : Int32)).toNatClampNeg]? = some (.ref u5) := Has.at H55 hin55 rfl
  refine own_go (fun _ ww => X54.aaload hx (j := (5 : Int32)) (v := (.ref u5)) (by rw [e54]; exact Ar55.1) (State.isArrayOf_alike hZ.alike Ar55.2.1) rfl Ar55.2.2 hin55 hat55 (g := (mkF m 21 #[.val (.ref eDENY), .val .null, .val (.ref r43), .val (.int (18 : Int32)), .val (.int (5 : Int32)), .val (.ref u4)] [(.int (5 : Int32)), (.ref r43)])) rfl rfl (hb hby d1_21) _ ww) ?_
  show own_Goes _ _ _ _ _ _ _ (T54.setTop (mkF m 22 #[.val (.ref eDENY), .val .null, .val (.ref r43), .val (.int (18 : Int32)), .val (.int (5 : Int32)), .val (.ref u4)] [(.ref u5)]))
  refine own_go (fun _ ww => XS.astore X54.here hx rfl (hb hby d1_22) rfl rfl (l' := #[.val (.ref eDENY), .val .null, .val (.ref r43), .val (.int (18 : Int32)), .val (.int (5 : Int32)), .val (.ref u5)]) rfl ww) ?_
  show own_Goes _ _ _ _ _ _ _ (T54.setTop (mkF m 24 #[.val (.ref eDENY), .val .null, .val (.ref r43), .val (.int (18 : Int32)), .val (.int (5 : Int32)), .val (.ref u5)] []))
  refine own_go (fun _ ww => XS.aload X54.here hx rfl (hb hby d1_24) rfl rfl ww) ?_
  show own_Goes _ _ _ _ _ _ _ (T54.setTop (mkF m 26 #[.val (.ref eDENY), .val .null, .val (.ref r43), .val (.int (18 : Int32)), .val (.int (5 : Int32)), .val (.ref u5)] [(.ref u5)]))
  obtain ⟨T56, X56, e56, st56⟩ := getF X54 hx hZ hown (host := "") (Or.inl (hw _ (List.mem_of_getElem? (i := 42) rfl))) Via.refl e54 (F5.ext O43.2) (g := (mkF m 26 #[.val (.ref eDENY), .val .null, .val (.ref r43), .val (.int (18 : Int32)), .val (.int (5 : Int32)), .val (.ref u5)] [(.ref u5)])) rfl rfl (hb hby d1_26)
  refine own_go st56 ?_
  show own_Goes _ _ _ _ _ _ _ (T56.setTop (mkF m 29 #[.val (.ref eDENY), .val .null, .val (.ref r43), .val (.int (18 : Int32)), .val (.int (5 : Int32)), .val (.ref u5)] [.null]))
  refine own_go (fun _ ww => XS.aloadN X56.here hx rfl (hb hby d1_29) rfl rfl ww) ?_
  show own_Goes _ _ _ _ _ _ _ (T56.setTop (mkF m 30 #[.val (.ref eDENY), .val .null, .val (.ref r43), .val (.int (18 : Int32)), .val (.int (5 : Int32)), .val (.ref u5)] [(.ref eDENY), .null]))
  refine own_go (fun _ ww => XT.acmpYes X56.here hx rfl (pc0 := 30) (pc' := 36) rfl (hb hby d1_30) rfl rfl rfl (XT.aa_ne_t (by simp)) (by decide) (by decide) ww) ?_
  show own_Goes _ _ _ _ _ _ _ (T56.setTop (mkF m 36 #[.val (.ref eDENY), .val .null, .val (.ref r43), .val (.int (18 : Int32)), .val (.int (5 : Int32)), .val (.ref u5)] []))
  refine own_go (fun _ ww => XS.iinc X56.here hx rfl (hb hby d1_36) rfl (l' := #[.val (.ref eDENY), .val .null, .val (.ref r43), .val (.int (18 : Int32)), .val (.int (6 : Int32)), .val (.ref u5)]) rfl ww) ?_
  show own_Goes _ _ _ _ _ _ _ (T56.setTop (mkF m 39 #[.val (.ref eDENY), .val .null, .val (.ref r43), .val (.int (18 : Int32)), .val (.int (6 : Int32)), .val (.ref u5)] []))
  refine own_go (fun _ ww => XS.goto X56.here hx rfl (pc0 := 39) (pc' := 12) rfl (hb hby d1_39) (by decide) (by decide) ww) ?_
  show own_Goes _ _ _ _ _ _ _ (T56.setTop (mkF m 12 #[.val (.ref eDENY), .val .null, .val (.ref r43), .val (.int (18 : Int32)), .val (.int (6 : Int32)), .val (.ref u5)] []))
  refine own_go (fun _ ww => XS.iload X56.here hx rfl (hb hby d1_12) rfl  ww) ?_
  show own_Goes _ _ _ _ _ _ _ (T56.setTop (mkF m 14 #[.val (.ref eDENY), .val .null, .val (.ref r43), .val (.int (18 : Int32)), .val (.int (6 : Int32)), .val (.ref u5)] [(.int (6 : Int32))]))
  refine own_go (fun _ ww => XS.iloadN X56.here hx rfl (hb hby d1_14) rfl  ww) ?_
  show own_Goes _ _ _ _ _ _ _ (T56.setTop (mkF m 15 #[.val (.ref eDENY), .val .null, .val (.ref r43), .val (.int (18 : Int32)), .val (.int (6 : Int32)), .val (.ref u5)] [(.int (18 : Int32)), (.int (6 : Int32))]))
  refine own_go (fun _ ww => XS.icmpNo X56.here hx rfl (hb hby d1_15) rfl (tlt (by decide : (6 : Int32) < (18 : Int32))).2.1 ww) ?_
  show own_Goes _ _ _ _ _ _ _ (T56.setTop (mkF m 18 #[.val (.ref eDENY), .val .null, .val (.ref r43), .val (.int (18 : Int32)), .val (.int (6 : Int32)), .val (.ref u5)] []))
  refine own_go (fun _ ww => XS.aloadN X56.here hx rfl (hb hby d1_18) rfl rfl ww) ?_
  show own_Goes _ _ _ _ _ _ _ (T56.setTop (mkF m 19 #[.val (.ref eDENY), .val .null, .val (.ref r43), .val (.int (18 : Int32)), .val (.int (6 : Int32)), .val (.ref u5)] [(.ref r43)]))
  refine own_go (fun _ ww => XS.iload X56.here hx rfl (hb hby d1_19) rfl  ww) ?_
  show own_Goes _ _ _ _ _ _ _ (T56.setTop (mkF m 21 #[.val (.ref eDENY), .val .null, .val (.ref r43), .val (.int (18 : Int32)), .val (.int (6 : Int32)), .val (.ref u5)] [(.int (6 : Int32)), (.ref r43)]))
  obtain ⟨cl57, Ar57, -, S57, -, H57, -⟩ := id V43q
  have hin57 := inb_of (j := (6 : Int32)) S57 ⟨by decide, by decide⟩
  have hat57 : cl57.slots[((6 : Int32)).toNatClampNeg]? = some (.ref u6) := Has.at H57 hin57 rfl
  refine own_go (fun _ ww => X56.aaload hx (j := (6 : Int32)) (v := (.ref u6)) (by rw [e56]; exact Ar57.1) (State.isArrayOf_alike hZ.alike Ar57.2.1) rfl Ar57.2.2 hin57 hat57 (g := (mkF m 21 #[.val (.ref eDENY), .val .null, .val (.ref r43), .val (.int (18 : Int32)), .val (.int (6 : Int32)), .val (.ref u5)] [(.int (6 : Int32)), (.ref r43)])) rfl rfl (hb hby d1_21) _ ww) ?_
  show own_Goes _ _ _ _ _ _ _ (T56.setTop (mkF m 22 #[.val (.ref eDENY), .val .null, .val (.ref r43), .val (.int (18 : Int32)), .val (.int (6 : Int32)), .val (.ref u5)] [(.ref u6)]))
  refine own_go (fun _ ww => XS.astore X56.here hx rfl (hb hby d1_22) rfl rfl (l' := #[.val (.ref eDENY), .val .null, .val (.ref r43), .val (.int (18 : Int32)), .val (.int (6 : Int32)), .val (.ref u6)]) rfl ww) ?_
  show own_Goes _ _ _ _ _ _ _ (T56.setTop (mkF m 24 #[.val (.ref eDENY), .val .null, .val (.ref r43), .val (.int (18 : Int32)), .val (.int (6 : Int32)), .val (.ref u6)] []))
  refine own_go (fun _ ww => XS.aload X56.here hx rfl (hb hby d1_24) rfl rfl ww) ?_
  show own_Goes _ _ _ _ _ _ _ (T56.setTop (mkF m 26 #[.val (.ref eDENY), .val .null, .val (.ref r43), .val (.int (18 : Int32)), .val (.int (6 : Int32)), .val (.ref u6)] [(.ref u6)]))
  obtain ⟨T58, X58, e58, st58⟩ := getF X56 hx hZ hown (host := "") (Or.inl (hw _ (List.mem_of_getElem? (i := 42) rfl))) Via.refl e56 (F6.ext O43.2) (g := (mkF m 26 #[.val (.ref eDENY), .val .null, .val (.ref r43), .val (.int (18 : Int32)), .val (.int (6 : Int32)), .val (.ref u6)] [(.ref u6)])) rfl rfl (hb hby d1_26)
  refine own_go st58 ?_
  show own_Goes _ _ _ _ _ _ _ (T58.setTop (mkF m 29 #[.val (.ref eDENY), .val .null, .val (.ref r43), .val (.int (18 : Int32)), .val (.int (6 : Int32)), .val (.ref u6)] [.null]))
  refine own_go (fun _ ww => XS.aloadN X58.here hx rfl (hb hby d1_29) rfl rfl ww) ?_
  show own_Goes _ _ _ _ _ _ _ (T58.setTop (mkF m 30 #[.val (.ref eDENY), .val .null, .val (.ref r43), .val (.int (18 : Int32)), .val (.int (6 : Int32)), .val (.ref u6)] [(.ref eDENY), .null]))
  refine own_go (fun _ ww => XT.acmpYes X58.here hx rfl (pc0 := 30) (pc' := 36) rfl (hb hby d1_30) rfl rfl rfl (XT.aa_ne_t (by simp)) (by decide) (by decide) ww) ?_
  show own_Goes _ _ _ _ _ _ _ (T58.setTop (mkF m 36 #[.val (.ref eDENY), .val .null, .val (.ref r43), .val (.int (18 : Int32)), .val (.int (6 : Int32)), .val (.ref u6)] []))
  refine own_go (fun _ ww => XS.iinc X58.here hx rfl (hb hby d1_36) rfl (l' := #[.val (.ref eDENY), .val .null, .val (.ref r43), .val (.int (18 : Int32)), .val (.int (7 : Int32)), .val (.ref u6)]) rfl ww) ?_
  show own_Goes _ _ _ _ _ _ _ (T58.setTop (mkF m 39 #[.val (.ref eDENY), .val .null, .val (.ref r43), .val (.int (18 : Int32)), .val (.int (7 : Int32)), .val (.ref u6)] []))
  refine own_go (fun _ ww => XS.goto X58.here hx rfl (pc0 := 39) (pc' := 12) rfl (hb hby d1_39) (by decide) (by decide) ww) ?_
  show own_Goes _ _ _ _ _ _ _ (T58.setTop (mkF m 12 #[.val (.ref eDENY), .val .null, .val (.ref r43), .val (.int (18 : Int32)), .val (.int (7 : Int32)), .val (.ref u6)] []))
  refine own_go (fun _ ww => XS.iload X58.here hx rfl (hb hby d1_12) rfl  ww) ?_
  show own_Goes _ _ _ _ _ _ _ (T58.setTop (mkF m 14 #[.val (.ref eDENY), .val .null, .val (.ref r43), .val (.int (18 : Int32)), .val (.int (7 : Int32)), .val (.ref u6)] [(.int (7 : Int32))]))
  refine own_go (fun _ ww => XS.iloadN X58.here hx rfl (hb hby d1_14) rfl  ww) ?_
  show own_Goes _ _ _ _ _ _ _ (T58.setTop (mkF m 15 #[.val (.ref eDENY), .val .null, .val (.ref r43), .val (.int (18 : Int32)), .val (.int (7 : Int32)), .val (.ref u6)] [(.int (18 : Int32)), (.int (7 : Int32))]))
  refine own_go (fun _ ww => XS.icmpNo X58.here hx rfl (hb hby d1_15) rfl (tlt (by decide : (7 : Int32) < (18 : Int32))).2.1 ww) ?_
  show own_Goes _ _ _ _ _ _ _ (T58.setTop (mkF m 18 #[.val (.ref eDENY), .val .null, .val (.ref r43), .val (.int (18 : Int32)), .val (.int (7 : Int32)), .val (.ref u6)] []))
  refine own_go (fun _ ww => XS.aloadN X58.here hx rfl (hb hby d1_18) rfl rfl ww) ?_
  show own_Goes _ _ _ _ _ _ _ (T58.setTop (mkF m 19 #[.val (.ref eDENY), .val .null, .val (.ref r43), .val (.int (18 : Int32)), .val (.int (7 : Int32)), .val (.ref u6)] [(.ref r43)]))
  refine own_go (fun _ ww => XS.iload X58.here hx rfl (hb hby d1_19) rfl  ww) ?_
  show own_Goes _ _ _ _ _ _ _ (T58.setTop (mkF m 21 #[.val (.ref eDENY), .val .null, .val (.ref r43), .val (.int (18 : Int32)), .val (.int (7 : Int32)), .val (.ref u6)] [(.int (7 : Int32)), (.ref r43)]))
  obtain ⟨cl59, Ar59, -, S59, -, H59, -⟩ := id V43q
  have hin59 := inb_of (j := (7 : Int32)) S59 ⟨by decide, by decide⟩
  have hat59 : cl59.slots[((7 : Int32)).toNatClampNeg]? = some (.ref u7) := Has.at H59 hin59 rfl
  refine own_go (fun _ ww => X58.aaload hx (j := (7 : Int32)) (v := (.ref u7)) (by rw [e58]; exact Ar59.1) (State.isArrayOf_alike hZ.alike Ar59.2.1) rfl Ar59.2.2 hin59 hat59 (g := (mkF m 21 #[.val (.ref eDENY), .val .null, .val (.ref r43), .val (.int (18 : Int32)), .val (.int (7 : Int32)), .val (.ref u6)] [(.int (7 : Int32)), (.ref r43)])) rfl rfl (hb hby d1_21) _ ww) ?_
  show own_Goes _ _ _ _ _ _ _ (T58.setTop (mkF m 22 #[.val (.ref eDENY), .val .null, .val (.ref r43), .val (.int (18 : Int32)), .val (.int (7 : Int32)), .val (.ref u6)] [(.ref u7)]))
  refine own_go (fun _ ww => XS.astore X58.here hx rfl (hb hby d1_22) rfl rfl (l' := #[.val (.ref eDENY), .val .null, .val (.ref r43), .val (.int (18 : Int32)), .val (.int (7 : Int32)), .val (.ref u7)]) rfl ww) ?_
  show own_Goes _ _ _ _ _ _ _ (T58.setTop (mkF m 24 #[.val (.ref eDENY), .val .null, .val (.ref r43), .val (.int (18 : Int32)), .val (.int (7 : Int32)), .val (.ref u7)] []))
  refine own_go (fun _ ww => XS.aload X58.here hx rfl (hb hby d1_24) rfl rfl ww) ?_
  show own_Goes _ _ _ _ _ _ _ (T58.setTop (mkF m 26 #[.val (.ref eDENY), .val .null, .val (.ref r43), .val (.int (18 : Int32)), .val (.int (7 : Int32)), .val (.ref u7)] [(.ref u7)]))
  obtain ⟨T60, X60, e60, st60⟩ := getF X58 hx hZ hown (host := "") (Or.inl (hw _ (List.mem_of_getElem? (i := 42) rfl))) Via.refl e58 (F7.ext O43.2) (g := (mkF m 26 #[.val (.ref eDENY), .val .null, .val (.ref r43), .val (.int (18 : Int32)), .val (.int (7 : Int32)), .val (.ref u7)] [(.ref u7)])) rfl rfl (hb hby d1_26)
  refine own_go st60 ?_
  show own_Goes _ _ _ _ _ _ _ (T60.setTop (mkF m 29 #[.val (.ref eDENY), .val .null, .val (.ref r43), .val (.int (18 : Int32)), .val (.int (7 : Int32)), .val (.ref u7)] [.null]))
  refine own_go (fun _ ww => XS.aloadN X60.here hx rfl (hb hby d1_29) rfl rfl ww) ?_
  show own_Goes _ _ _ _ _ _ _ (T60.setTop (mkF m 30 #[.val (.ref eDENY), .val .null, .val (.ref r43), .val (.int (18 : Int32)), .val (.int (7 : Int32)), .val (.ref u7)] [(.ref eDENY), .null]))
  refine own_go (fun _ ww => XT.acmpYes X60.here hx rfl (pc0 := 30) (pc' := 36) rfl (hb hby d1_30) rfl rfl rfl (XT.aa_ne_t (by simp)) (by decide) (by decide) ww) ?_
  show own_Goes _ _ _ _ _ _ _ (T60.setTop (mkF m 36 #[.val (.ref eDENY), .val .null, .val (.ref r43), .val (.int (18 : Int32)), .val (.int (7 : Int32)), .val (.ref u7)] []))
  refine own_go (fun _ ww => XS.iinc X60.here hx rfl (hb hby d1_36) rfl (l' := #[.val (.ref eDENY), .val .null, .val (.ref r43), .val (.int (18 : Int32)), .val (.int (8 : Int32)), .val (.ref u7)]) rfl ww) ?_
  show own_Goes _ _ _ _ _ _ _ (T60.setTop (mkF m 39 #[.val (.ref eDENY), .val .null, .val (.ref r43), .val (.int (18 : Int32)), .val (.int (8 : Int32)), .val (.ref u7)] []))
  refine own_go (fun _ ww => XS.goto X60.here hx rfl (pc0 := 39) (pc' := 12) rfl (hb hby d1_39) (by decide) (by decide) ww) ?_
  show own_Goes _ _ _ _ _ _ _ (T60.setTop (mkF m 12 #[.val (.ref eDENY), .val .null, .val (.ref r43), .val (.int (18 : Int32)), .val (.int (8 : Int32)), .val (.ref u7)] []))
  refine own_go (fun _ ww => XS.iload X60.here hx rfl (hb hby d1_12) rfl  ww) ?_
  show own_Goes _ _ _ _ _ _ _ (T60.setTop (mkF m 14 #[.val (.ref eDENY), .val .null, .val (.ref r43), .val (.int (18 : Int32)), .val (.int (8 : Int32)), .val (.ref u7)] [(.int (8 : Int32))]))
  refine own_go (fun _ ww => XS.iloadN X60.here hx rfl (hb hby d1_14) rfl  ww) ?_
  show own_Goes _ _ _ _ _ _ _ (T60.setTop (mkF m 15 #[.val (.ref eDENY), .val .null, .val (.ref r43), .val (.int (18 : Int32)), .val (.int (8 : Int32)), .val (.ref u7)] [(.int (18 : Int32)), (.int (8 : Int32))]))
  refine own_go (fun _ ww => XS.icmpNo X60.here hx rfl (hb hby d1_15) rfl (tlt (by decide : (8 : Int32) < (18 : Int32))).2.1 ww) ?_
  show own_Goes _ _ _ _ _ _ _ (T60.setTop (mkF m 18 #[.val (.ref eDENY), .val .null, .val (.ref r43), .val (.int (18 : Int32)), .val (.int (8 : Int32)), .val (.ref u7)] []))
  refine own_go (fun _ ww => XS.aloadN X60.here hx rfl (hb hby d1_18) rfl rfl ww) ?_
  show own_Goes _ _ _ _ _ _ _ (T60.setTop (mkF m 19 #[.val (.ref eDENY), .val .null, .val (.ref r43), .val (.int (18 : Int32)), .val (.int (8 : Int32)), .val (.ref u7)] [(.ref r43)]))
  refine own_go (fun _ ww => XS.iload X60.here hx rfl (hb hby d1_19) rfl  ww) ?_
  show own_Goes _ _ _ _ _ _ _ (T60.setTop (mkF m 21 #[.val (.ref eDENY), .val .null, .val (.ref r43), .val (.int (18 : Int32)), .val (.int (8 : Int32)), .val (.ref u7)] [(.int (8 : Int32)), (.ref r43)]))
  obtain ⟨cl61, Ar61, -, S61, -, H61, -⟩ := id V43q
  have hin61 := inb_of (j := (8 : Int32)) S61 ⟨by decide, by decide⟩
  have hat61 : cl61.slots[((8 : Int32)).toNatClampNeg]? = some (.ref u8) := Has.at H61 hin61 rfl
  refine own_go (fun _ ww => X60.aaload hx (j := (8 : Int32)) (v := (.ref u8)) (by rw [e60]; exact Ar61.1) (State.isArrayOf_alike hZ.alike Ar61.2.1) rfl Ar61.2.2 hin61 hat61 (g := (mkF m 21 #[.val (.ref eDENY), .val .null, .val (.ref r43), .val (.int (18 : Int32)), .val (.int (8 : Int32)), .val (.ref u7)] [(.int (8 : Int32)), (.ref r43)])) rfl rfl (hb hby d1_21) _ ww) ?_
  show own_Goes _ _ _ _ _ _ _ (T60.setTop (mkF m 22 #[.val (.ref eDENY), .val .null, .val (.ref r43), .val (.int (18 : Int32)), .val (.int (8 : Int32)), .val (.ref u7)] [(.ref u8)]))
  refine own_go (fun _ ww => XS.astore X60.here hx rfl (hb hby d1_22) rfl rfl (l' := #[.val (.ref eDENY), .val .null, .val (.ref r43), .val (.int (18 : Int32)), .val (.int (8 : Int32)), .val (.ref u8)]) rfl ww) ?_
  show own_Goes _ _ _ _ _ _ _ (T60.setTop (mkF m 24 #[.val (.ref eDENY), .val .null, .val (.ref r43), .val (.int (18 : Int32)), .val (.int (8 : Int32)), .val (.ref u8)] []))
  refine own_go (fun _ ww => XS.aload X60.here hx rfl (hb hby d1_24) rfl rfl ww) ?_
  show own_Goes _ _ _ _ _ _ _ (T60.setTop (mkF m 26 #[.val (.ref eDENY), .val .null, .val (.ref r43), .val (.int (18 : Int32)), .val (.int (8 : Int32)), .val (.ref u8)] [(.ref u8)]))
  obtain ⟨T62, X62, e62, st62⟩ := getF X60 hx hZ hown (host := "") (Or.inl (hw _ (List.mem_of_getElem? (i := 42) rfl))) Via.refl e60 (F8.ext O43.2) (g := (mkF m 26 #[.val (.ref eDENY), .val .null, .val (.ref r43), .val (.int (18 : Int32)), .val (.int (8 : Int32)), .val (.ref u8)] [(.ref u8)])) rfl rfl (hb hby d1_26)
  refine own_go st62 ?_
  show own_Goes _ _ _ _ _ _ _ (T62.setTop (mkF m 29 #[.val (.ref eDENY), .val .null, .val (.ref r43), .val (.int (18 : Int32)), .val (.int (8 : Int32)), .val (.ref u8)] [.null]))
  refine own_go (fun _ ww => XS.aloadN X62.here hx rfl (hb hby d1_29) rfl rfl ww) ?_
  show own_Goes _ _ _ _ _ _ _ (T62.setTop (mkF m 30 #[.val (.ref eDENY), .val .null, .val (.ref r43), .val (.int (18 : Int32)), .val (.int (8 : Int32)), .val (.ref u8)] [(.ref eDENY), .null]))
  refine own_go (fun _ ww => XT.acmpYes X62.here hx rfl (pc0 := 30) (pc' := 36) rfl (hb hby d1_30) rfl rfl rfl (XT.aa_ne_t (by simp)) (by decide) (by decide) ww) ?_
  show own_Goes _ _ _ _ _ _ _ (T62.setTop (mkF m 36 #[.val (.ref eDENY), .val .null, .val (.ref r43), .val (.int (18 : Int32)), .val (.int (8 : Int32)), .val (.ref u8)] []))
  refine own_go (fun _ ww => XS.iinc X62.here hx rfl (hb hby d1_36) rfl (l' := #[.val (.ref eDENY), .val .null, .val (.ref r43), .val (.int (18 : Int32)), .val (.int (9 : Int32)), .val (.ref u8)]) rfl ww) ?_
  show own_Goes _ _ _ _ _ _ _ (T62.setTop (mkF m 39 #[.val (.ref eDENY), .val .null, .val (.ref r43), .val (.int (18 : Int32)), .val (.int (9 : Int32)), .val (.ref u8)] []))
  refine own_go (fun _ ww => XS.goto X62.here hx rfl (pc0 := 39) (pc' := 12) rfl (hb hby d1_39) (by decide) (by decide) ww) ?_
  show own_Goes _ _ _ _ _ _ _ (T62.setTop (mkF m 12 #[.val (.ref eDENY), .val .null, .val (.ref r43), .val (.int (18 : Int32)), .val (.int (9 : Int32)), .val (.ref u8)] []))
  refine own_go (fun _ ww => XS.iload X62.here hx rfl (hb hby d1_12) rfl  ww) ?_
  show own_Goes _ _ _ _ _ _ _ (T62.setTop (mkF m 14 #[.val (.ref eDENY), .val .null, .val (.ref r43), .val (.int (18 : Int32)), .val (.int (9 : Int32)), .val (.ref u8)] [(.int (9 : Int32))]))
  refine own_go (fun _ ww => XS.iloadN X62.here hx rfl (hb hby d1_14) rfl  ww) ?_
  show own_Goes _ _ _ _ _ _ _ (T62.setTop (mkF m 15 #[.val (.ref eDENY), .val .null, .val (.ref r43), .val (.int (18 : Int32)), .val (.int (9 : Int32)), .val (.ref u8)] [(.int (18 : Int32)), (.int (9 : Int32))]))
  refine own_go (fun _ ww => XS.icmpNo X62.here hx rfl (hb hby d1_15) rfl (tlt (by decide : (9 : Int32) < (18 : Int32))).2.1 ww) ?_
  show own_Goes _ _ _ _ _ _ _ (T62.setTop (mkF m 18 #[.val (.ref eDENY), .val .null, .val (.ref r43), .val (.int (18 : Int32)), .val (.int (9 : Int32)), .val (.ref u8)] []))
  refine own_go (fun _ ww => XS.aloadN X62.here hx rfl (hb hby d1_18) rfl rfl ww) ?_
  show own_Goes _ _ _ _ _ _ _ (T62.setTop (mkF m 19 #[.val (.ref eDENY), .val .null, .val (.ref r43), .val (.int (18 : Int32)), .val (.int (9 : Int32)), .val (.ref u8)] [(.ref r43)]))
  refine own_go (fun _ ww => XS.iload X62.here hx rfl (hb hby d1_19) rfl  ww) ?_
  show own_Goes _ _ _ _ _ _ _ (T62.setTop (mkF m 21 #[.val (.ref eDENY), .val .null, .val (.ref r43), .val (.int (18 : Int32)), .val (.int (9 : Int32)), .val (.ref u8)] [(.int (9 : Int32)), (.ref r43)]))
  obtain ⟨cl63, Ar63, -, S63, -, H63, -⟩ := id V43q
  have hin63 := inb_of (j := (9 : Int32)) S63 ⟨by decide, by decide⟩
  have hat63 : cl63.slots[((9 : Int32)).toNatClampNeg]? = some (.ref u9) := Has.at H63 hin63 rfl
  refine own_go (fun _ ww => X62.aaload hx (j := (9 : Int32)) (v := (.ref u9)) (by rw [e62]; exact Ar63.1) (State.isArrayOf_alike hZ.alike Ar63.2.1) rfl Ar63.2.2 hin63 hat63 (g := (mkF m 21 #[.val (.ref eDENY), .val .null, .val (.ref r43), .val (.int (18 : Int32)), .val (.int (9 : Int32)), .val (.ref u8)] [(.int (9 : Int32)), (.ref r43)])) rfl rfl (hb hby d1_21) _ ww) ?_
  show own_Goes _ _ _ _ _ _ _ (T62.setTop (mkF m 22 #[.val (.ref eDENY), .val .null, .val (.ref r43), .val (.int (18 : Int32)), .val (.int (9 : Int32)), .val (.ref u8)] [(.ref u9)]))
  refine own_go (fun _ ww => XS.astore X62.here hx rfl (hb hby d1_22) rfl rfl (l' := #[.val (.ref eDENY), .val .null, .val (.ref r43), .val (.int (18 : Int32)), .val (.int (9 : Int32)), .val (.ref u9)]) rfl ww) ?_
  show own_Goes _ _ _ _ _ _ _ (T62.setTop (mkF m 24 #[.val (.ref eDENY), .val .null, .val (.ref r43), .val (.int (18 : Int32)), .val (.int (9 : Int32)), .val (.ref u9)] []))
  refine own_go (fun _ ww => XS.aload X62.here hx rfl (hb hby d1_24) rfl rfl ww) ?_
  show own_Goes _ _ _ _ _ _ _ (T62.setTop (mkF m 26 #[.val (.ref eDENY), .val .null, .val (.ref r43), .val (.int (18 : Int32)), .val (.int (9 : Int32)), .val (.ref u9)] [(.ref u9)]))
  obtain ⟨T64, X64, e64, st64⟩ := getF X62 hx hZ hown (host := "") (Or.inl (hw _ (List.mem_of_getElem? (i := 42) rfl))) Via.refl e62 (F9.ext O43.2) (g := (mkF m 26 #[.val (.ref eDENY), .val .null, .val (.ref r43), .val (.int (18 : Int32)), .val (.int (9 : Int32)), .val (.ref u9)] [(.ref u9)])) rfl rfl (hb hby d1_26)
  refine own_go st64 ?_
  show own_Goes _ _ _ _ _ _ _ (T64.setTop (mkF m 29 #[.val (.ref eDENY), .val .null, .val (.ref r43), .val (.int (18 : Int32)), .val (.int (9 : Int32)), .val (.ref u9)] [.null]))
  refine own_go (fun _ ww => XS.aloadN X64.here hx rfl (hb hby d1_29) rfl rfl ww) ?_
  show own_Goes _ _ _ _ _ _ _ (T64.setTop (mkF m 30 #[.val (.ref eDENY), .val .null, .val (.ref r43), .val (.int (18 : Int32)), .val (.int (9 : Int32)), .val (.ref u9)] [(.ref eDENY), .null]))
  refine own_go (fun _ ww => XT.acmpYes X64.here hx rfl (pc0 := 30) (pc' := 36) rfl (hb hby d1_30) rfl rfl rfl (XT.aa_ne_t (by simp)) (by decide) (by decide) ww) ?_
  show own_Goes _ _ _ _ _ _ _ (T64.setTop (mkF m 36 #[.val (.ref eDENY), .val .null, .val (.ref r43), .val (.int (18 : Int32)), .val (.int (9 : Int32)), .val (.ref u9)] []))
  refine own_go (fun _ ww => XS.iinc X64.here hx rfl (hb hby d1_36) rfl (l' := #[.val (.ref eDENY), .val .null, .val (.ref r43), .val (.int (18 : Int32)), .val (.int (10 : Int32)), .val (.ref u9)]) rfl ww) ?_
  show own_Goes _ _ _ _ _ _ _ (T64.setTop (mkF m 39 #[.val (.ref eDENY), .val .null, .val (.ref r43), .val (.int (18 : Int32)), .val (.int (10 : Int32)), .val (.ref u9)] []))
  refine own_go (fun _ ww => XS.goto X64.here hx rfl (pc0 := 39) (pc' := 12) rfl (hb hby d1_39) (by decide) (by decide) ww) ?_
  show own_Goes _ _ _ _ _ _ _ (T64.setTop (mkF m 12 #[.val (.ref eDENY), .val .null, .val (.ref r43), .val (.int (18 : Int32)), .val (.int (10 : Int32)), .val (.ref u9)] []))
  refine own_go (fun _ ww => XS.iload X64.here hx rfl (hb hby d1_12) rfl  ww) ?_
  show own_Goes _ _ _ _ _ _ _ (T64.setTop (mkF m 14 #[.val (.ref eDENY), .val .null, .val (.ref r43), .val (.int (18 : Int32)), .val (.int (10 : Int32)), .val (.ref u9)] [(.int (10 : Int32))]))
  refine own_go (fun _ ww => XS.iloadN X64.here hx rfl (hb hby d1_14) rfl  ww) ?_
  show own_Goes _ _ _ _ _ _ _ (T64.setTop (mkF m 15 #[.val (.ref eDENY), .val .null, .val (.ref r43), .val (.int (18 : Int32)), .val (.int (10 : Int32)), .val (.ref u9)] [(.int (18 : Int32)), (.int (10 : Int32))]))
  refine own_go (fun _ ww => XS.icmpNo X64.here hx rfl (hb hby d1_15) rfl (tlt (by decide : (10 : Int32) < (18 : Int32))).2.1 ww) ?_
  show own_Goes _ _ _ _ _ _ _ (T64.setTop (mkF m 18 #[.val (.ref eDENY), .val .null, .val (.ref r43), .val (.int (18 : Int32)), .val (.int (10 : Int32)), .val (.ref u9)] []))
  refine own_go (fun _ ww => XS.aloadN X64.here hx rfl (hb hby d1_18) rfl rfl ww) ?_
  show own_Goes _ _ _ _ _ _ _ (T64.setTop (mkF m 19 #[.val (.ref eDENY), .val .null, .val (.ref r43), .val (.int (18 : Int32)), .val (.int (10 : Int32)), .val (.ref u9)] [(.ref r43)]))
  refine own_go (fun _ ww => XS.iload X64.here hx rfl (hb hby d1_19) rfl  ww) ?_
  show own_Goes _ _ _ _ _ _ _ (T64.setTop (mkF m 21 #[.val (.ref eDENY), .val .null, .val (.ref r43), .val (.int (18 : Int32)), .val (.int (10 : Int32)), .val (.ref u9)] [(.int (10 : Int32)), (.ref r43)]))
  obtain ⟨cl65, Ar65, -, S65, -, H65, -⟩ := id V43q
  have hin65 := inb_of (j := (10 : Int32)) S65 ⟨by decide, by decide⟩
  have hat65 : cl65.slots[((10 : Int32)).toNatClampNeg]? = some (.ref u10) := Has.at H65 hin65 rfl
  refine own_go (fun _ ww => X64.aaload hx (j := (10 : Int32)) (v := (.ref u10)) (by rw [e64]; exact Ar65.1) (State.isArrayOf_alike hZ.alike Ar65.2.1) rfl Ar65.2.2 hin65 hat65 (g := (mkF m 21 #[.val (.ref eDENY), .val .null, .val (.ref r43), .val (.int (18 : Int32)), .val (.int (10 : Int32)), .val (.ref u9)] [(.int (10 : Int32)), (.ref r43)])) rfl rfl (hb hby d1_21) _ ww) ?_
  show own_Goes _ _ _ _ _ _ _ (T64.setTop (mkF m 22 #[.val (.ref eDENY), .val .null, .val (.ref r43), .val (.int (18 : Int32)), .val (.int (10 : Int32)), .val (.ref u9)] [(.ref u10)]))
  refine own_go (fun _ ww => XS.astore X64.here hx rfl (hb hby d1_22) rfl rfl (l' := #[.val (.ref eDENY), .val .null, .val (.ref r43), .val (.int (18 : Int32)), .val (.int (10 : Int32)), .val (.ref u10)]) rfl ww) ?_
  show own_Goes _ _ _ _ _ _ _ (T64.setTop (mkF m 24 #[.val (.ref eDENY), .val .null, .val (.ref r43), .val (.int (18 : Int32)), .val (.int (10 : Int32)), .val (.ref u10)] []))
  refine own_go (fun _ ww => XS.aload X64.here hx rfl (hb hby d1_24) rfl rfl ww) ?_
  show own_Goes _ _ _ _ _ _ _ (T64.setTop (mkF m 26 #[.val (.ref eDENY), .val .null, .val (.ref r43), .val (.int (18 : Int32)), .val (.int (10 : Int32)), .val (.ref u10)] [(.ref u10)]))
  obtain ⟨T66, X66, e66, st66⟩ := getF X64 hx hZ hown (host := "") (Or.inl (hw _ (List.mem_of_getElem? (i := 42) rfl))) Via.refl e64 (F10.ext O43.2) (g := (mkF m 26 #[.val (.ref eDENY), .val .null, .val (.ref r43), .val (.int (18 : Int32)), .val (.int (10 : Int32)), .val (.ref u10)] [(.ref u10)])) rfl rfl (hb hby d1_26)
  refine own_go st66 ?_
  show own_Goes _ _ _ _ _ _ _ (T66.setTop (mkF m 29 #[.val (.ref eDENY), .val .null, .val (.ref r43), .val (.int (18 : Int32)), .val (.int (10 : Int32)), .val (.ref u10)] [.null]))
  refine own_go (fun _ ww => XS.aloadN X66.here hx rfl (hb hby d1_29) rfl rfl ww) ?_
  show own_Goes _ _ _ _ _ _ _ (T66.setTop (mkF m 30 #[.val (.ref eDENY), .val .null, .val (.ref r43), .val (.int (18 : Int32)), .val (.int (10 : Int32)), .val (.ref u10)] [(.ref eDENY), .null]))
  refine own_go (fun _ ww => XT.acmpYes X66.here hx rfl (pc0 := 30) (pc' := 36) rfl (hb hby d1_30) rfl rfl rfl (XT.aa_ne_t (by simp)) (by decide) (by decide) ww) ?_
  show own_Goes _ _ _ _ _ _ _ (T66.setTop (mkF m 36 #[.val (.ref eDENY), .val .null, .val (.ref r43), .val (.int (18 : Int32)), .val (.int (10 : Int32)), .val (.ref u10)] []))
  refine own_go (fun _ ww => XS.iinc X66.here hx rfl (hb hby d1_36) rfl (l' := #[.val (.ref eDENY), .val .null, .val (.ref r43), .val (.int (18 : Int32)), .val (.int (11 : Int32)), .val (.ref u10)]) rfl ww) ?_
  show own_Goes _ _ _ _ _ _ _ (T66.setTop (mkF m 39 #[.val (.ref eDENY), .val .null, .val (.ref r43), .val (.int (18 : Int32)), .val (.int (11 : Int32)), .val (.ref u10)] []))
  refine own_go (fun _ ww => XS.goto X66.here hx rfl (pc0 := 39) (pc' := 12) rfl (hb hby d1_39) (by decide) (by decide) ww) ?_
  show own_Goes _ _ _ _ _ _ _ (T66.setTop (mkF m 12 #[.val (.ref eDENY), .val .null, .val (.ref r43), .val (.int (18 : Int32)), .val (.int (11 : Int32)), .val (.ref u10)] []))
  refine own_go (fun _ ww => XS.iload X66.here hx rfl (hb hby d1_12) rfl  ww) ?_
  show own_Goes _ _ _ _ _ _ _ (T66.setTop (mkF m 14 #[.val (.ref eDENY), .val .null, .val (.ref r43), .val (.int (18 : Int32)), .val (.int (11 : Int32)), .val (.ref u10)] [(.int (11 : Int32))]))
  refine own_go (fun _ ww => XS.iloadN X66.here hx rfl (hb hby d1_14) rfl  ww) ?_
  show own_Goes _ _ _ _ _ _ _ (T66.setTop (mkF m 15 #[.val (.ref eDENY), .val .null, .val (.ref r43), .val (.int (18 : Int32)), .val (.int (11 : Int32)), .val (.ref u10)] [(.int (18 : Int32)), (.int (11 : Int32))]))
  refine own_go (fun _ ww => XS.icmpNo X66.here hx rfl (hb hby d1_15) rfl (tlt (by decide : (11 : Int32) < (18 : Int32))).2.1 ww) ?_
  show own_Goes _ _ _ _ _ _ _ (T66.setTop (mkF m 18 #[.val (.ref eDENY), .val .null, .val (.ref r43), .val (.int (18 : Int32)), .val (.int (11 : Int32)), .val (.ref u10)] []))
  refine own_go (fun _ ww => XS.aloadN X66.here hx rfl (hb hby d1_18) rfl rfl ww) ?_
  show own_Goes _ _ _ _ _ _ _ (T66.setTop (mkF m 19 #[.val (.ref eDENY), .val .null, .val (.ref r43), .val (.int (18 : Int32)), .val (.int (11 : Int32)), .val (.ref u10)] [(.ref r43)]))
  refine own_go (fun _ ww => XS.iload X66.here hx rfl (hb hby d1_19) rfl  ww) ?_
  show own_Goes _ _ _ _ _ _ _ (T66.setTop (mkF m 21 #[.val (.ref eDENY), .val .null, .val (.ref r43), .val (.int (18 : Int32)), .val (.int (11 : Int32)), .val (.ref u10)] [(.int (11 : Int32)), (.ref r43)]))
  obtain ⟨cl67, Ar67, -, S67, -, H67, -⟩ := id V43q
  have hin67 := inb_of (j := (11 : Int32)) S67 ⟨by decide, by decide⟩
  have hat67 : cl67.slots[((11 : Int32)).toNatClampNeg]? = some (.ref u11) := Has.at H67 hin67 rfl
  refine own_go (fun _ ww => X66.aaload hx (j := (11 : Int32)) (v := (.ref u11)) (by rw [e66]; exact Ar67.1) (State.isArrayOf_alike hZ.alike Ar67.2.1) rfl Ar67.2.2 hin67 hat67 (g := (mkF m 21 #[.val (.ref eDENY), .val .null, .val (.ref r43), .val (.int (18 : Int32)), .val (.int (11 : Int32)), .val (.ref u10)] [(.int (11 : Int32)), (.ref r43)])) rfl rfl (hb hby d1_21) _ ww) ?_
  show own_Goes _ _ _ _ _ _ _ (T66.setTop (mkF m 22 #[.val (.ref eDENY), .val .null, .val (.ref r43), .val (.int (18 : Int32)), .val (.int (11 : Int32)), .val (.ref u10)] [(.ref u11)]))
  refine own_go (fun _ ww => XS.astore X66.here hx rfl (hb hby d1_22) rfl rfl (l' := #[.val (.ref eDENY), .val .null, .val (.ref r43), .val (.int (18 : Int32)), .val (.int (11 : Int32)), .val (.ref u11)]) rfl ww) ?_
  show own_Goes _ _ _ _ _ _ _ (T66.setTop (mkF m 24 #[.val (.ref eDENY), .val .null, .val (.ref r43), .val (.int (18 : Int32)), .val (.int (11 : Int32)), .val (.ref u11)] []))
  refine own_go (fun _ ww => XS.aload X66.here hx rfl (hb hby d1_24) rfl rfl ww) ?_
  show own_Goes _ _ _ _ _ _ _ (T66.setTop (mkF m 26 #[.val (.ref eDENY), .val .null, .val (.ref r43), .val (.int (18 : Int32)), .val (.int (11 : Int32)), .val (.ref u11)] [(.ref u11)]))
  obtain ⟨T68, X68, e68, st68⟩ := getF X66 hx hZ hown (host := "") (Or.inl (hw _ (List.mem_of_getElem? (i := 42) rfl))) Via.refl e66 (F11.ext O43.2) (g := (mkF m 26 #[.val (.ref eDENY), .val .null, .val (.ref r43), .val (.int (18 : Int32)), .val (.int (11 : Int32)), .val (.ref u11)] [(.ref u11)])) rfl rfl (hb hby d1_26)
  refine own_go st68 ?_
  show own_Goes _ _ _ _ _ _ _ (T68.setTop (mkF m 29 #[.val (.ref eDENY), .val .null, .val (.ref r43), .val (.int (18 : Int32)), .val (.int (11 : Int32)), .val (.ref u11)] [(.ref eGRANT)]))
  refine own_go (fun _ ww => XS.aloadN X68.here hx rfl (hb hby d1_29) rfl rfl ww) ?_
  show own_Goes _ _ _ _ _ _ _ (T68.setTop (mkF m 30 #[.val (.ref eDENY), .val .null, .val (.ref r43), .val (.int (18 : Int32)), .val (.int (11 : Int32)), .val (.ref u11)] [(.ref eDENY), (.ref eGRANT)]))
  refine own_go (fun _ ww => XT.acmpYes X68.here hx rfl (pc0 := 30) (pc' := 36) rfl (hb hby d1_30) rfl rfl rfl (own_ane n01).2 (by decide) (by decide) ww) ?_
  show own_Goes _ _ _ _ _ _ _ (T68.setTop (mkF m 36 #[.val (.ref eDENY), .val .null, .val (.ref r43), .val (.int (18 : Int32)), .val (.int (11 : Int32)), .val (.ref u11)] []))
  refine own_go (fun _ ww => XS.iinc X68.here hx rfl (hb hby d1_36) rfl (l' := #[.val (.ref eDENY), .val .null, .val (.ref r43), .val (.int (18 : Int32)), .val (.int (12 : Int32)), .val (.ref u11)]) rfl ww) ?_
  show own_Goes _ _ _ _ _ _ _ (T68.setTop (mkF m 39 #[.val (.ref eDENY), .val .null, .val (.ref r43), .val (.int (18 : Int32)), .val (.int (12 : Int32)), .val (.ref u11)] []))
  refine own_go (fun _ ww => XS.goto X68.here hx rfl (pc0 := 39) (pc' := 12) rfl (hb hby d1_39) (by decide) (by decide) ww) ?_
  show own_Goes _ _ _ _ _ _ _ (T68.setTop (mkF m 12 #[.val (.ref eDENY), .val .null, .val (.ref r43), .val (.int (18 : Int32)), .val (.int (12 : Int32)), .val (.ref u11)] []))
  refine own_go (fun _ ww => XS.iload X68.here hx rfl (hb hby d1_12) rfl  ww) ?_
  show own_Goes _ _ _ _ _ _ _ (T68.setTop (mkF m 14 #[.val (.ref eDENY), .val .null, .val (.ref r43), .val (.int (18 : Int32)), .val (.int (12 : Int32)), .val (.ref u11)] [(.int (12 : Int32))]))
  refine own_go (fun _ ww => XS.iloadN X68.here hx rfl (hb hby d1_14) rfl  ww) ?_
  show own_Goes _ _ _ _ _ _ _ (T68.setTop (mkF m 15 #[.val (.ref eDENY), .val .null, .val (.ref r43), .val (.int (18 : Int32)), .val (.int (12 : Int32)), .val (.ref u11)] [(.int (18 : Int32)), (.int (12 : Int32))]))
  refine own_go (fun _ ww => XS.icmpNo X68.here hx rfl (hb hby d1_15) rfl (tlt (by decide : (12 : Int32) < (18 : Int32))).2.1 ww) ?_
  show own_Goes _ _ _ _ _ _ _ (T68.setTop (mkF m 18 #[.val (.ref eDENY), .val .null, .val (.ref r43), .val (.int (18 : Int32)), .val (.int (12 : Int32)), .val (.ref u11)] []))
  refine own_go (fun _ ww => XS.aloadN X68.here hx rfl (hb hby d1_18) rfl rfl ww) ?_
  show own_Goes _ _ _ _ _ _ _ (T68.setTop (mkF m 19 #[.val (.ref eDENY), .val .null, .val (.ref r43), .val (.int (18 : Int32)), .val (.int (12 : Int32)), .val (.ref u11)] [(.ref r43)]))
  refine own_go (fun _ ww => XS.iload X68.here hx rfl (hb hby d1_19) rfl  ww) ?_
  show own_Goes _ _ _ _ _ _ _ (T68.setTop (mkF m 21 #[.val (.ref eDENY), .val .null, .val (.ref r43), .val (.int (18 : Int32)), .val (.int (12 : Int32)), .val (.ref u11)] [(.int (12 : Int32)), (.ref r43)]))
  obtain ⟨cl69, Ar69, -, S69, -, H69, -⟩ := id V43q
  have hin69 := inb_of (j := (12 : Int32)) S69 ⟨by decide, by decide⟩
  have hat69 : cl69.slots[((12 : Int32)).toNatClampNeg]? = some (.ref u12) := Has.at H69 hin69 rfl
  refine own_go (fun _ ww => X68.aaload hx (j := (12 : Int32)) (v := (.ref u12)) (by rw [e68]; exact Ar69.1) (State.isArrayOf_alike hZ.alike Ar69.2.1) rfl Ar69.2.2 hin69 hat69 (g := (mkF m 21 #[.val (.ref eDENY), .val .null, .val (.ref r43), .val (.int (18 : Int32)), .val (.int (12 : Int32)), .val (.ref u11)] [(.int (12 : Int32)), (.ref r43)])) rfl rfl (hb hby d1_21) _ ww) ?_
  show own_Goes _ _ _ _ _ _ _ (T68.setTop (mkF m 22 #[.val (.ref eDENY), .val .null, .val (.ref r43), .val (.int (18 : Int32)), .val (.int (12 : Int32)), .val (.ref u11)] [(.ref u12)]))
  refine own_go (fun _ ww => XS.astore X68.here hx rfl (hb hby d1_22) rfl rfl (l' := #[.val (.ref eDENY), .val .null, .val (.ref r43), .val (.int (18 : Int32)), .val (.int (12 : Int32)), .val (.ref u12)]) rfl ww) ?_
  show own_Goes _ _ _ _ _ _ _ (T68.setTop (mkF m 24 #[.val (.ref eDENY), .val .null, .val (.ref r43), .val (.int (18 : Int32)), .val (.int (12 : Int32)), .val (.ref u12)] []))
  refine own_go (fun _ ww => XS.aload X68.here hx rfl (hb hby d1_24) rfl rfl ww) ?_
  show own_Goes _ _ _ _ _ _ _ (T68.setTop (mkF m 26 #[.val (.ref eDENY), .val .null, .val (.ref r43), .val (.int (18 : Int32)), .val (.int (12 : Int32)), .val (.ref u12)] [(.ref u12)]))
  obtain ⟨T70, X70, e70, st70⟩ := getF X68 hx hZ hown (host := "") (Or.inl (hw _ (List.mem_of_getElem? (i := 42) rfl))) Via.refl e68 (F12.ext O43.2) (g := (mkF m 26 #[.val (.ref eDENY), .val .null, .val (.ref r43), .val (.int (18 : Int32)), .val (.int (12 : Int32)), .val (.ref u12)] [(.ref u12)])) rfl rfl (hb hby d1_26)
  refine own_go st70 ?_
  show own_Goes _ _ _ _ _ _ _ (T70.setTop (mkF m 29 #[.val (.ref eDENY), .val .null, .val (.ref r43), .val (.int (18 : Int32)), .val (.int (12 : Int32)), .val (.ref u12)] [(.ref eDENY)]))
  refine own_go (fun _ ww => XS.aloadN X70.here hx rfl (hb hby d1_29) rfl rfl ww) ?_
  show own_Goes _ _ _ _ _ _ _ (T70.setTop (mkF m 30 #[.val (.ref eDENY), .val .null, .val (.ref r43), .val (.int (18 : Int32)), .val (.int (12 : Int32)), .val (.ref u12)] [(.ref eDENY), (.ref eDENY)]))
  refine own_go (fun _ ww => XT.acmpNo X70.here hx rfl (hb hby d1_30) rfl rfl rfl (own_aeq (rfl : eDENY = eDENY)).2 ww) ?_
  show own_Goes _ _ _ _ _ _ _ (T70.setTop (mkF m 33 #[.val (.ref eDENY), .val .null, .val (.ref r43), .val (.int (18 : Int32)), .val (.int (12 : Int32)), .val (.ref u12)] []))
  refine own_go (fun _ ww => XS.aload X70.here hx rfl (hb hby d1_33) rfl rfl ww) ?_
  show own_Goes _ _ _ _ _ _ _ (T70.setTop (mkF m 35 #[.val (.ref eDENY), .val .null, .val (.ref r43), .val (.int (18 : Int32)), .val (.int (12 : Int32)), .val (.ref u12)] [(.ref u12)]))
  refine own_go (fun _ ww => XS.astoreN X70.here hx rfl (hb hby d1_35) rfl rfl (l' := #[.val (.ref eDENY), .val (.ref u12), .val (.ref r43), .val (.int (18 : Int32)), .val (.int (12 : Int32)), .val (.ref u12)]) rfl ww) ?_
  show own_Goes _ _ _ _ _ _ _ (T70.setTop (mkF m 36 #[.val (.ref eDENY), .val (.ref u12), .val (.ref r43), .val (.int (18 : Int32)), .val (.int (12 : Int32)), .val (.ref u12)] []))
  refine own_go (fun _ ww => XS.iinc X70.here hx rfl (hb hby d1_36) rfl (l' := #[.val (.ref eDENY), .val (.ref u12), .val (.ref r43), .val (.int (18 : Int32)), .val (.int (13 : Int32)), .val (.ref u12)]) rfl ww) ?_
  show own_Goes _ _ _ _ _ _ _ (T70.setTop (mkF m 39 #[.val (.ref eDENY), .val (.ref u12), .val (.ref r43), .val (.int (18 : Int32)), .val (.int (13 : Int32)), .val (.ref u12)] []))
  refine own_go (fun _ ww => XS.goto X70.here hx rfl (pc0 := 39) (pc' := 12) rfl (hb hby d1_39) (by decide) (by decide) ww) ?_
  show own_Goes _ _ _ _ _ _ _ (T70.setTop (mkF m 12 #[.val (.ref eDENY), .val (.ref u12), .val (.ref r43), .val (.int (18 : Int32)), .val (.int (13 : Int32)), .val (.ref u12)] []))
  refine own_go (fun _ ww => XS.iload X70.here hx rfl (hb hby d1_12) rfl  ww) ?_
  show own_Goes _ _ _ _ _ _ _ (T70.setTop (mkF m 14 #[.val (.ref eDENY), .val (.ref u12), .val (.ref r43), .val (.int (18 : Int32)), .val (.int (13 : Int32)), .val (.ref u12)] [(.int (13 : Int32))]))
  refine own_go (fun _ ww => XS.iloadN X70.here hx rfl (hb hby d1_14) rfl  ww) ?_
  show own_Goes _ _ _ _ _ _ _ (T70.setTop (mkF m 15 #[.val (.ref eDENY), .val (.ref u12), .val (.ref r43), .val (.int (18 : Int32)), .val (.int (13 : Int32)), .val (.ref u12)] [(.int (18 : Int32)), (.int (13 : Int32))]))
  refine own_go (fun _ ww => XS.icmpNo X70.here hx rfl (hb hby d1_15) rfl (tlt (by decide : (13 : Int32) < (18 : Int32))).2.1 ww) ?_
  show own_Goes _ _ _ _ _ _ _ (T70.setTop (mkF m 18 #[.val (.ref eDENY), .val (.ref u12), .val (.ref r43), .val (.int (18 : Int32)), .val (.int (13 : Int32)), .val (.ref u12)] []))
  refine own_go (fun _ ww => XS.aloadN X70.here hx rfl (hb hby d1_18) rfl rfl ww) ?_
  show own_Goes _ _ _ _ _ _ _ (T70.setTop (mkF m 19 #[.val (.ref eDENY), .val (.ref u12), .val (.ref r43), .val (.int (18 : Int32)), .val (.int (13 : Int32)), .val (.ref u12)] [(.ref r43)]))
  refine own_go (fun _ ww => XS.iload X70.here hx rfl (hb hby d1_19) rfl  ww) ?_
  show own_Goes _ _ _ _ _ _ _ (T70.setTop (mkF m 21 #[.val (.ref eDENY), .val (.ref u12), .val (.ref r43), .val (.int (18 : Int32)), .val (.int (13 : Int32)), .val (.ref u12)] [(.int (13 : Int32)), (.ref r43)]))
  obtain ⟨cl71, Ar71, -, S71, -, H71, -⟩ := id V43q
  have hin71 := inb_of (j := (13 : Int32)) S71 ⟨by decide, by decide⟩
  have hat71 : cl71.slots[((13 : Int32)).toNatClampNeg]? = some (.ref u13) := Has.at H71 hin71 rfl
  refine own_go (fun _ ww => X70.aaload hx (j := (13 : Int32)) (v := (.ref u13)) (by rw [e70]; exact Ar71.1) (State.isArrayOf_alike hZ.alike Ar71.2.1) rfl Ar71.2.2 hin71 hat71 (g := (mkF m 21 #[.val (.ref eDENY), .val (.ref u12), .val (.ref r43), .val (.int (18 : Int32)), .val (.int (13 : Int32)), .val (.ref u12)] [(.int (13 : Int32)), (.ref r43)])) rfl rfl (hb hby d1_21) _ ww) ?_
  show own_Goes _ _ _ _ _ _ _ (T70.setTop (mkF m 22 #[.val (.ref eDENY), .val (.ref u12), .val (.ref r43), .val (.int (18 : Int32)), .val (.int (13 : Int32)), .val (.ref u12)] [(.ref u13)]))
  refine own_go (fun _ ww => XS.astore X70.here hx rfl (hb hby d1_22) rfl rfl (l' := #[.val (.ref eDENY), .val (.ref u12), .val (.ref r43), .val (.int (18 : Int32)), .val (.int (13 : Int32)), .val (.ref u13)]) rfl ww) ?_
  show own_Goes _ _ _ _ _ _ _ (T70.setTop (mkF m 24 #[.val (.ref eDENY), .val (.ref u12), .val (.ref r43), .val (.int (18 : Int32)), .val (.int (13 : Int32)), .val (.ref u13)] []))
  refine own_go (fun _ ww => XS.aload X70.here hx rfl (hb hby d1_24) rfl rfl ww) ?_
  show own_Goes _ _ _ _ _ _ _ (T70.setTop (mkF m 26 #[.val (.ref eDENY), .val (.ref u12), .val (.ref r43), .val (.int (18 : Int32)), .val (.int (13 : Int32)), .val (.ref u13)] [(.ref u13)]))
  obtain ⟨T72, X72, e72, st72⟩ := getF X70 hx hZ hown (host := "") (Or.inl (hw _ (List.mem_of_getElem? (i := 42) rfl))) Via.refl e70 (F13.ext O43.2) (g := (mkF m 26 #[.val (.ref eDENY), .val (.ref u12), .val (.ref r43), .val (.int (18 : Int32)), .val (.int (13 : Int32)), .val (.ref u13)] [(.ref u13)])) rfl rfl (hb hby d1_26)
  refine own_go st72 ?_
  show own_Goes _ _ _ _ _ _ _ (T72.setTop (mkF m 29 #[.val (.ref eDENY), .val (.ref u12), .val (.ref r43), .val (.int (18 : Int32)), .val (.int (13 : Int32)), .val (.ref u13)] [(.ref eFORBID)]))
  refine own_go (fun _ ww => XS.aloadN X72.here hx rfl (hb hby d1_29) rfl rfl ww) ?_
  show own_Goes _ _ _ _ _ _ _ (T72.setTop (mkF m 30 #[.val (.ref eDENY), .val (.ref u12), .val (.ref r43), .val (.int (18 : Int32)), .val (.int (13 : Int32)), .val (.ref u13)] [(.ref eDENY), (.ref eFORBID)]))
  refine own_go (fun _ ww => XT.acmpYes X72.here hx rfl (pc0 := 30) (pc' := 36) rfl (hb hby d1_30) rfl rfl rfl (own_ane (Ne.symm n12)).2 (by decide) (by decide) ww) ?_
  show own_Goes _ _ _ _ _ _ _ (T72.setTop (mkF m 36 #[.val (.ref eDENY), .val (.ref u12), .val (.ref r43), .val (.int (18 : Int32)), .val (.int (13 : Int32)), .val (.ref u13)] []))
  refine own_go (fun _ ww => XS.iinc X72.here hx rfl (hb hby d1_36) rfl (l' := #[.val (.ref eDENY), .val (.ref u12), .val (.ref r43), .val (.int (18 : Int32)), .val (.int (14 : Int32)), .val (.ref u13)]) rfl ww) ?_
  show own_Goes _ _ _ _ _ _ _ (T72.setTop (mkF m 39 #[.val (.ref eDENY), .val (.ref u12), .val (.ref r43), .val (.int (18 : Int32)), .val (.int (14 : Int32)), .val (.ref u13)] []))
  refine own_go (fun _ ww => XS.goto X72.here hx rfl (pc0 := 39) (pc' := 12) rfl (hb hby d1_39) (by decide) (by decide) ww) ?_
  show own_Goes _ _ _ _ _ _ _ (T72.setTop (mkF m 12 #[.val (.ref eDENY), .val (.ref u12), .val (.ref r43), .val (.int (18 : Int32)), .val (.int (14 : Int32)), .val (.ref u13)] []))
  refine own_go (fun _ ww => XS.iload X72.here hx rfl (hb hby d1_12) rfl  ww) ?_
  show own_Goes _ _ _ _ _ _ _ (T72.setTop (mkF m 14 #[.val (.ref eDENY), .val (.ref u12), .val (.ref r43), .val (.int (18 : Int32)), .val (.int (14 : Int32)), .val (.ref u13)] [(.int (14 : Int32))]))
  refine own_go (fun _ ww => XS.iloadN X72.here hx rfl (hb hby d1_14) rfl  ww) ?_
  show own_Goes _ _ _ _ _ _ _ (T72.setTop (mkF m 15 #[.val (.ref eDENY), .val (.ref u12), .val (.ref r43), .val (.int (18 : Int32)), .val (.int (14 : Int32)), .val (.ref u13)] [(.int (18 : Int32)), (.int (14 : Int32))]))
  refine own_go (fun _ ww => XS.icmpNo X72.here hx rfl (hb hby d1_15) rfl (tlt (by decide : (14 : Int32) < (18 : Int32))).2.1 ww) ?_
  show own_Goes _ _ _ _ _ _ _ (T72.setTop (mkF m 18 #[.val (.ref eDENY), .val (.ref u12), .val (.ref r43), .val (.int (18 : Int32)), .val (.int (14 : Int32)), .val (.ref u13)] []))
  refine own_go (fun _ ww => XS.aloadN X72.here hx rfl (hb hby d1_18) rfl rfl ww) ?_
  show own_Goes _ _ _ _ _ _ _ (T72.setTop (mkF m 19 #[.val (.ref eDENY), .val (.ref u12), .val (.ref r43), .val (.int (18 : Int32)), .val (.int (14 : Int32)), .val (.ref u13)] [(.ref r43)]))
  refine own_go (fun _ ww => XS.iload X72.here hx rfl (hb hby d1_19) rfl  ww) ?_
  show own_Goes _ _ _ _ _ _ _ (T72.setTop (mkF m 21 #[.val (.ref eDENY), .val (.ref u12), .val (.ref r43), .val (.int (18 : Int32)), .val (.int (14 : Int32)), .val (.ref u13)] [(.int (14 : Int32)), (.ref r43)]))
  obtain ⟨cl73, Ar73, -, S73, -, H73, -⟩ := id V43q
  have hin73 := inb_of (j := (14 : Int32)) S73 ⟨by decide, by decide⟩
  have hat73 : cl73.slots[((14 : Int32)).toNatClampNeg]? = some (.ref u14) := Has.at H73 hin73 rfl
  refine own_go (fun _ ww => X72.aaload hx (j := (14 : Int32)) (v := (.ref u14)) (by rw [e72]; exact Ar73.1) (State.isArrayOf_alike hZ.alike Ar73.2.1) rfl Ar73.2.2 hin73 hat73 (g := (mkF m 21 #[.val (.ref eDENY), .val (.ref u12), .val (.ref r43), .val (.int (18 : Int32)), .val (.int (14 : Int32)), .val (.ref u13)] [(.int (14 : Int32)), (.ref r43)])) rfl rfl (hb hby d1_21) _ ww) ?_
  show own_Goes _ _ _ _ _ _ _ (T72.setTop (mkF m 22 #[.val (.ref eDENY), .val (.ref u12), .val (.ref r43), .val (.int (18 : Int32)), .val (.int (14 : Int32)), .val (.ref u13)] [(.ref u14)]))
  refine own_go (fun _ ww => XS.astore X72.here hx rfl (hb hby d1_22) rfl rfl (l' := #[.val (.ref eDENY), .val (.ref u12), .val (.ref r43), .val (.int (18 : Int32)), .val (.int (14 : Int32)), .val (.ref u14)]) rfl ww) ?_
  show own_Goes _ _ _ _ _ _ _ (T72.setTop (mkF m 24 #[.val (.ref eDENY), .val (.ref u12), .val (.ref r43), .val (.int (18 : Int32)), .val (.int (14 : Int32)), .val (.ref u14)] []))
  refine own_go (fun _ ww => XS.aload X72.here hx rfl (hb hby d1_24) rfl rfl ww) ?_
  show own_Goes _ _ _ _ _ _ _ (T72.setTop (mkF m 26 #[.val (.ref eDENY), .val (.ref u12), .val (.ref r43), .val (.int (18 : Int32)), .val (.int (14 : Int32)), .val (.ref u14)] [(.ref u14)]))
  obtain ⟨T74, X74, e74, st74⟩ := getF X72 hx hZ hown (host := "") (Or.inl (hw _ (List.mem_of_getElem? (i := 42) rfl))) Via.refl e72 (F14.ext O43.2) (g := (mkF m 26 #[.val (.ref eDENY), .val (.ref u12), .val (.ref r43), .val (.int (18 : Int32)), .val (.int (14 : Int32)), .val (.ref u14)] [(.ref u14)])) rfl rfl (hb hby d1_26)
  refine own_go st74 ?_
  show own_Goes _ _ _ _ _ _ _ (T74.setTop (mkF m 29 #[.val (.ref eDENY), .val (.ref u12), .val (.ref r43), .val (.int (18 : Int32)), .val (.int (14 : Int32)), .val (.ref u14)] [.null]))
  refine own_go (fun _ ww => XS.aloadN X74.here hx rfl (hb hby d1_29) rfl rfl ww) ?_
  show own_Goes _ _ _ _ _ _ _ (T74.setTop (mkF m 30 #[.val (.ref eDENY), .val (.ref u12), .val (.ref r43), .val (.int (18 : Int32)), .val (.int (14 : Int32)), .val (.ref u14)] [(.ref eDENY), .null]))
  refine own_go (fun _ ww => XT.acmpYes X74.here hx rfl (pc0 := 30) (pc' := 36) rfl (hb hby d1_30) rfl rfl rfl (XT.aa_ne_t (by simp)) (by decide) (by decide) ww) ?_
  show own_Goes _ _ _ _ _ _ _ (T74.setTop (mkF m 36 #[.val (.ref eDENY), .val (.ref u12), .val (.ref r43), .val (.int (18 : Int32)), .val (.int (14 : Int32)), .val (.ref u14)] []))
  refine own_go (fun _ ww => XS.iinc X74.here hx rfl (hb hby d1_36) rfl (l' := #[.val (.ref eDENY), .val (.ref u12), .val (.ref r43), .val (.int (18 : Int32)), .val (.int (15 : Int32)), .val (.ref u14)]) rfl ww) ?_
  show own_Goes _ _ _ _ _ _ _ (T74.setTop (mkF m 39 #[.val (.ref eDENY), .val (.ref u12), .val (.ref r43), .val (.int (18 : Int32)), .val (.int (15 : Int32)), .val (.ref u14)] []))
  refine own_go (fun _ ww => XS.goto X74.here hx rfl (pc0 := 39) (pc' := 12) rfl (hb hby d1_39) (by decide) (by decide) ww) ?_
  show own_Goes _ _ _ _ _ _ _ (T74.setTop (mkF m 12 #[.val (.ref eDENY), .val (.ref u12), .val (.ref r43), .val (.int (18 : Int32)), .val (.int (15 : Int32)), .val (.ref u14)] []))
  refine own_go (fun _ ww => XS.iload X74.here hx rfl (hb hby d1_12) rfl  ww) ?_
  show own_Goes _ _ _ _ _ _ _ (T74.setTop (mkF m 14 #[.val (.ref eDENY), .val (.ref u12), .val (.ref r43), .val (.int (18 : Int32)), .val (.int (15 : Int32)), .val (.ref u14)] [(.int (15 : Int32))]))
  refine own_go (fun _ ww => XS.iloadN X74.here hx rfl (hb hby d1_14) rfl  ww) ?_
  show own_Goes _ _ _ _ _ _ _ (T74.setTop (mkF m 15 #[.val (.ref eDENY), .val (.ref u12), .val (.ref r43), .val (.int (18 : Int32)), .val (.int (15 : Int32)), .val (.ref u14)] [(.int (18 : Int32)), (.int (15 : Int32))]))
  refine own_go (fun _ ww => XS.icmpNo X74.here hx rfl (hb hby d1_15) rfl (tlt (by decide : (15 : Int32) < (18 : Int32))).2.1 ww) ?_
  show own_Goes _ _ _ _ _ _ _ (T74.setTop (mkF m 18 #[.val (.ref eDENY), .val (.ref u12), .val (.ref r43), .val (.int (18 : Int32)), .val (.int (15 : Int32)), .val (.ref u14)] []))
  refine own_go (fun _ ww => XS.aloadN X74.here hx rfl (hb hby d1_18) rfl rfl ww) ?_
  show own_Goes _ _ _ _ _ _ _ (T74.setTop (mkF m 19 #[.val (.ref eDENY), .val (.ref u12), .val (.ref r43), .val (.int (18 : Int32)), .val (.int (15 : Int32)), .val (.ref u14)] [(.ref r43)]))
  refine own_go (fun _ ww => XS.iload X74.here hx rfl (hb hby d1_19) rfl  ww) ?_
  show own_Goes _ _ _ _ _ _ _ (T74.setTop (mkF m 21 #[.val (.ref eDENY), .val (.ref u12), .val (.ref r43), .val (.int (18 : Int32)), .val (.int (15 : Int32)), .val (.ref u14)] [(.int (15 : Int32)), (.ref r43)]))
  obtain ⟨cl75, Ar75, -, S75, -, H75, -⟩ := id V43q
  have hin75 := inb_of (j := (15 : Int32)) S75 ⟨by decide, by decide⟩
  have hat75 : cl75.slots[((15 : Int32)).toNatClampNeg]? = some (.ref u15) := Has.at H75 hin75 rfl
  refine own_go (fun _ ww => X74.aaload hx (j := (15 : Int32)) (v := (.ref u15)) (by rw [e74]; exact Ar75.1) (State.isArrayOf_alike hZ.alike Ar75.2.1) rfl Ar75.2.2 hin75 hat75 (g := (mkF m 21 #[.val (.ref eDENY), .val (.ref u12), .val (.ref r43), .val (.int (18 : Int32)), .val (.int (15 : Int32)), .val (.ref u14)] [(.int (15 : Int32)), (.ref r43)])) rfl rfl (hb hby d1_21) _ ww) ?_
  show own_Goes _ _ _ _ _ _ _ (T74.setTop (mkF m 22 #[.val (.ref eDENY), .val (.ref u12), .val (.ref r43), .val (.int (18 : Int32)), .val (.int (15 : Int32)), .val (.ref u14)] [(.ref u15)]))
  refine own_go (fun _ ww => XS.astore X74.here hx rfl (hb hby d1_22) rfl rfl (l' := #[.val (.ref eDENY), .val (.ref u12), .val (.ref r43), .val (.int (18 : Int32)), .val (.int (15 : Int32)), .val (.ref u15)]) rfl ww) ?_
  show own_Goes _ _ _ _ _ _ _ (T74.setTop (mkF m 24 #[.val (.ref eDENY), .val (.ref u12), .val (.ref r43), .val (.int (18 : Int32)), .val (.int (15 : Int32)), .val (.ref u15)] []))
  refine own_go (fun _ ww => XS.aload X74.here hx rfl (hb hby d1_24) rfl rfl ww) ?_
  show own_Goes _ _ _ _ _ _ _ (T74.setTop (mkF m 26 #[.val (.ref eDENY), .val (.ref u12), .val (.ref r43), .val (.int (18 : Int32)), .val (.int (15 : Int32)), .val (.ref u15)] [(.ref u15)]))
  obtain ⟨T76, X76, e76, st76⟩ := getF X74 hx hZ hown (host := "") (Or.inl (hw _ (List.mem_of_getElem? (i := 42) rfl))) Via.refl e74 (F15.ext O43.2) (g := (mkF m 26 #[.val (.ref eDENY), .val (.ref u12), .val (.ref r43), .val (.int (18 : Int32)), .val (.int (15 : Int32)), .val (.ref u15)] [(.ref u15)])) rfl rfl (hb hby d1_26)
  refine own_go st76 ?_
  show own_Goes _ _ _ _ _ _ _ (T76.setTop (mkF m 29 #[.val (.ref eDENY), .val (.ref u12), .val (.ref r43), .val (.int (18 : Int32)), .val (.int (15 : Int32)), .val (.ref u15)] [.null]))
  refine own_go (fun _ ww => XS.aloadN X76.here hx rfl (hb hby d1_29) rfl rfl ww) ?_
  show own_Goes _ _ _ _ _ _ _ (T76.setTop (mkF m 30 #[.val (.ref eDENY), .val (.ref u12), .val (.ref r43), .val (.int (18 : Int32)), .val (.int (15 : Int32)), .val (.ref u15)] [(.ref eDENY), .null]))
  refine own_go (fun _ ww => XT.acmpYes X76.here hx rfl (pc0 := 30) (pc' := 36) rfl (hb hby d1_30) rfl rfl rfl (XT.aa_ne_t (by simp)) (by decide) (by decide) ww) ?_
  show own_Goes _ _ _ _ _ _ _ (T76.setTop (mkF m 36 #[.val (.ref eDENY), .val (.ref u12), .val (.ref r43), .val (.int (18 : Int32)), .val (.int (15 : Int32)), .val (.ref u15)] []))
  refine own_go (fun _ ww => XS.iinc X76.here hx rfl (hb hby d1_36) rfl (l' := #[.val (.ref eDENY), .val (.ref u12), .val (.ref r43), .val (.int (18 : Int32)), .val (.int (16 : Int32)), .val (.ref u15)]) rfl ww) ?_
  show own_Goes _ _ _ _ _ _ _ (T76.setTop (mkF m 39 #[.val (.ref eDENY), .val (.ref u12), .val (.ref r43), .val (.int (18 : Int32)), .val (.int (16 : Int32)), .val (.ref u15)] []))
  refine own_go (fun _ ww => XS.goto X76.here hx rfl (pc0 := 39) (pc' := 12) rfl (hb hby d1_39) (by decide) (by decide) ww) ?_
  show own_Goes _ _ _ _ _ _ _ (T76.setTop (mkF m 12 #[.val (.ref eDENY), .val (.ref u12), .val (.ref r43), .val (.int (18 : Int32)), .val (.int (16 : Int32)), .val (.ref u15)] []))
  refine own_go (fun _ ww => XS.iload X76.here hx rfl (hb hby d1_12) rfl  ww) ?_
  show own_Goes _ _ _ _ _ _ _ (T76.setTop (mkF m 14 #[.val (.ref eDENY), .val (.ref u12), .val (.ref r43), .val (.int (18 : Int32)), .val (.int (16 : Int32)), .val (.ref u15)] [(.int (16 : Int32))]))
  refine own_go (fun _ ww => XS.iloadN X76.here hx rfl (hb hby d1_14) rfl  ww) ?_
  show own_Goes _ _ _ _ _ _ _ (T76.setTop (mkF m 15 #[.val (.ref eDENY), .val (.ref u12), .val (.ref r43), .val (.int (18 : Int32)), .val (.int (16 : Int32)), .val (.ref u15)] [(.int (18 : Int32)), (.int (16 : Int32))]))
  refine own_go (fun _ ww => XS.icmpNo X76.here hx rfl (hb hby d1_15) rfl (tlt (by decide : (16 : Int32) < (18 : Int32))).2.1 ww) ?_
  show own_Goes _ _ _ _ _ _ _ (T76.setTop (mkF m 18 #[.val (.ref eDENY), .val (.ref u12), .val (.ref r43), .val (.int (18 : Int32)), .val (.int (16 : Int32)), .val (.ref u15)] []))
  refine own_go (fun _ ww => XS.aloadN X76.here hx rfl (hb hby d1_18) rfl rfl ww) ?_
  show own_Goes _ _ _ _ _ _ _ (T76.setTop (mkF m 19 #[.val (.ref eDENY), .val (.ref u12), .val (.ref r43), .val (.int (18 : Int32)), .val (.int (16 : Int32)), .val (.ref u15)] [(.ref r43)]))
  refine own_go (fun _ ww => XS.iload X76.here hx rfl (hb hby d1_19) rfl  ww) ?_
  show own_Goes _ _ _ _ _ _ _ (T76.setTop (mkF m 21 #[.val (.ref eDENY), .val (.ref u12), .val (.ref r43), .val (.int (18 : Int32)), .val (.int (16 : Int32)), .val (.ref u15)] [(.int (16 : Int32)), (.ref r43)]))
  obtain ⟨cl77, Ar77, -, S77, -, H77, -⟩ := id V43q
  have hin77 := inb_of (j := (16 : Int32)) S77 ⟨by decide, by decide⟩
  have hat77 : cl77.slots[((16 : Int32)).toNatClampNeg]? = some (.ref u16) := Has.at H77 hin77 rfl
  refine own_go (fun _ ww => X76.aaload hx (j := (16 : Int32)) (v := (.ref u16)) (by rw [e76]; exact Ar77.1) (State.isArrayOf_alike hZ.alike Ar77.2.1) rfl Ar77.2.2 hin77 hat77 (g := (mkF m 21 #[.val (.ref eDENY), .val (.ref u12), .val (.ref r43), .val (.int (18 : Int32)), .val (.int (16 : Int32)), .val (.ref u15)] [(.int (16 : Int32)), (.ref r43)])) rfl rfl (hb hby d1_21) _ ww) ?_
  show own_Goes _ _ _ _ _ _ _ (T76.setTop (mkF m 22 #[.val (.ref eDENY), .val (.ref u12), .val (.ref r43), .val (.int (18 : Int32)), .val (.int (16 : Int32)), .val (.ref u15)] [(.ref u16)]))
  refine own_go (fun _ ww => XS.astore X76.here hx rfl (hb hby d1_22) rfl rfl (l' := #[.val (.ref eDENY), .val (.ref u12), .val (.ref r43), .val (.int (18 : Int32)), .val (.int (16 : Int32)), .val (.ref u16)]) rfl ww) ?_
  show own_Goes _ _ _ _ _ _ _ (T76.setTop (mkF m 24 #[.val (.ref eDENY), .val (.ref u12), .val (.ref r43), .val (.int (18 : Int32)), .val (.int (16 : Int32)), .val (.ref u16)] []))
  refine own_go (fun _ ww => XS.aload X76.here hx rfl (hb hby d1_24) rfl rfl ww) ?_
  show own_Goes _ _ _ _ _ _ _ (T76.setTop (mkF m 26 #[.val (.ref eDENY), .val (.ref u12), .val (.ref r43), .val (.int (18 : Int32)), .val (.int (16 : Int32)), .val (.ref u16)] [(.ref u16)]))
  obtain ⟨T78, X78, e78, st78⟩ := getF X76 hx hZ hown (host := "") (Or.inl (hw _ (List.mem_of_getElem? (i := 42) rfl))) Via.refl e76 (F16.ext O43.2) (g := (mkF m 26 #[.val (.ref eDENY), .val (.ref u12), .val (.ref r43), .val (.int (18 : Int32)), .val (.int (16 : Int32)), .val (.ref u16)] [(.ref u16)])) rfl rfl (hb hby d1_26)
  refine own_go st78 ?_
  show own_Goes _ _ _ _ _ _ _ (T78.setTop (mkF m 29 #[.val (.ref eDENY), .val (.ref u12), .val (.ref r43), .val (.int (18 : Int32)), .val (.int (16 : Int32)), .val (.ref u16)] [.null]))
  refine own_go (fun _ ww => XS.aloadN X78.here hx rfl (hb hby d1_29) rfl rfl ww) ?_
  show own_Goes _ _ _ _ _ _ _ (T78.setTop (mkF m 30 #[.val (.ref eDENY), .val (.ref u12), .val (.ref r43), .val (.int (18 : Int32)), .val (.int (16 : Int32)), .val (.ref u16)] [(.ref eDENY), .null]))
  refine own_go (fun _ ww => XT.acmpYes X78.here hx rfl (pc0 := 30) (pc' := 36) rfl (hb hby d1_30) rfl rfl rfl (XT.aa_ne_t (by simp)) (by decide) (by decide) ww) ?_
  show own_Goes _ _ _ _ _ _ _ (T78.setTop (mkF m 36 #[.val (.ref eDENY), .val (.ref u12), .val (.ref r43), .val (.int (18 : Int32)), .val (.int (16 : Int32)), .val (.ref u16)] []))
  refine own_go (fun _ ww => XS.iinc X78.here hx rfl (hb hby d1_36) rfl (l' := #[.val (.ref eDENY), .val (.ref u12), .val (.ref r43), .val (.int (18 : Int32)), .val (.int (17 : Int32)), .val (.ref u16)]) rfl ww) ?_
  show own_Goes _ _ _ _ _ _ _ (T78.setTop (mkF m 39 #[.val (.ref eDENY), .val (.ref u12), .val (.ref r43), .val (.int (18 : Int32)), .val (.int (17 : Int32)), .val (.ref u16)] []))
  refine own_go (fun _ ww => XS.goto X78.here hx rfl (pc0 := 39) (pc' := 12) rfl (hb hby d1_39) (by decide) (by decide) ww) ?_
  show own_Goes _ _ _ _ _ _ _ (T78.setTop (mkF m 12 #[.val (.ref eDENY), .val (.ref u12), .val (.ref r43), .val (.int (18 : Int32)), .val (.int (17 : Int32)), .val (.ref u16)] []))
  refine own_go (fun _ ww => XS.iload X78.here hx rfl (hb hby d1_12) rfl  ww) ?_
  show own_Goes _ _ _ _ _ _ _ (T78.setTop (mkF m 14 #[.val (.ref eDENY), .val (.ref u12), .val (.ref r43), .val (.int (18 : Int32)), .val (.int (17 : Int32)), .val (.ref u16)] [(.int (17 : Int32))]))
  refine own_go (fun _ ww => XS.iloadN X78.here hx rfl (hb hby d1_14) rfl  ww) ?_
  show own_Goes _ _ _ _ _ _ _ (T78.setTop (mkF m 15 #[.val (.ref eDENY), .val (.ref u12), .val (.ref r43), .val (.int (18 : Int32)), .val (.int (17 : Int32)), .val (.ref u16)] [(.int (18 : Int32)), (.int (17 : Int32))]))
  refine own_go (fun _ ww => XS.icmpNo X78.here hx rfl (hb hby d1_15) rfl (tlt (by decide : (17 : Int32) < (18 : Int32))).2.1 ww) ?_
  show own_Goes _ _ _ _ _ _ _ (T78.setTop (mkF m 18 #[.val (.ref eDENY), .val (.ref u12), .val (.ref r43), .val (.int (18 : Int32)), .val (.int (17 : Int32)), .val (.ref u16)] []))
  refine own_go (fun _ ww => XS.aloadN X78.here hx rfl (hb hby d1_18) rfl rfl ww) ?_
  show own_Goes _ _ _ _ _ _ _ (T78.setTop (mkF m 19 #[.val (.ref eDENY), .val (.ref u12), .val (.ref r43), .val (.int (18 : Int32)), .val (.int (17 : Int32)), .val (.ref u16)] [(.ref r43)]))
  refine own_go (fun _ ww => XS.iload X78.here hx rfl (hb hby d1_19) rfl  ww) ?_
  show own_Goes _ _ _ _ _ _ _ (T78.setTop (mkF m 21 #[.val (.ref eDENY), .val (.ref u12), .val (.ref r43), .val (.int (18 : Int32)), .val (.int (17 : Int32)), .val (.ref u16)] [(.int (17 : Int32)), (.ref r43)]))
  obtain ⟨cl79, Ar79, -, S79, -, H79, -⟩ := id V43q
  have hin79 := inb_of (j := (17 : Int32)) S79 ⟨by decide, by decide⟩
  have hat79 : cl79.slots[((17 : Int32)).toNatClampNeg]? = some (.ref u17) := Has.at H79 hin79 rfl
  refine own_go (fun _ ww => X78.aaload hx (j := (17 : Int32)) (v := (.ref u17)) (by rw [e78]; exact Ar79.1) (State.isArrayOf_alike hZ.alike Ar79.2.1) rfl Ar79.2.2 hin79 hat79 (g := (mkF m 21 #[.val (.ref eDENY), .val (.ref u12), .val (.ref r43), .val (.int (18 : Int32)), .val (.int (17 : Int32)), .val (.ref u16)] [(.int (17 : Int32)), (.ref r43)])) rfl rfl (hb hby d1_21) _ ww) ?_
  show own_Goes _ _ _ _ _ _ _ (T78.setTop (mkF m 22 #[.val (.ref eDENY), .val (.ref u12), .val (.ref r43), .val (.int (18 : Int32)), .val (.int (17 : Int32)), .val (.ref u16)] [(.ref u17)]))
  refine own_go (fun _ ww => XS.astore X78.here hx rfl (hb hby d1_22) rfl rfl (l' := #[.val (.ref eDENY), .val (.ref u12), .val (.ref r43), .val (.int (18 : Int32)), .val (.int (17 : Int32)), .val (.ref u17)]) rfl ww) ?_
  show own_Goes _ _ _ _ _ _ _ (T78.setTop (mkF m 24 #[.val (.ref eDENY), .val (.ref u12), .val (.ref r43), .val (.int (18 : Int32)), .val (.int (17 : Int32)), .val (.ref u17)] []))
  refine own_go (fun _ ww => XS.aload X78.here hx rfl (hb hby d1_24) rfl rfl ww) ?_
  show own_Goes _ _ _ _ _ _ _ (T78.setTop (mkF m 26 #[.val (.ref eDENY), .val (.ref u12), .val (.ref r43), .val (.int (18 : Int32)), .val (.int (17 : Int32)), .val (.ref u17)] [(.ref u17)]))
  obtain ⟨T80, X80, e80, st80⟩ := getF X78 hx hZ hown (host := "") (Or.inl (hw _ (List.mem_of_getElem? (i := 42) rfl))) Via.refl e78 (F17.ext O43.2) (g := (mkF m 26 #[.val (.ref eDENY), .val (.ref u12), .val (.ref r43), .val (.int (18 : Int32)), .val (.int (17 : Int32)), .val (.ref u17)] [(.ref u17)])) rfl rfl (hb hby d1_26)
  refine own_go st80 ?_
  show own_Goes _ _ _ _ _ _ _ (T80.setTop (mkF m 29 #[.val (.ref eDENY), .val (.ref u12), .val (.ref r43), .val (.int (18 : Int32)), .val (.int (17 : Int32)), .val (.ref u17)] [.null]))
  refine own_go (fun _ ww => XS.aloadN X80.here hx rfl (hb hby d1_29) rfl rfl ww) ?_
  show own_Goes _ _ _ _ _ _ _ (T80.setTop (mkF m 30 #[.val (.ref eDENY), .val (.ref u12), .val (.ref r43), .val (.int (18 : Int32)), .val (.int (17 : Int32)), .val (.ref u17)] [(.ref eDENY), .null]))
  refine own_go (fun _ ww => XT.acmpYes X80.here hx rfl (pc0 := 30) (pc' := 36) rfl (hb hby d1_30) rfl rfl rfl (XT.aa_ne_t (by simp)) (by decide) (by decide) ww) ?_
  show own_Goes _ _ _ _ _ _ _ (T80.setTop (mkF m 36 #[.val (.ref eDENY), .val (.ref u12), .val (.ref r43), .val (.int (18 : Int32)), .val (.int (17 : Int32)), .val (.ref u17)] []))
  refine own_go (fun _ ww => XS.iinc X80.here hx rfl (hb hby d1_36) rfl (l' := #[.val (.ref eDENY), .val (.ref u12), .val (.ref r43), .val (.int (18 : Int32)), .val (.int (18 : Int32)), .val (.ref u17)]) rfl ww) ?_
  show own_Goes _ _ _ _ _ _ _ (T80.setTop (mkF m 39 #[.val (.ref eDENY), .val (.ref u12), .val (.ref r43), .val (.int (18 : Int32)), .val (.int (18 : Int32)), .val (.ref u17)] []))
  refine own_go (fun _ ww => XS.goto X80.here hx rfl (pc0 := 39) (pc' := 12) rfl (hb hby d1_39) (by decide) (by decide) ww) ?_
  show own_Goes _ _ _ _ _ _ _ (T80.setTop (mkF m 12 #[.val (.ref eDENY), .val (.ref u12), .val (.ref r43), .val (.int (18 : Int32)), .val (.int (18 : Int32)), .val (.ref u17)] []))
  refine own_go (fun _ ww => XS.iload X80.here hx rfl (hb hby d1_12) rfl  ww) ?_
  show own_Goes _ _ _ _ _ _ _ (T80.setTop (mkF m 14 #[.val (.ref eDENY), .val (.ref u12), .val (.ref r43), .val (.int (18 : Int32)), .val (.int (18 : Int32)), .val (.ref u17)] [(.int (18 : Int32))]))
  refine own_go (fun _ ww => XS.iloadN X80.here hx rfl (hb hby d1_14) rfl  ww) ?_
  show own_Goes _ _ _ _ _ _ _ (T80.setTop (mkF m 15 #[.val (.ref eDENY), .val (.ref u12), .val (.ref r43), .val (.int (18 : Int32)), .val (.int (18 : Int32)), .val (.ref u17)] [(.int (18 : Int32)), (.int (18 : Int32))]))
  refine own_go (fun _ ww => XS.icmpYes X80.here hx rfl (pc0 := 15) (pc' := 42) rfl (hb hby d1_15) rfl (flt (by decide : ¬ ((18 : Int32) < (18 : Int32)))).2.1 (by decide) (by decide) ww) ?_
  show own_Goes _ _ _ _ _ _ _ (T80.setTop (mkF m 42 #[.val (.ref eDENY), .val (.ref u12), .val (.ref r43), .val (.int (18 : Int32)), .val (.int (18 : Int32)), .val (.ref u17)] []))
  refine own_go (fun _ ww => XS.aloadN X80.here hx rfl (hb hby d1_42) rfl rfl ww) ?_
  show own_Goes _ _ _ _ _ _ _ (T80.setTop (mkF m 43 #[.val (.ref eDENY), .val (.ref u12), .val (.ref r43), .val (.int (18 : Int32)), .val (.int (18 : Int32)), .val (.ref u17)] [(.ref u12)]))
  exact own_out X80 hlk (v := some (.ref u12)) (fun h => by rw [hret] at h; cases h) (fun fs hr => retOut X80 hx (t := (.object "com/example/role_rights/rolerights/policy/Statement")) hret rfl (Or.inr (Or.inr (Or.inr (Or.inr ⟨rfl, rfl, rfl⟩)))) (hb hby d1_43) hr) e80 ⟨0, rfl, N43, K43⟩ (by decide) (by decide)
theorem ef_effectDENY (m : MethodId) (a : Addr) (o : Addr) : entryFrame m #[(.ref a)] 1 = mkF m 0 #[.val (.ref a)] [] := by
  first | (simp [entryFrame, mkF, argsToLocals, Value.category]; done) | rfl
def Q_effectDENY (Z : State) (a : Addr) (o : Addr) (h0 : Heap) (n0 : Nat) (v : Option Value) (h : Heap) (L : List Loc) : Prop := v = some (.ref o) ∧ Fr n0 L ∧ h = h0
set_option maxRecDepth 65536 in
set_option maxHeartbeats 40000000 in
theorem rm_effectDENY (l : Launch) (Z : State) (a0 : Array Value) (hw : ∀ d ∈ tables_1, d.before a0 Z = true) (ws : List Jvm.Cond) (a : Addr) (o : Addr) (h0 : Heap) (n0 : Nat) (O0 : Old Z n0 h0) (Fa : Fld Z h0 a "com/example/role_rights/rolerights/policy/Statement" "effect" "Lcom/example/role_rights/rolerights/policy/Effect;" (.ref o)) :
    MetFree l (⟨"com/example/role_rights/rolerights/policy/Statement", "effect", "()Lcom/example/role_rights/rolerights/policy/Effect;"⟩ : MethodName) (head1 (Jvm.Cond.code (⟨"com/example/role_rights/rolerights/policy/Statement", "effect", "()Lcom/example/role_rights/rolerights/policy/Effect;"⟩ : MethodName) prog_50_method_13_code 1 (some (.object "com/example/role_rights/rolerights/policy/Effect")) :: ws) ({ frames := 0, cells := 0, slots := 0, locals := 0 } : Room)) (fun av_ U => av_ = #[(.ref a)] ∧ Z.Warmed39 U.vm ∧ U.heap = h0) (fun _ _ _ _ _ => True) (fun _ U o_ U' => ∃ v L, o_ = .returned v ∧ Q_effectDENY Z a o h0 n0 v U'.heap L ∧ FrameEnd U o_ U' L ({ frames := 0, cells := 0, slots := 0, locals := 0 } : Room).cells ({ frames := 0, cells := 0, slots := 0, locals := 0 } : Room).slots) := by
  refine MetFree.of_bodySF (plainFor_of_name pn_0) hisR ?_
  intro p e s m args below meth c s₁ Bd hml0 hP hK
  obtain ⟨rfl, hZ, hh⟩ := hP
  have hx := Bd.exec
  have hby := Bd.bytes
  have hml : c.maxLocals = 1 := hml0
  have hown : s.vm.findClass "com/example/role_rights/rolerights/policy/Statement" = some m.cls := findClass_of_methodNamed Bd.named
  have hnm := (name_of_methodNamed Bd.named Bd.method).1
  have hlk := own_lk Bd
  have hret := Bd.returns
  have X0 : Stand p l e ({ frames := 0, cells := 0, slots := 0, locals := 0 } : Room) s m #[(.ref a)] below meth c s₁ [] 0 0 := Stand.of_body Bd
  have e0 : s₁.heap = h0 := by rw [← hh, Bd.state]; rfl
  have N0 := Fr.nil n0
  show own_Goes p e below s (Q_effectDENY Z a o h0 n0) ({ frames := 0, cells := 0, slots := 0, locals := 0 } : Room).cells ({ frames := 0, cells := 0, slots := 0, locals := 0 } : Room).slots (s₁.setTop (entryFrame m #[(.ref a)] 1))
  refine own_go (fun _ ww => castTop (ef_effectDENY m a o) ww) ?_
  show own_Goes _ _ _ _ _ _ _ (s₁.setTop (mkF m 0 #[.val (.ref a)] []))
  refine own_go (fun _ ww => XS.aloadN X0.here hx rfl (hb hby d3_0) rfl rfl ww) ?_
  show own_Goes _ _ _ _ _ _ _ (s₁.setTop (mkF m 1 #[.val (.ref a)] [(.ref a)]))
  obtain ⟨T81, X81, e81, st81⟩ := getF X0 hx hZ hown (host := "") (Or.inl (hw _ (List.mem_of_getElem? (i := 42) rfl))) Via.refl e0 Fa (g := (mkF m 1 #[.val (.ref a)] [(.ref a)])) rfl rfl (hb hby d3_1)
  refine own_go st81 ?_
  show own_Goes _ _ _ _ _ _ _ (T81.setTop (mkF m 4 #[.val (.ref a)] [(.ref o)]))
  exact own_out X81 hlk (v := some (.ref o)) (fun h => by rw [hret] at h; cases h) (fun fs hr => retOut X81 hx (t := (.object "com/example/role_rights/rolerights/policy/Effect")) hret rfl (Or.inr (Or.inr (Or.inr (Or.inr ⟨rfl, rfl, rfl⟩)))) (hb hby d3_4) hr) e81 ⟨rfl, N0, rfl⟩ (by decide) (by decide)
theorem ef_statingFORBID (m : MethodId) (va : Addr) (kk : ClassId) (u0 : Addr) (u1 : Addr) (u2 : Addr) (u3 : Addr) (u4 : Addr) (u5 : Addr) (u6 : Addr) (u7 : Addr) (u8 : Addr) (u9 : Addr) (u10 : Addr) (u11 : Addr) (u12 : Addr) (u13 : Addr) (u14 : Addr) (u15 : Addr) (u16 : Addr) (u17 : Addr) (eGRANT : Addr) (eDENY : Addr) (eFORBID : Addr) : entryFrame m #[(.ref eFORBID)] 6 = mkF m 0 #[.val (.ref eFORBID), .unset, .unset, .unset, .unset, .unset] [] := by
  first | (simp [entryFrame, mkF, argsToLocals, Value.category]; done) | rfl
def Q_statingFORBID (Z : State) (va : Addr) (kk : ClassId) (u0 : Addr) (u1 : Addr) (u2 : Addr) (u3 : Addr) (u4 : Addr) (u5 : Addr) (u6 : Addr) (u7 : Addr) (u8 : Addr) (u9 : Addr) (u10 : Addr) (u11 : Addr) (u12 : Addr) (u13 : Addr) (u14 : Addr) (u15 : Addr) (u16 : Addr) (u17 : Addr) (eGRANT : Addr) (eDENY : Addr) (eFORBID : Addr) (h0 : Heap) (n0 : Nat) (v : Option Value) (h : Heap) (L : List Loc) : Prop := ∃ b : Addr, v = some (.ref u13) ∧ Fr n0 L ∧ Keep h0 h []
set_option maxRecDepth 65536 in
set_option maxHeartbeats 40000000 in
theorem rm_statingFORBID (l : Launch) (Z : State) (a0 : Array Value) (hw : ∀ d ∈ tables_1, d.before a0 Z = true) (ws : List Jvm.Cond) (va : Addr) (kk : ClassId) (u0 : Addr) (u1 : Addr) (u2 : Addr) (u3 : Addr) (u4 : Addr) (u5 : Addr) (u6 : Addr) (u7 : Addr) (u8 : Addr) (u9 : Addr) (u10 : Addr) (u11 : Addr) (u12 : Addr) (u13 : Addr) (u14 : Addr) (u15 : Addr) (u16 : Addr) (u17 : Addr) (eGRANT : Addr) (eDENY : Addr) (eFORBID : Addr) (h0 : Heap) (n0 : Nat) (O0 : Old Z n0 h0) (SV : Sta Z Z.heap "com/example/role_rights/rolerights/policy/Statement" "$VALUES" "[Lcom/example/role_rights/rolerights/policy/Statement;" (.ref va)) (AV : Arv Z Z.heap va kk (.object "com/example/role_rights/rolerights/policy/Statement") (18 : Int32) [(.ref u0), (.ref u1), (.ref u2), (.ref u3), (.ref u4), (.ref u5), (.ref u6), (.ref u7), (.ref u8), (.ref u9), (.ref u10), (.ref u11), (.ref u12), (.ref u13), (.ref u14), (.ref u15), (.ref u16), (.ref u17)] .null) (EV : Exa Z Z.heap va "[Lcom/example/role_rights/rolerights/policy/Statement;") (F0 : Fld Z Z.heap u0 "com/example/role_rights/rolerights/policy/Statement" "effect" "Lcom/example/role_rights/rolerights/policy/Effect;" .null) (F1 : Fld Z Z.heap u1 "com/example/role_rights/rolerights/policy/Statement" "effect" "Lcom/example/role_rights/rolerights/policy/Effect;" .null) (F2 : Fld Z Z.heap u2 "com/example/role_rights/rolerights/policy/Statement" "effect" "Lcom/example/role_rights/rolerights/policy/Effect;" .null) (F3 : Fld Z Z.heap u3 "com/example/role_rights/rolerights/policy/Statement" "effect" "Lcom/example/role_rights/rolerights/policy/Effect;" .null) (F4 : Fld Z Z.heap u4 "com/example/role_rights/rolerights/policy/Statement" "effect" "Lcom/example/role_rights/rolerights/policy/Effect;" .null) (F5 : Fld Z Z.heap u5 "com/example/role_rights/rolerights/policy/Statement" "effect" "Lcom/example/role_rights/rolerights/policy/Effect;" .null) (F6 : Fld Z Z.heap u6 "com/example/role_rights/rolerights/policy/Statement" "effect" "Lcom/example/role_rights/rolerights/policy/Effect;" .null) (F7 : Fld Z Z.heap u7 "com/example/role_rights/rolerights/policy/Statement" "effect" "Lcom/example/role_rights/rolerights/policy/Effect;" .null) (F8 : Fld Z Z.heap u8 "com/example/role_rights/rolerights/policy/Statement" "effect" "Lcom/example/role_rights/rolerights/policy/Effect;" .null) (F9 : Fld Z Z.heap u9 "com/example/role_rights/rolerights/policy/Statement" "effect" "Lcom/example/role_rights/rolerights/policy/Effect;" .null) (F10 : Fld Z Z.heap u10 "com/example/role_rights/rolerights/policy/Statement" "effect" "Lcom/example/role_rights/rolerights/policy/Effect;" .null) (F11 : Fld Z Z.heap u11 "com/example/role_rights/rolerights/policy/Statement" "effect" "Lcom/example/role_rights/rolerights/policy/Effect;" (.ref eGRANT)) (F12 : Fld Z Z.heap u12 "com/example/role_rights/rolerights/policy/Statement" "effect" "Lcom/example/role_rights/rolerights/policy/Effect;" (.ref eDENY)) (F13 : Fld Z Z.heap u13 "com/example/role_rights/rolerights/policy/Statement" "effect" "Lcom/example/role_rights/rolerights/policy/Effect;" (.ref eFORBID)) (F14 : Fld Z Z.heap u14 "com/example/role_rights/rolerights/policy/Statement" "effect" "Lcom/example/role_rights/rolerights/policy/Effect;" .null) (F15 : Fld Z Z.heap u15 "com/example/role_rights/rolerights/policy/Statement" "effect" "Lcom/example/role_rights/rolerights/policy/Effect;" .null) (F16 : Fld Z Z.heap u16 "com/example/role_rights/rolerights/policy/Statement" "effect" "Lcom/example/role_rights/rolerights/policy/Effect;" .null) (F17 : Fld Z Z.heap u17 "com/example/role_rights/rolerights/policy/Statement" "effect" "Lcom/example/role_rights/rolerights/policy/Effect;" .null) (n01 : eGRANT ≠ eDENY) (n02 : eGRANT ≠ eFORBID) (n12 : eDENY ≠ eFORBID) :
    MetFree l (⟨"com/example/role_rights/rolerights/policy/Statement", "stating", "(Lcom/example/role_rights/rolerights/policy/Effect;)Lcom/example/role_rights/rolerights/policy/Statement;"⟩ : MethodName) (head1 (Jvm.Cond.code (⟨"com/example/role_rights/rolerights/policy/Statement", "stating", "(Lcom/example/role_rights/rolerights/policy/Effect;)Lcom/example/role_rights/rolerights/policy/Statement;"⟩ : MethodName) prog_50_method_9_code 6 (some (.object "com/example/role_rights/rolerights/policy/Statement")) :: ws) ({ frames := 2, cells := 1, slots := 18, locals := 25 } : Room)) (fun av_ U => av_ = #[(.ref eFORBID)] ∧ Z.Warmed39 U.vm ∧ U.heap = h0) (fun _ _ _ _ _ => True) (fun _ U o_ U' => ∃ v L, o_ = .returned v ∧ Q_statingFORBID Z va kk u0 u1 u2 u3 u4 u5 u6 u7 u8 u9 u10 u11 u12 u13 u14 u15 u16 u17 eGRANT eDENY eFORBID h0 n0 v U'.heap L ∧ FrameEnd U o_ U' L ({ frames := 2, cells := 1, slots := 18, locals := 25 } : Room).cells ({ frames := 2, cells := 1, slots := 18, locals := 25 } : Room).slots) := by
  refine MetFree.of_bodySF (plainFor_of_name pn_0) hisR ?_
  intro p e s m args below meth c s₁ Bd hml0 hP hK
  obtain ⟨rfl, hZ, hh⟩ := hP
  have hx := Bd.exec
  have hby := Bd.bytes
  have hml : c.maxLocals = 6 := hml0
  have hown : s.vm.findClass "com/example/role_rights/rolerights/policy/Statement" = some m.cls := findClass_of_methodNamed Bd.named
  have hnm := (name_of_methodNamed Bd.named Bd.method).1
  have hlk := own_lk Bd
  have hret := Bd.returns
  have X0 : Stand p l e ({ frames := 2, cells := 1, slots := 18, locals := 25 } : Room) s m #[(.ref eFORBID)] below meth c s₁ [] 0 0 := Stand.of_body Bd
  have e0 : s₁.heap = h0 := by rw [← hh, Bd.state]; rfl
  have N0 := Fr.nil n0
  show own_Goes p e below s (Q_statingFORBID Z va kk u0 u1 u2 u3 u4 u5 u6 u7 u8 u9 u10 u11 u12 u13 u14 u15 u16 u17 eGRANT eDENY eFORBID h0 n0) ({ frames := 2, cells := 1, slots := 18, locals := 25 } : Room).cells ({ frames := 2, cells := 1, slots := 18, locals := 25 } : Room).slots (s₁.setTop (entryFrame m #[(.ref eFORBID)] 6))
  refine own_go (fun _ ww => castTop (ef_statingFORBID m va kk u0 u1 u2 u3 u4 u5 u6 u7 u8 u9 u10 u11 u12 u13 u14 u15 u16 u17 eGRANT eDENY eFORBID) ww) ?_
  show own_Goes _ _ _ _ _ _ _ (s₁.setTop (mkF m 0 #[.val (.ref eFORBID), .unset, .unset, .unset, .unset, .unset] []))
  refine own_go (fun _ ww => XS.aconstNull X0.here hx rfl (hb hby d1_0) ww) ?_
  show own_Goes _ _ _ _ _ _ _ (s₁.setTop (mkF m 1 #[.val (.ref eFORBID), .unset, .unset, .unset, .unset, .unset] [.null]))
  refine own_go (fun _ ww => XS.astoreN X0.here hx rfl (hb hby d1_1) rfl rfl (l' := #[.val (.ref eFORBID), .val .null, .unset, .unset, .unset, .unset]) rfl ww) ?_
  show own_Goes _ _ _ _ _ _ _ (s₁.setTop (mkF m 2 #[.val (.ref eFORBID), .val .null, .unset, .unset, .unset, .unset] []))
  obtain ⟨_, _, ⟨T82, L82, k82, n82⟩, -, X82, ⟨Lc82, hQ82, l82, y82, z82⟩, st82⟩ := Jvm.LawKit.callS X0 hx (y := (⟨"com/example/role_rights/rolerights/policy/Statement", "values", "()[Lcom/example/role_rights/rolerights/policy/Statement;"⟩ : MethodName)) hown (mvT hZ (hw _ (List.mem_of_getElem? (i := 10) rfl))) (mvT hZ (hw _ (List.mem_of_getElem? (i := 11) rfl))) (mvT hZ (hw _ (List.mem_of_getElem? (i := 5) rfl))) (mvT hZ (hw _ (List.mem_of_getElem? (i := 12) rfl))) (by decide) (backOf (W := 0) (rm_values l Z a0 hw [] va kk u0 u1 u2 u3 u4 u5 u6 u7 u8 u9 u10 u11 u12 u13 u14 u15 u16 u17 h0 n0 O0 SV AV EV) hZ (hw _ (List.mem_of_getElem? (i := 12) rfl)) (hw _ (List.mem_of_getElem? (i := 5) rfl)) (by decide) (by decide)) (g := (mkF m 2 #[.val (.ref eFORBID), .val .null, .unset, .unset, .unset, .unset] [])) rfl (by rw [hml]; rfl) (argsL := []) (rest := []) (lenOf pd_0 rfl) rfl (by show 2 * 0 + _ ≤ _; exact Nat.le_of_eq rfl) (hb hby d1_2) (fun _ _ => ⟨rfl, e0, (by decide : 0 + 1 ≤ _), (by decide : 0 + 18 ≤ _)⟩)
  dsimp only [Pt.U, Pt.locs, Pt.cells, Pt.slots] at X82 l82 y82 z82 st82 hQ82
  subst l82 y82 z82
  obtain ⟨r82, rfl, N82q, B82, K82q, V82q⟩ := hQ82
  have N82 := Fr.app N0 N82q
  have ne_u0_r82 : u0 ≠ r82 := Nat.ne_of_lt (Nat.lt_of_lt_of_le (F0.ext O0.2).lt B82)
  have ne_u1_r82 : u1 ≠ r82 := Nat.ne_of_lt (Nat.lt_of_lt_of_le (F1.ext O0.2).lt B82)
  have ne_u2_r82 : u2 ≠ r82 := Nat.ne_of_lt (Nat.lt_of_lt_of_le (F2.ext O0.2).lt B82)
  have ne_u3_r82 : u3 ≠ r82 := Nat.ne_of_lt (Nat.lt_of_lt_of_le (F3.ext O0.2).lt B82)
  have ne_u4_r82 : u4 ≠ r82 := Nat.ne_of_lt (Nat.lt_of_lt_of_le (F4.ext O0.2).lt B82)
  have ne_u5_r82 : u5 ≠ r82 := Nat.ne_of_lt (Nat.lt_of_lt_of_le (F5.ext O0.2).lt B82)
  have ne_u6_r82 : u6 ≠ r82 := Nat.ne_of_lt (Nat.lt_of_lt_of_le (F6.ext O0.2).lt B82)
  have ne_u7_r82 : u7 ≠ r82 := Nat.ne_of_lt (Nat.lt_of_lt_of_le (F7.ext O0.2).lt B82)
  have ne_u8_r82 : u8 ≠ r82 := Nat.ne_of_lt (Nat.lt_of_lt_of_le (F8.ext O0.2).lt B82)
  have ne_u9_r82 : u9 ≠ r82 := Nat.ne_of_lt (Nat.lt_of_lt_of_le (F9.ext O0.2).lt B82)
  have ne_u10_r82 : u10 ≠ r82 := Nat.ne_of_lt (Nat.lt_of_lt_of_le (F10.ext O0.2).lt B82)
  have ne_u11_r82 : u11 ≠ r82 := Nat.ne_of_lt (Nat.lt_of_lt_of_le (F11.ext O0.2).lt B82)
  have ne_u12_r82 : u12 ≠ r82 := Nat.ne_of_lt (Nat.lt_of_lt_of_le (F12.ext O0.2).lt B82)
  have ne_u13_r82 : u13 ≠ r82 := Nat.ne_of_lt (Nat.lt_of_lt_of_le (F13.ext O0.2).lt B82)
  have ne_u14_r82 : u14 ≠ r82 := Nat.ne_of_lt (Nat.lt_of_lt_of_le (F14.ext O0.2).lt B82)
  have ne_u15_r82 : u15 ≠ r82 := Nat.ne_of_lt (Nat.lt_of_lt_of_le (F15.ext O0.2).lt B82)
  have ne_u16_r82 : u16 ≠ r82 := Nat.ne_of_lt (Nat.lt_of_lt_of_le (F16.ext O0.2).lt B82)
  have ne_u17_r82 : u17 ≠ r82 := Nat.ne_of_lt (Nat.lt_of_lt_of_le (F17.ext O0.2).lt B82)
  have g_r82 : n0 ≤ r82 := Nat.le_trans (O0.1 ▸ O0.2.1) B82
  have sz_r82 : h0.size ≤ r82 := Nat.le_trans (own_ks (Keep.refl h0 [])) B82
  have O82 := O0.keep K82q all0
  have K82 := (Keep.refl h0 []).trans K82q all0
  refine own_go st82 ?_
  show own_Goes _ _ _ _ _ _ _ (T82.setTop (mkF m 5 #[.val (.ref eFORBID), .val .null, .unset, .unset, .unset, .unset] [(.ref r82)]))
  refine own_go (fun _ ww => XS.astoreN X82.here hx rfl (hb hby d1_5) rfl rfl (l' := #[.val (.ref eFORBID), .val .null, .val (.ref r82), .unset, .unset, .unset]) rfl ww) ?_
  show own_Goes _ _ _ _ _ _ _ (T82.setTop (mkF m 6 #[.val (.ref eFORBID), .val .null, .val (.ref r82), .unset, .unset, .unset] []))
  refine own_go (fun _ ww => XS.aloadN X82.here hx rfl (hb hby d1_6) rfl rfl ww) ?_
  show own_Goes _ _ _ _ _ _ _ (T82.setTop (mkF m 7 #[.val (.ref eFORBID), .val .null, .val (.ref r82), .unset, .unset, .unset] [(.ref r82)]))
  obtain ⟨cl83, Ar83, -, S83, Ng83, -, -⟩ := id V82q
  refine own_go (fun _ ww => X82.arraylength hx Ar83.1 (State.isArrayOf_alike hZ.alike Ar83.2.1) (g := (mkF m 7 #[.val (.ref eFORBID), .val .null, .val (.ref r82), .unset, .unset, .unset] [(.ref r82)])) rfl rfl (hb hby d1_7) _ ww) ?_
  rw [len_of S83 Ng83]
  show own_Goes _ _ _ _ _ _ _ (T82.setTop (mkF m 8 #[.val (.ref eFORBID), .val .null, .val (.ref r82), .unset, .unset, .unset] [(.int (18 : Int32))]))
  refine own_go (fun _ ww => XS.istoreN X82.here hx rfl (hb hby d1_8) rfl (l' := #[.val (.ref eFORBID), .val .null, .val (.ref r82), .val (.int (18 : Int32)), .unset, .unset]) rfl ww) ?_
  show own_Goes _ _ _ _ _ _ _ (T82.setTop (mkF m 9 #[.val (.ref eFORBID), .val .null, .val (.ref r82), .val (.int (18 : Int32)), .unset, .unset] []))
  refine own_go (fun _ ww => XS.iconst X82.here hx rfl (hb hby d1_9) ww) ?_
  show own_Goes _ _ _ _ _ _ _ (T82.setTop (mkF m 10 #[.val (.ref eFORBID), .val .null, .val (.ref r82), .val (.int (18 : Int32)), .unset, .unset] [(.int (0 : Int32))]))
  refine own_go (fun _ ww => XS.istore X82.here hx rfl (hb hby d1_10) rfl (l' := #[.val (.ref eFORBID), .val .null, .val (.ref r82), .val (.int (18 : Int32)), .val (.int (0 : Int32)), .unset]) rfl ww) ?_
  show own_Goes _ _ _ _ _ _ _ (T82.setTop (mkF m 12 #[.val (.ref eFORBID), .val .null, .val (.ref r82), .val (.int (18 : Int32)), .val (.int (0 : Int32)), .unset] []))
  refine own_go (fun _ ww => XS.iload X82.here hx rfl (hb hby d1_12) rfl  ww) ?_
  show own_Goes _ _ _ _ _ _ _ (T82.setTop (mkF m 14 #[.val (.ref eFORBID), .val .null, .val (.ref r82), .val (.int (18 : Int32)), .val (.int (0 : Int32)), .unset] [(.int (0 : Int32))]))
  refine own_go (fun _ ww => XS.iloadN X82.here hx rfl (hb hby d1_14) rfl  ww) ?_
  show own_Goes _ _ _ _ _ _ _ (T82.setTop (mkF m 15 #[.val (.ref eFORBID), .val .null, .val (.ref r82), .val (.int (18 : Int32)), .val (.int (0 : Int32)), .unset] [(.int (18 : Int32)), (.int (0 : Int32))]))
  refine own_go (fun _ ww => XS.icmpNo X82.here hx rfl (hb hby d1_15) rfl (tlt (by decide : (0 : Int32) < (18 : Int32))).2.1 ww) ?_
  show own_Goes _ _ _ _ _ _ _ (T82.setTop (mkF m 18 #[.val (.ref eFORBID), .val .null, .val (.ref r82), .val (.int (18 : Int32)), .val (.int (0 : Int32)), .unset] []))
  refine own_go (fun _ ww => XS.aloadN X82.here hx rfl (hb hby d1_18) rfl rfl ww) ?_
  show own_Goes _ _ _ _ _ _ _ (T82.setTop (mkF m 19 #[.val (.ref eFORBID), .val .null, .val (.ref r82), .val (.int (18 : Int32)), .val (.int (0 : Int32)), .unset] [(.ref r82)]))
  refine own_go (fun _ ww => XS.iload X82.here hx rfl (hb hby d1_19) rfl  ww) ?_
  show own_Goes _ _ _ _ _ _ _ (T82.setTop (mkF m 21 #[.val (.ref eFORBID), .val .null, .val (.ref r82), .val (.int (18 : Int32)), .val (.int (0 : Int32)), .unset] [(.int (0 : Int32)), (.ref r82)]))
  obtain ⟨cl84, Ar84, -, S84, -, H84, -⟩ := id V82q
  have hin84 := inb_of (j := (0 : Int32)) S84 ⟨by decide, by decide⟩
  have hat84 : cl84.slots[((0 : Int32)).toNatClampNeg]? = some (.ref u0) := Has.at H84 hin84 rfl
  refine own_go (fun _ ww => X82.aaload hx (j := (0 : Int32)) (v := (.ref u0)) Ar84.1 (State.isArrayOf_alike hZ.alike Ar84.2.1) rfl Ar84.2.2 hin84 hat84 (g := (mkF m 21 #[.val (.ref eFORBID), .val .null, .val (.ref r82), .val (.int (18 : Int32)), .val (.int (0 : Int32)), .unset] [(.int (0 : Int32)), (.ref r82)])) rfl rfl (hb hby d1_21) _ ww) ?_
  show own_Goes _ _ _ _ _ _ _ (T82.setTop (mkF m 22 #[.val (.ref eFORBID), .val .null, .val (.ref r82), .val (.int (18 : Int32)), .val (.int (0 : Int32)), .unset] [(.ref u0)]))
  refine own_go (fun _ ww => XS.astore X82.here hx rfl (hb hby d1_22) rfl rfl (l' := #[.val (.ref eFORBID), .val .null, .val (.ref r82), .val (.int (18 : Int32)), .val (.int (0 : Int32)), .val (.ref u0)]) rfl ww) ?_
  show own_Goes _ _ _ _ _ _ _ (T82.setTop (mkF m 24 #[.val (.ref eFORBID), .val .null, .val (.ref r82), .val (.int (18 : Int32)), .val (.int (0 : Int32)), .val (.ref u0)] []))
  refine own_go (fun _ ww => XS.aload X82.here hx rfl (hb hby d1_24) rfl rfl ww) ?_
  show own_Goes _ _ _ _ _ _ _ (T82.setTop (mkF m 26 #[.val (.ref eFORBID), .val .null, .val (.ref r82), .val (.int (18 : Int32)), .val (.int (0 : Int32)), .val (.ref u0)] [(.ref u0)]))
  obtain ⟨T85, X85, e85, st85⟩ := getF X82 hx hZ hown (host := "") (Or.inl (hw _ (List.mem_of_getElem? (i := 42) rfl))) Via.refl rfl (F0.ext O82.2) (g := (mkF m 26 #[.val (.ref eFORBID), .val .null, .val (.ref r82), .val (.int (18 : Int32)), .val (.int (0 : Int32)), .val (.ref u0)] [(.ref u0)])) rfl rfl (hb hby d1_26)
  refine own_go st85 ?_
  show own_Goes _ _ _ _ _ _ _ (T85.setTop (mkF m 29 #[.val (.ref eFORBID), .val .null, .val (.ref r82), .val (.int (18 : Int32)), .val (.int (0 : Int32)), .val (.ref u0)] [.null]))
  refine own_go (fun _ ww => XS.aloadN X85.here hx rfl (hb hby d1_29) rfl rfl ww) ?_
  show own_Goes _ _ _ _ _ _ _ (T85.setTop (mkF m 30 #[.val (.ref eFORBID), .val .null, .val (.ref r82), .val (.int (18 : Int32)), .val (.int (0 : Int32)), .val (.ref u0)] [(.ref eFORBID), .null]))
  refine own_go (fun _ ww => XT.acmpYes X85.here hx rfl (pc0 := 30) (pc' := 36) rfl (hb hby d1_30) rfl rfl rfl (XT.aa_ne_t (by simp)) (by decide) (by decide) ww) ?_
  show own_Goes _ _ _ _ _ _ _ (T85.setTop (mkF m 36 #[.val (.ref eFORBID), .val .null, .val (.ref r82), .val (.int (18 : Int32)), .val (.int (0 : Int32)), .val (.ref u0)] []))
  refine own_go (fun _ ww => XS.iinc X85.here hx rfl (hb hby d1_36) rfl (l' := #[.val (.ref eFORBID), .val .null, .val (.ref r82), .val (.int (18 : Int32)), .val (.int (1 : Int32)), .val (.ref u0)]) rfl ww) ?_
  show own_Goes _ _ _ _ _ _ _ (T85.setTop (mkF m 39 #[.val (.ref eFORBID), .val .null, .val (.ref r82), .val (.int (18 : Int32)), .val (.int (1 : Int32)), .val (.ref u0)] []))
  refine own_go (fun _ ww => XS.goto X85.here hx rfl (pc0 := 39) (pc' := 12) rfl (hb hby d1_39) (by decide) (by decide) ww) ?_
  show own_Goes _ _ _ _ _ _ _ (T85.setTop (mkF m 12 #[.val (.ref eFORBID), .val .null, .val (.ref r82), .val (.int (18 : Int32)), .val (.int (1 : Int32)), .val (.ref u0)] []))
  refine own_go (fun _ ww => XS.iload X85.here hx rfl (hb hby d1_12) rfl  ww) ?_
  show own_Goes _ _ _ _ _ _ _ (T85.setTop (mkF m 14 #[.val (.ref eFORBID), .val .null, .val (.ref r82), .val (.int (18 : Int32)), .val (.int (1 : Int32)), .val (.ref u0)] [(.int (1 : Int32))]))
  refine own_go (fun _ ww => XS.iloadN X85.here hx rfl (hb hby d1_14) rfl  ww) ?_
  show own_Goes _ _ _ _ _ _ _ (T85.setTop (mkF m 15 #[.val (.ref eFORBID), .val .null, .val (.ref r82), .val (.int (18 : Int32)), .val (.int (1 : Int32)), .val (.ref u0)] [(.int (18 : Int32)), (.int (1 : Int32))]))
  refine own_go (fun _ ww => XS.icmpNo X85.here hx rfl (hb hby d1_15) rfl (tlt (by decide : (1 : Int32) < (18 : Int32))).2.1 ww) ?_
  show own_Goes _ _ _ _ _ _ _ (T85.setTop (mkF m 18 #[.val (.ref eFORBID), .val .null, .val (.ref r82), .val (.int (18 : Int32)), .val (.int (1 : Int32)), .val (.ref u0)] []))
  refine own_go (fun _ ww => XS.aloadN X85.here hx rfl (hb hby d1_18) rfl rfl ww) ?_
  show own_Goes _ _ _ _ _ _ _ (T85.setTop (mkF m 19 #[.val (.ref eFORBID), .val .null, .val (.ref r82), .val (.int (18 : Int32)), .val (.int (1 : Int32)), .val (.ref u0)] [(.ref r82)]))
  refine own_go (fun _ ww => XS.iload X85.here hx rfl (hb hby d1_19) rfl  ww) ?_
  show own_Goes _ _ _ _ _ _ _ (T85.setTop (mkF m 21 #[.val (.ref eFORBID), .val .null, .val (.ref r82), .val (.int (18 : Int32)), .val (.int (1 : Int32)), .val (.ref u0)] [(.int (1 : Int32)), (.ref r82)]))
  obtain ⟨cl86, Ar86, -, S86, -, H86, -⟩ := id V82q
  have hin86 := inb_of (j := (1 : Int32)) S86 ⟨by decide, by decide⟩
  have hat86 : cl86.slots[((1 : Int32)).toNatClampNeg]? = some (.ref u1) := Has.at H86 hin86 rfl
  refine own_go (fun _ ww => X85.aaload hx (j := (1 : Int32)) (v := (.ref u1)) (by rw [e85]; exact Ar86.1) (State.isArrayOf_alike hZ.alike Ar86.2.1) rfl Ar86.2.2 hin86 hat86 (g := (mkF m 21 #[.val (.ref eFORBID), .val .null, .val (.ref r82), .val (.int (18 : Int32)), .val (.int (1 : Int32)), .val (.ref u0)] [(.int (1 : Int32)), (.ref r82)])) rfl rfl (hb hby d1_21) _ ww) ?_
  show own_Goes _ _ _ _ _ _ _ (T85.setTop (mkF m 22 #[.val (.ref eFORBID), .val .null, .val (.ref r82), .val (.int (18 : Int32)), .val (.int (1 : Int32)), .val (.ref u0)] [(.ref u1)]))
  refine own_go (fun _ ww => XS.astore X85.here hx rfl (hb hby d1_22) rfl rfl (l' := #[.val (.ref eFORBID), .val .null, .val (.ref r82), .val (.int (18 : Int32)), .val (.int (1 : Int32)), .val (.ref u1)]) rfl ww) ?_
  show own_Goes _ _ _ _ _ _ _ (T85.setTop (mkF m 24 #[.val (.ref eFORBID), .val .null, .val (.ref r82), .val (.int (18 : Int32)), .val (.int (1 : Int32)), .val (.ref u1)] []))
  refine own_go (fun _ ww => XS.aload X85.here hx rfl (hb hby d1_24) rfl rfl ww) ?_
  show own_Goes _ _ _ _ _ _ _ (T85.setTop (mkF m 26 #[.val (.ref eFORBID), .val .null, .val (.ref r82), .val (.int (18 : Int32)), .val (.int (1 : Int32)), .val (.ref u1)] [(.ref u1)]))
  obtain ⟨T87, X87, e87, st87⟩ := getF X85 hx hZ hown (host := "") (Or.inl (hw _ (List.mem_of_getElem? (i := 42) rfl))) Via.refl e85 (F1.ext O82.2) (g := (mkF m 26 #[.val (.ref eFORBID), .val .null, .val (.ref r82), .val (.int (18 : Int32)), .val (.int (1 : Int32)), .val (.ref u1)] [(.ref u1)])) rfl rfl (hb hby d1_26)
  refine own_go st87 ?_
  show own_Goes _ _ _ _ _ _ _ (T87.setTop (mkF m 29 #[.val (.ref eFORBID), .val .null, .val (.ref r82), .val (.int (18 : Int32)), .val (.int (1 : Int32)), .val (.ref u1)] [.null]))
  refine own_go (fun _ ww => XS.aloadN X87.here hx rfl (hb hby d1_29) rfl rfl ww) ?_
  show own_Goes _ _ _ _ _ _ _ (T87.setTop (mkF m 30 #[.val (.ref eFORBID), .val .null, .val (.ref r82), .val (.int (18 : Int32)), .val (.int (1 : Int32)), .val (.ref u1)] [(.ref eFORBID), .null]))
  refine own_go (fun _ ww => XT.acmpYes X87.here hx rfl (pc0 := 30) (pc' := 36) rfl (hb hby d1_30) rfl rfl rfl (XT.aa_ne_t (by simp)) (by decide) (by decide) ww) ?_
  show own_Goes _ _ _ _ _ _ _ (T87.setTop (mkF m 36 #[.val (.ref eFORBID), .val .null, .val (.ref r82), .val (.int (18 : Int32)), .val (.int (1 : Int32)), .val (.ref u1)] []))
  refine own_go (fun _ ww => XS.iinc X87.here hx rfl (hb hby d1_36) rfl (l' := #[.val (.ref eFORBID), .val .null, .val (.ref r82), .val (.int (18 : Int32)), .val (.int (2 : Int32)), .val (.ref u1)]) rfl ww) ?_
  show own_Goes _ _ _ _ _ _ _ (T87.setTop (mkF m 39 #[.val (.ref eFORBID), .val .null, .val (.ref r82), .val (.int (18 : Int32)), .val (.int (2 : Int32)), .val (.ref u1)] []))
  refine own_go (fun _ ww => XS.goto X87.here hx rfl (pc0 := 39) (pc' := 12) rfl (hb hby d1_39) (by decide) (by decide) ww) ?_
  show own_Goes _ _ _ _ _ _ _ (T87.setTop (mkF m 12 #[.val (.ref eFORBID), .val .null, .val (.ref r82), .val (.int (18 : Int32)), .val (.int (2 : Int32)), .val (.ref u1)] []))
  refine own_go (fun _ ww => XS.iload X87.here hx rfl (hb hby d1_12) rfl  ww) ?_
  show own_Goes _ _ _ _ _ _ _ (T87.setTop (mkF m 14 #[.val (.ref eFORBID), .val .null, .val (.ref r82), .val (.int (18 : Int32)), .val (.int (2 : Int32)), .val (.ref u1)] [(.int (2 : Int32))]))
  refine own_go (fun _ ww => XS.iloadN X87.here hx rfl (hb hby d1_14) rfl  ww) ?_
  show own_Goes _ _ _ _ _ _ _ (T87.setTop (mkF m 15 #[.val (.ref eFORBID), .val .null, .val (.ref r82), .val (.int (18 : Int32)), .val (.int (2 : Int32)), .val (.ref u1)] [(.int (18 : Int32)), (.int (2 : Int32))]))
  refine own_go (fun _ ww => XS.icmpNo X87.here hx rfl (hb hby d1_15) rfl (tlt (by decide : (2 : Int32) < (18 : Int32))).2.1 ww) ?_
  show own_Goes _ _ _ _ _ _ _ (T87.setTop (mkF m 18 #[.val (.ref eFORBID), .val .null, .val (.ref r82), .val (.int (18 : Int32)), .val (.int (2 : Int32)), .val (.ref u1)] []))
  refine own_go (fun _ ww => XS.aloadN X87.here hx rfl (hb hby d1_18) rfl rfl ww) ?_
  show own_Goes _ _ _ _ _ _ _ (T87.setTop (mkF m 19 #[.val (.ref eFORBID), .val .null, .val (.ref r82), .val (.int (18 : Int32)), .val (.int (2 : Int32)), .val (.ref u1)] [(.ref r82)]))
  refine own_go (fun _ ww => XS.iload X87.here hx rfl (hb hby d1_19) rfl  ww) ?_
  show own_Goes _ _ _ _ _ _ _ (T87.setTop (mkF m 21 #[.val (.ref eFORBID), .val .null, .val (.ref r82), .val (.int (18 : Int32)), .val (.int (2 : Int32)), .val (.ref u1)] [(.int (2 : Int32)), (.ref r82)]))
  obtain ⟨cl88, Ar88, -, S88, -, H88, -⟩ := id V82q
  have hin88 := inb_of (j := (2 : Int32)) S88 ⟨by decide, by decide⟩
  have hat88 : cl88.slots[((2 : Int32)).toNatClampNeg]? = some (.ref u2) := Has.at H88 hin88 rfl
  refine own_go (fun _ ww => X87.aaload hx (j := (2 : Int32)) (v := (.ref u2)) (by rw [e87]; exact Ar88.1) (State.isArrayOf_alike hZ.alike Ar88.2.1) rfl Ar88.2.2 hin88 hat88 (g := (mkF m 21 #[.val (.ref eFORBID), .val .null, .val (.ref r82), .val (.int (18 : Int32)), .val (.int (2 : Int32)), .val (.ref u1)] [(.int (2 : Int32)), (.ref r82)])) rfl rfl (hb hby d1_21) _ ww) ?_
  show own_Goes _ _ _ _ _ _ _ (T87.setTop (mkF m 22 #[.val (.ref eFORBID), .val .null, .val (.ref r82), .val (.int (18 : Int32)), .val (.int (2 : Int32)), .val (.ref u1)] [(.ref u2)]))
  refine own_go (fun _ ww => XS.astore X87.here hx rfl (hb hby d1_22) rfl rfl (l' := #[.val (.ref eFORBID), .val .null, .val (.ref r82), .val (.int (18 : Int32)), .val (.int (2 : Int32)), .val (.ref u2)]) rfl ww) ?_
  show own_Goes _ _ _ _ _ _ _ (T87.setTop (mkF m 24 #[.val (.ref eFORBID), .val .null, .val (.ref r82), .val (.int (18 : Int32)), .val (.int (2 : Int32)), .val (.ref u2)] []))
  refine own_go (fun _ ww => XS.aload X87.here hx rfl (hb hby d1_24) rfl rfl ww) ?_
  show own_Goes _ _ _ _ _ _ _ (T87.setTop (mkF m 26 #[.val (.ref eFORBID), .val .null, .val (.ref r82), .val (.int (18 : Int32)), .val (.int (2 : Int32)), .val (.ref u2)] [(.ref u2)]))
  obtain ⟨T89, X89, e89, st89⟩ := getF X87 hx hZ hown (host := "") (Or.inl (hw _ (List.mem_of_getElem? (i := 42) rfl))) Via.refl e87 (F2.ext O82.2) (g := (mkF m 26 #[.val (.ref eFORBID), .val .null, .val (.ref r82), .val (.int (18 : Int32)), .val (.int (2 : Int32)), .val (.ref u2)] [(.ref u2)])) rfl rfl (hb hby d1_26)
  refine own_go st89 ?_
  show own_Goes _ _ _ _ _ _ _ (T89.setTop (mkF m 29 #[.val (.ref eFORBID), .val .null, .val (.ref r82), .val (.int (18 : Int32)), .val (.int (2 : Int32)), .val (.ref u2)] [.null]))
  refine own_go (fun _ ww => XS.aloadN X89.here hx rfl (hb hby d1_29) rfl rfl ww) ?_
  show own_Goes _ _ _ _ _ _ _ (T89.setTop (mkF m 30 #[.val (.ref eFORBID), .val .null, .val (.ref r82), .val (.int (18 : Int32)), .val (.int (2 : Int32)), .val (.ref u2)] [(.ref eFORBID), .null]))
  refine own_go (fun _ ww => XT.acmpYes X89.here hx rfl (pc0 := 30) (pc' := 36) rfl (hb hby d1_30) rfl rfl rfl (XT.aa_ne_t (by simp)) (by decide) (by decide) ww) ?_
  show own_Goes _ _ _ _ _ _ _ (T89.setTop (mkF m 36 #[.val (.ref eFORBID), .val .null, .val (.ref r82), .val (.int (18 : Int32)), .val (.int (2 : Int32)), .val (.ref u2)] []))
  refine own_go (fun _ ww => XS.iinc X89.here hx rfl (hb hby d1_36) rfl (l' := #[.val (.ref eFORBID), .val .null, .val (.ref r82), .val (.int (18 : Int32)), .val (.int (3 : Int32)), .val (.ref u2)]) rfl ww) ?_
  show own_Goes _ _ _ _ _ _ _ (T89.setTop (mkF m 39 #[.val (.ref eFORBID), .val .null, .val (.ref r82), .val (.int (18 : Int32)), .val (.int (3 : Int32)), .val (.ref u2)] []))
  refine own_go (fun _ ww => XS.goto X89.here hx rfl (pc0 := 39) (pc' := 12) rfl (hb hby d1_39) (by decide) (by decide) ww) ?_
  show own_Goes _ _ _ _ _ _ _ (T89.setTop (mkF m 12 #[.val (.ref eFORBID), .val .null, .val (.ref r82), .val (.int (18 : Int32)), .val (.int (3 : Int32)), .val (.ref u2)] []))
  refine own_go (fun _ ww => XS.iload X89.here hx rfl (hb hby d1_12) rfl  ww) ?_
  show own_Goes _ _ _ _ _ _ _ (T89.setTop (mkF m 14 #[.val (.ref eFORBID), .val .null, .val (.ref r82), .val (.int (18 : Int32)), .val (.int (3 : Int32)), .val (.ref u2)] [(.int (3 : Int32))]))
  refine own_go (fun _ ww => XS.iloadN X89.here hx rfl (hb hby d1_14) rfl  ww) ?_
  show own_Goes _ _ _ _ _ _ _ (T89.setTop (mkF m 15 #[.val (.ref eFORBID), .val .null, .val (.ref r82), .val (.int (18 : Int32)), .val (.int (3 : Int32)), .val (.ref u2)] [(.int (18 : Int32)), (.int (3 : Int32))]))
  refine own_go (fun _ ww => XS.icmpNo X89.here hx rfl (hb hby d1_15) rfl (tlt (by decide : (3 : Int32) < (18 : Int32))).2.1 ww) ?_
  show own_Goes _ _ _ _ _ _ _ (T89.setTop (mkF m 18 #[.val (.ref eFORBID), .val .null, .val (.ref r82), .val (.int (18 : Int32)), .val (.int (3 : Int32)), .val (.ref u2)] []))
  refine own_go (fun _ ww => XS.aloadN X89.here hx rfl (hb hby d1_18) rfl rfl ww) ?_
  show own_Goes _ _ _ _ _ _ _ (T89.setTop (mkF m 19 #[.val (.ref eFORBID), .val .null, .val (.ref r82), .val (.int (18 : Int32)), .val (.int (3 : Int32)), .val (.ref u2)] [(.ref r82)]))
  refine own_go (fun _ ww => XS.iload X89.here hx rfl (hb hby d1_19) rfl  ww) ?_
  show own_Goes _ _ _ _ _ _ _ (T89.setTop (mkF m 21 #[.val (.ref eFORBID), .val .null, .val (.ref r82), .val (.int (18 : Int32)), .val (.int (3 : Int32)), .val (.ref u2)] [(.int (3 : Int32)), (.ref r82)]))
  obtain ⟨cl90, Ar90, -, S90, -, H90, -⟩ := id V82q
  have hin90 := inb_of (j := (3 : Int32)) S90 ⟨by decide, by decide⟩
  have hat90 : cl90.slots[((3 : Int32)).toNatClampNeg]? = some (.ref u3) := Has.at H90 hin90 rfl
  refine own_go (fun _ ww => X89.aaload hx (j := (3 : Int32)) (v := (.ref u3)) (by rw [e89]; exact Ar90.1) (State.isArrayOf_alike hZ.alike Ar90.2.1) rfl Ar90.2.2 hin90 hat90 (g := (mkF m 21 #[.val (.ref eFORBID), .val .null, .val (.ref r82), .val (.int (18 : Int32)), .val (.int (3 : Int32)), .val (.ref u2)] [(.int (3 : Int32)), (.ref r82)])) rfl rfl (hb hby d1_21) _ ww) ?_
  show own_Goes _ _ _ _ _ _ _ (T89.setTop (mkF m 22 #[.val (.ref eFORBID), .val .null, .val (.ref r82), .val (.int (18 : Int32)), .val (.int (3 : Int32)), .val (.ref u2)] [(.ref u3)]))
  refine own_go (fun _ ww => XS.astore X89.here hx rfl (hb hby d1_22) rfl rfl (l' := #[.val (.ref eFORBID), .val .null, .val (.ref r82), .val (.int (18 : Int32)), .val (.int (3 : Int32)), .val (.ref u3)]) rfl ww) ?_
  show own_Goes _ _ _ _ _ _ _ (T89.setTop (mkF m 24 #[.val (.ref eFORBID), .val .null, .val (.ref r82), .val (.int (18 : Int32)), .val (.int (3 : Int32)), .val (.ref u3)] []))
  refine own_go (fun _ ww => XS.aload X89.here hx rfl (hb hby d1_24) rfl rfl ww) ?_
  show own_Goes _ _ _ _ _ _ _ (T89.setTop (mkF m 26 #[.val (.ref eFORBID), .val .null, .val (.ref r82), .val (.int (18 : Int32)), .val (.int (3 : Int32)), .val (.ref u3)] [(.ref u3)]))
  obtain ⟨T91, X91, e91, st91⟩ := getF X89 hx hZ hown (host := "") (Or.inl (hw _ (List.mem_of_getElem? (i := 42) rfl))) Via.refl e89 (F3.ext O82.2) (g := (mkF m 26 #[.val (.ref eFORBID), .val .null, .val (.ref r82), .val (.int (18 : Int32)), .val (.int (3 : Int32)), .val (.ref u3)] [(.ref u3)])) rfl rfl (hb hby d1_26)
  refine own_go st91 ?_
  show own_Goes _ _ _ _ _ _ _ (T91.setTop (mkF m 29 #[.val (.ref eFORBID), .val .null, .val (.ref r82), .val (.int (18 : Int32)), .val (.int (3 : Int32)), .val (.ref u3)] [.null]))
  refine own_go (fun _ ww => XS.aloadN X91.here hx rfl (hb hby d1_29) rfl rfl ww) ?_
  show own_Goes _ _ _ _ _ _ _ (T91.setTop (mkF m 30 #[.val (.ref eFORBID), .val .null, .val (.ref r82), .val (.int (18 : Int32)), .val (.int (3 : Int32)), .val (.ref u3)] [(.ref eFORBID), .null]))
  refine own_go (fun _ ww => XT.acmpYes X91.here hx rfl (pc0 := 30) (pc' := 36) rfl (hb hby d1_30) rfl rfl rfl (XT.aa_ne_t (by simp)) (by decide) (by decide) ww) ?_
  show own_Goes _ _ _ _ _ _ _ (T91.setTop (mkF m 36 #[.val (.ref eFORBID), .val .null, .val (.ref r82), .val (.int (18 : Int32)), .val (.int (3 : Int32)), .val (.ref u3)] []))
  refine own_go (fun _ ww => XS.iinc X91.here hx rfl (hb hby d1_36) rfl (l' := #[.val (.ref eFORBID), .val .null, .val (.ref r82), .val (.int (18 : Int32)), .val (.int (4 : Int32)), .val (.ref u3)]) rfl ww) ?_
  show own_Goes _ _ _ _ _ _ _ (T91.setTop (mkF m 39 #[.val (.ref eFORBID), .val .null, .val (.ref r82), .val (.int (18 : Int32)), .val (.int (4 : Int32)), .val (.ref u3)] []))
  refine own_go (fun _ ww => XS.goto X91.here hx rfl (pc0 := 39) (pc' := 12) rfl (hb hby d1_39) (by decide) (by decide) ww) ?_
  show own_Goes _ _ _ _ _ _ _ (T91.setTop (mkF m 12 #[.val (.ref eFORBID), .val .null, .val (.ref r82), .val (.int (18 : Int32)), .val (.int (4 : Int32)), .val (.ref u3)] []))
  refine own_go (fun _ ww => XS.iload X91.here hx rfl (hb hby d1_12) rfl  ww) ?_
  show own_Goes _ _ _ _ _ _ _ (T91.setTop (mkF m 14 #[.val (.ref eFORBID), .val .null, .val (.ref r82), .val (.int (18 : Int32)), .val (.int (4 : Int32)), .val (.ref u3)] [(.int (4 : Int32))]))
  refine own_go (fun _ ww => XS.iloadN X91.here hx rfl (hb hby d1_14) rfl  ww) ?_
  show own_Goes _ _ _ _ _ _ _ (T91.setTop (mkF m 15 #[.val (.ref eFORBID), .val .null, .val (.ref r82), .val (.int (18 : Int32)), .val (.int (4 : Int32)), .val (.ref u3)] [(.int (18 : Int32)), (.int (4 : Int32))]))
  refine own_go (fun _ ww => XS.icmpNo X91.here hx rfl (hb hby d1_15) rfl (tlt (by decide : (4 : Int32) < (18 : Int32))).2.1 ww) ?_
  show own_Goes _ _ _ _ _ _ _ (T91.setTop (mkF m 18 #[.val (.ref eFORBID), .val .null, .val (.ref r82), .val (.int (18 : Int32)), .val (.int (4 : Int32)), .val (.ref u3)] []))
  refine own_go (fun _ ww => XS.aloadN X91.here hx rfl (hb hby d1_18) rfl rfl ww) ?_
  show own_Goes _ _ _ _ _ _ _ (T91.setTop (mkF m 19 #[.val (.ref eFORBID), .val .null, .val (.ref r82), .val (.int (18 : Int32)), .val (.int (4 : Int32)), .val (.ref u3)] [(.ref r82)]))
  refine own_go (fun _ ww => XS.iload X91.here hx rfl (hb hby d1_19) rfl  ww) ?_
  show own_Goes _ _ _ _ _ _ _ (T91.setTop (mkF m 21 #[.val (.ref eFORBID), .val .null, .val (.ref r82), .val (.int (18 : Int32)), .val (.int (4 : Int32)), .val (.ref u3)] [(.int (4 : Int32)), (.ref r82)]))
  obtain ⟨cl92, Ar92, -, S92, -, H92, -⟩ := id V82q
  have hin92 := inb_of (j := (4 : Int32)) S92 ⟨by decide, by decide⟩
  have hat92 : cl92.slots[((4 : Int32)).toNatClampNeg]? = some (.ref u4) := Has.at H92 hin92 rfl
  refine own_go (fun _ ww => X91.aaload hx (j := (4 : Int32)) (v := (.ref u4)) (by rw [e91]; exact Ar92.1) (State.isArrayOf_alike hZ.alike Ar92.2.1) rfl Ar92.2.2 hin92 hat92 (g := (mkF m 21 #[.val (.ref eFORBID), .val .null, .val (.ref r82), .val (.int (18 : Int32)), .val (.int (4 : Int32)), .val (.ref u3)] [(.int (4 : Int32)), (.ref r82)])) rfl rfl (hb hby d1_21) _ ww) ?_
  show own_Goes _ _ _ _ _ _ _ (T91.setTop (mkF m 22 #[.val (.ref eFORBID), .val .null, .val (.ref r82), .val (.int (18 : Int32)), .val (.int (4 : Int32)), .val (.ref u3)] [(.ref u4)]))
  refine own_go (fun _ ww => XS.astore X91.here hx rfl (hb hby d1_22) rfl rfl (l' := #[.val (.ref eFORBID), .val .null, .val (.ref r82), .val (.int (18 : Int32)), .val (.int (4 : Int32)), .val (.ref u4)]) rfl ww) ?_
  show own_Goes _ _ _ _ _ _ _ (T91.setTop (mkF m 24 #[.val (.ref eFORBID), .val .null, .val (.ref r82), .val (.int (18 : Int32)), .val (.int (4 : Int32)), .val (.ref u4)] []))
  refine own_go (fun _ ww => XS.aload X91.here hx rfl (hb hby d1_24) rfl rfl ww) ?_
  show own_Goes _ _ _ _ _ _ _ (T91.setTop (mkF m 26 #[.val (.ref eFORBID), .val .null, .val (.ref r82), .val (.int (18 : Int32)), .val (.int (4 : Int32)), .val (.ref u4)] [(.ref u4)]))
  obtain ⟨T93, X93, e93, st93⟩ := getF X91 hx hZ hown (host := "") (Or.inl (hw _ (List.mem_of_getElem? (i := 42) rfl))) Via.refl e91 (F4.ext O82.2) (g := (mkF m 26 #[.val (.ref eFORBID), .val .null, .val (.ref r82), .val (.int (18 : Int32)), .val (.int (4 : Int32)), .val (.ref u4)] [(.ref u4)])) rfl rfl (hb hby d1_26)
  refine own_go st93 ?_
  show own_Goes _ _ _ _ _ _ _ (T93.setTop (mkF m 29 #[.val (.ref eFORBID), .val .null, .val (.ref r82), .val (.int (18 : Int32)), .val (.int (4 : Int32)), .val (.ref u4)] [.null]))
  refine own_go (fun _ ww => XS.aloadN X93.here hx rfl (hb hby d1_29) rfl rfl ww) ?_
  show own_Goes _ _ _ _ _ _ _ (T93.setTop (mkF m 30 #[.val (.ref eFORBID), .val .null, .val (.ref r82), .val (.int (18 : Int32)), .val (.int (4 : Int32)), .val (.ref u4)] [(.ref eFORBID), .null]))
  refine own_go (fun _ ww => XT.acmpYes X93.here hx rfl (pc0 := 30) (pc' := 36) rfl (hb hby d1_30) rfl rfl rfl (XT.aa_ne_t (by simp)) (by decide) (by decide) ww) ?_
  show own_Goes _ _ _ _ _ _ _ (T93.setTop (mkF m 36 #[.val (.ref eFORBID), .val .null, .val (.ref r82), .val (.int (18 : Int32)), .val (.int (4 : Int32)), .val (.ref u4)] []))
  refine own_go (fun _ ww => XS.iinc X93.here hx rfl (hb hby d1_36) rfl (l' := #[.val (.ref eFORBID), .val .null, .val (.ref r82), .val (.int (18 : Int32)), .val (.int (5 : Int32)), .val (.ref u4)]) rfl ww) ?_
  show own_Goes _ _ _ _ _ _ _ (T93.setTop (mkF m 39 #[.val (.ref eFORBID), .val .null, .val (.ref r82), .val (.int (18 : Int32)), .val (.int (5 : Int32)), .val (.ref u4)] []))
  refine own_go (fun _ ww => XS.goto X93.here hx rfl (pc0 := 39) (pc' := 12) rfl (hb hby d1_39) (by decide) (by decide) ww) ?_
  show own_Goes _ _ _ _ _ _ _ (T93.setTop (mkF m 12 #[.val (.ref eFORBID), .val .null, .val (.ref r82), .val (.int (18 : Int32)), .val (.int (5 : Int32)), .val (.ref u4)] []))
  refine own_go (fun _ ww => XS.iload X93.here hx rfl (hb hby d1_12) rfl  ww) ?_
  show own_Goes _ _ _ _ _ _ _ (T93.setTop (mkF m 14 #[.val (.ref eFORBID), .val .null, .val (.ref r82), .val (.int (18 : Int32)), .val (.int (5 : Int32)), .val (.ref u4)] [(.int (5 : Int32))]))
  refine own_go (fun _ ww => XS.iloadN X93.here hx rfl (hb hby d1_14) rfl  ww) ?_
  show own_Goes _ _ _ _ _ _ _ (T93.setTop (mkF m 15 #[.val (.ref eFORBID), .val .null, .val (.ref r82), .val (.int (18 : Int32)), .val (.int (5 : Int32)), .val (.ref u4)] [(.int (18 : Int32)), (.int (5 : Int32))]))
  refine own_go (fun _ ww => XS.icmpNo X93.here hx rfl (hb hby d1_15) rfl (tlt (by decide : (5 : Int32) < (18 : Int32))).2.1 ww) ?_
  show own_Goes _ _ _ _ _ _ _ (T93.setTop (mkF m 18 #[.val (.ref eFORBID), .val .null, .val (.ref r82), .val (.int (18 : Int32)), .val (.int (5 : Int32)), .val (.ref u4)] []))
  refine own_go (fun _ ww => XS.aloadN X93.here hx rfl (hb hby d1_18) rfl rfl ww) ?_
  show own_Goes _ _ _ _ _ _ _ (T93.setTop (mkF m 19 #[.val (.ref eFORBID), .val .null, .val (.ref r82), .val (.int (18 : Int32)), .val (.int (5 : Int32)), .val (.ref u4)] [(.ref r82)]))
  refine own_go (fun _ ww => XS.iload X93.here hx rfl (hb hby d1_19) rfl  ww) ?_
  show own_Goes _ _ _ _ _ _ _ (T93.setTop (mkF m 21 #[.val (.ref eFORBID), .val .null, .val (.ref r82), .val (.int (18 : Int32)), .val (.int (5 : Int32)), .val (.ref u4)] [(.int (5 : Int32)), (.ref r82)]))
  obtain ⟨cl94, Ar94, -, S94, -, H94, -⟩ := id V82q
  have hin94 := inb_of (j := (5 : Int32)) S94 ⟨by decide, by decide⟩
  have hat94 : cl94.slots[((5 : Int32)).toNatClampNeg]? = some (.ref u5) := Has.at H94 hin94 rfl
  refine own_go (fun _ ww => X93.aaload hx (j := (5 : Int32)) (v := (.ref u5)) (by rw [e93]; exact Ar94.1) (State.isArrayOf_alike hZ.alike Ar94.2.1) rfl Ar94.2.2 hin94 hat94 (g := (mkF m 21 #[.val (.ref eFORBID), .val .null, .val (.ref r82), .val (.int (18 : Int32)), .val (.int (5 : Int32)), .val (.ref u4)] [(.int (5 : Int32)), (.ref r82)])) rfl rfl (hb hby d1_21) _ ww) ?_
  show own_Goes _ _ _ _ _ _ _ (T93.setTop (mkF m 22 #[.val (.ref eFORBID), .val .null, .val (.ref r82), .val (.int (18 : Int32)), .val (.int (5 : Int32)), .val (.ref u4)] [(.ref u5)]))
  refine own_go (fun _ ww => XS.astore X93.here hx rfl (hb hby d1_22) rfl rfl (l' := #[.val (.ref eFORBID), .val .null, .val (.ref r82), .val (.int (18 : Int32)), .val (.int (5 : Int32)), .val (.ref u5)]) rfl ww) ?_
  show own_Goes _ _ _ _ _ _ _ (T93.setTop (mkF m 24 #[.val (.ref eFORBID), .val .null, .val (.ref r82), .val (.int (18 : Int32)), .val (.int (5 : Int32)), .val (.ref u5)] []))
  refine own_go (fun _ ww => XS.aload X93.here hx rfl (hb hby d1_24) rfl rfl ww) ?_
  show own_Goes _ _ _ _ _ _ _ (T93.setTop (mkF m 26 #[.val (.ref eFORBID), .val .null, .val (.ref r82), .val (.int (18 : Int32)), .val (.int (5 : Int32)), .val (.ref u5)] [(.ref u5)]))
  obtain ⟨T95, X95, e95, st95⟩ := getF X93 hx hZ hown (host := "") (Or.inl (hw _ (List.mem_of_getElem? (i := 42) rfl))) Via.refl e93 (F5.ext O82.2) (g := (mkF m 26 #[.val (.ref eFORBID), .val .null, .val (.ref r82), .val (.int (18 : Int32)), .val (.int (5 : Int32)), .val (.ref u5)] [(.ref u5)])) rfl rfl (hb hby d1_26)
  refine own_go st95 ?_
  show own_Goes _ _ _ _ _ _ _ (T95.setTop (mkF m 29 #[.val (.ref eFORBID), .val .null, .val (.ref r82), .val (.int (18 : Int32)), .val (.int (5 : Int32)), .val (.ref u5)] [.null]))
  refine own_go (fun _ ww => XS.aloadN X95.here hx rfl (hb hby d1_29) rfl rfl ww) ?_
  show own_Goes _ _ _ _ _ _ _ (T95.setTop (mkF m 30 #[.val (.ref eFORBID), .val .null, .val (.ref r82), .val (.int (18 : Int32)), .val (.int (5 : Int32)), .val (.ref u5)] [(.ref eFORBID), .null]))
  refine own_go (fun _ ww => XT.acmpYes X95.here hx rfl (pc0 := 30) (pc' := 36) rfl (hb hby d1_30) rfl rfl rfl (XT.aa_ne_t (by simp)) (by decide) (by decide) ww) ?_
  show own_Goes _ _ _ _ _ _ _ (T95.setTop (mkF m 36 #[.val (.ref eFORBID), .val .null, .val (.ref r82), .val (.int (18 : Int32)), .val (.int (5 : Int32)), .val (.ref u5)] []))
  refine own_go (fun _ ww => XS.iinc X95.here hx rfl (hb hby d1_36) rfl (l' := #[.val (.ref eFORBID), .val .null, .val (.ref r82), .val (.int (18 : Int32)), .val (.int (6 : Int32)), .val (.ref u5)]) rfl ww) ?_
  show own_Goes _ _ _ _ _ _ _ (T95.setTop (mkF m 39 #[.val (.ref eFORBID), .val .null, .val (.ref r82), .val (.int (18 : Int32)), .val (.int (6 : Int32)), .val (.ref u5)] []))
  refine own_go (fun _ ww => XS.goto X95.here hx rfl (pc0 := 39) (pc' := 12) rfl (hb hby d1_39) (by decide) (by decide) ww) ?_
  show own_Goes _ _ _ _ _ _ _ (T95.setTop (mkF m 12 #[.val (.ref eFORBID), .val .null, .val (.ref r82), .val (.int (18 : Int32)), .val (.int (6 : Int32)), .val (.ref u5)] []))
  refine own_go (fun _ ww => XS.iload X95.here hx rfl (hb hby d1_12) rfl  ww) ?_
  show own_Goes _ _ _ _ _ _ _ (T95.setTop (mkF m 14 #[.val (.ref eFORBID), .val .null, .val (.ref r82), .val (.int (18 : Int32)), .val (.int (6 : Int32)), .val (.ref u5)] [(.int (6 : Int32))]))
  refine own_go (fun _ ww => XS.iloadN X95.here hx rfl (hb hby d1_14) rfl  ww) ?_
  show own_Goes _ _ _ _ _ _ _ (T95.setTop (mkF m 15 #[.val (.ref eFORBID), .val .null, .val (.ref r82), .val (.int (18 : Int32)), .val (.int (6 : Int32)), .val (.ref u5)] [(.int (18 : Int32)), (.int (6 : Int32))]))
  refine own_go (fun _ ww => XS.icmpNo X95.here hx rfl (hb hby d1_15) rfl (tlt (by decide : (6 : Int32) < (18 : Int32))).2.1 ww) ?_
  show own_Goes _ _ _ _ _ _ _ (T95.setTop (mkF m 18 #[.val (.ref eFORBID), .val .null, .val (.ref r82), .val (.int (18 : Int32)), .val (.int (6 : Int32)), .val (.ref u5)] []))
  refine own_go (fun _ ww => XS.aloadN X95.here hx rfl (hb hby d1_18) rfl rfl ww) ?_
  show own_Goes _ _ _ _ _ _ _ (T95.setTop (mkF m 19 #[.val (.ref eFORBID), .val .null, .val (.ref r82), .val (.int (18 : Int32)), .val (.int (6 : Int32)), .val (.ref u5)] [(.ref r82)]))
  refine own_go (fun _ ww => XS.iload X95.here hx rfl (hb hby d1_19) rfl  ww) ?_
  show own_Goes _ _ _ _ _ _ _ (T95.setTop (mkF m 21 #[.val (.ref eFORBID), .val .null, .val (.ref r82), .val (.int (18 : Int32)), .val (.int (6 : Int32)), .val (.ref u5)] [(.int (6 : Int32)), (.ref r82)]))
  obtain ⟨cl96, Ar96, -, S96, -, H96, -⟩ := id V82q
  have hin96 := inb_of (j := (6 : Int32)) S96 ⟨by decide, by decide⟩
  have hat96 : cl96.slots[((6 : Int32)).toNatClampNeg]? = some (.ref u6) := Has.at H96 hin96 rfl
  refine own_go (fun _ ww => X95.aaload hx (j := (6 : Int32)) (v := (.ref u6)) (by rw [e95]; exact Ar96.1) (State.isArrayOf_alike hZ.alike Ar96.2.1) rfl Ar96.2.2 hin96 hat96 (g := (mkF m 21 #[.val (.ref eFORBID), .val .null, .val (.ref r82), .val (.int (18 : Int32)), .val (.int (6 : Int32)), .val (.ref u5)] [(.int (6 : Int32)), (.ref r82)])) rfl rfl (hb hby d1_21) _ ww) ?_
  show own_Goes _ _ _ _ _ _ _ (T95.setTop (mkF m 22 #[.val (.ref eFORBID), .val .null, .val (.ref r82), .val (.int (18 : Int32)), .val (.int (6 : Int32)), .val (.ref u5)] [(.ref u6)]))
  refine own_go (fun _ ww => XS.astore X95.here hx rfl (hb hby d1_22) rfl rfl (l' := #[.val (.ref eFORBID), .val .null, .val (.ref r82), .val (.int (18 : Int32)), .val (.int (6 : Int32)), .val (.ref u6)]) rfl ww) ?_
  show own_Goes _ _ _ _ _ _ _ (T95.setTop (mkF m 24 #[.val (.ref eFORBID), .val .null, .val (.ref r82), .val (.int (18 : Int32)), .val (.int (6 : Int32)), .val (.ref u6)] []))
  refine own_go (fun _ ww => XS.aload X95.here hx rfl (hb hby d1_24) rfl rfl ww) ?_
  show own_Goes _ _ _ _ _ _ _ (T95.setTop (mkF m 26 #[.val (.ref eFORBID), .val .null, .val (.ref r82), .val (.int (18 : Int32)), .val (.int (6 : Int32)), .val (.ref u6)] [(.ref u6)]))
  obtain ⟨T97, X97, e97, st97⟩ := getF X95 hx hZ hown (host := "") (Or.inl (hw _ (List.mem_of_getElem? (i := 42) rfl))) Via.refl e95 (F6.ext O82.2) (g := (mkF m 26 #[.val (.ref eFORBID), .val .null, .val (.ref r82), .val (.int (18 : Int32)), .val (.int (6 : Int32)), .val (.ref u6)] [(.ref u6)])) rfl rfl (hb hby d1_26)
  refine own_go st97 ?_
  show own_Goes _ _ _ _ _ _ _ (T97.setTop (mkF m 29 #[.val (.ref eFORBID), .val .null, .val (.ref r82), .val (.int (18 : Int32)), .val (.int (6 : Int32)), .val (.ref u6)] [.null]))
  refine own_go (fun _ ww => XS.aloadN X97.here hx rfl (hb hby d1_29) rfl rfl ww) ?_
  show own_Goes _ _ _ _ _ _ _ (T97.setTop (mkF m 30 #[.val (.ref eFORBID), .val .null, .val (.ref r82), .val (.int (18 : Int32)), .val (.int (6 : Int32)), .val (.ref u6)] [(.ref eFORBID), .null]))
  refine own_go (fun _ ww => XT.acmpYes X97.here hx rfl (pc0 := 30) (pc' := 36) rfl (hb hby d1_30) rfl rfl rfl (XT.aa_ne_t (by simp)) (by decide) (by decide) ww) ?_
  show own_Goes _ _ _ _ _ _ _ (T97.setTop (mkF m 36 #[.val (.ref eFORBID), .val .null, .val (.ref r82), .val (.int (18 : Int32)), .val (.int (6 : Int32)), .val (.ref u6)] []))
  refine own_go (fun _ ww => XS.iinc X97.here hx rfl (hb hby d1_36) rfl (l' := #[.val (.ref eFORBID), .val .null, .val (.ref r82), .val (.int (18 : Int32)), .val (.int (7 : Int32)), .val (.ref u6)]) rfl ww) ?_
  show own_Goes _ _ _ _ _ _ _ (T97.setTop (mkF m 39 #[.val (.ref eFORBID), .val .null, .val (.ref r82), .val (.int (18 : Int32)), .val (.int (7 : Int32)), .val (.ref u6)] []))
  refine own_go (fun _ ww => XS.goto X97.here hx rfl (pc0 := 39) (pc' := 12) rfl (hb hby d1_39) (by decide) (by decide) ww) ?_
  show own_Goes _ _ _ _ _ _ _ (T97.setTop (mkF m 12 #[.val (.ref eFORBID), .val .null, .val (.ref r82), .val (.int (18 : Int32)), .val (.int (7 : Int32)), .val (.ref u6)] []))
  refine own_go (fun _ ww => XS.iload X97.here hx rfl (hb hby d1_12) rfl  ww) ?_
  show own_Goes _ _ _ _ _ _ _ (T97.setTop (mkF m 14 #[.val (.ref eFORBID), .val .null, .val (.ref r82), .val (.int (18 : Int32)), .val (.int (7 : Int32)), .val (.ref u6)] [(.int (7 : Int32))]))
  refine own_go (fun _ ww => XS.iloadN X97.here hx rfl (hb hby d1_14) rfl  ww) ?_
  show own_Goes _ _ _ _ _ _ _ (T97.setTop (mkF m 15 #[.val (.ref eFORBID), .val .null, .val (.ref r82), .val (.int (18 : Int32)), .val (.int (7 : Int32)), .val (.ref u6)] [(.int (18 : Int32)), (.int (7 : Int32))]))
  refine own_go (fun _ ww => XS.icmpNo X97.here hx rfl (hb hby d1_15) rfl (tlt (by decide : (7 : Int32) < (18 : Int32))).2.1 ww) ?_
  show own_Goes _ _ _ _ _ _ _ (T97.setTop (mkF m 18 #[.val (.ref eFORBID), .val .null, .val (.ref r82), .val (.int (18 : Int32)), .val (.int (7 : Int32)), .val (.ref u6)] []))
  refine own_go (fun _ ww => XS.aloadN X97.here hx rfl (hb hby d1_18) rfl rfl ww) ?_
  show own_Goes _ _ _ _ _ _ _ (T97.setTop (mkF m 19 #[.val (.ref eFORBID), .val .null, .val (.ref r82), .val (.int (18 : Int32)), .val (.int (7 : Int32)), .val (.ref u6)] [(.ref r82)]))
  refine own_go (fun _ ww => XS.iload X97.here hx rfl (hb hby d1_19) rfl  ww) ?_
  show own_Goes _ _ _ _ _ _ _ (T97.setTop (mkF m 21 #[.val (.ref eFORBID), .val .null, .val (.ref r82), .val (.int (18 : Int32)), .val (.int (7 : Int32)), .val (.ref u6)] [(.int (7 : Int32)), (.ref r82)]))
  obtain ⟨cl98, Ar98, -, S98, -, H98, -⟩ := id V82q
  have hin98 := inb_of (j := (7 : Int32)) S98 ⟨by decide, by decide⟩
  have hat98 : cl98.slots[((7 : Int32)).toNatClampNeg]? = some (.ref u7) := Has.at H98 hin98 rfl
  refine own_go (fun _ ww => X97.aaload hx (j := (7 : Int32)) (v := (.ref u7)) (by rw [e97]; exact Ar98.1) (State.isArrayOf_alike hZ.alike Ar98.2.1) rfl Ar98.2.2 hin98 hat98 (g := (mkF m 21 #[.val (.ref eFORBID), .val .null, .val (.ref r82), .val (.int (18 : Int32)), .val (.int (7 : Int32)), .val (.ref u6)] [(.int (7 : Int32)), (.ref r82)])) rfl rfl (hb hby d1_21) _ ww) ?_
  show own_Goes _ _ _ _ _ _ _ (T97.setTop (mkF m 22 #[.val (.ref eFORBID), .val .null, .val (.ref r82), .val (.int (18 : Int32)), .val (.int (7 : Int32)), .val (.ref u6)] [(.ref u7)]))
  refine own_go (fun _ ww => XS.astore X97.here hx rfl (hb hby d1_22) rfl rfl (l' := #[.val (.ref eFORBID), .val .null, .val (.ref r82), .val (.int (18 : Int32)), .val (.int (7 : Int32)), .val (.ref u7)]) rfl ww) ?_
  show own_Goes _ _ _ _ _ _ _ (T97.setTop (mkF m 24 #[.val (.ref eFORBID), .val .null, .val (.ref r82), .val (.int (18 : Int32)), .val (.int (7 : Int32)), .val (.ref u7)] []))
  refine own_go (fun _ ww => XS.aload X97.here hx rfl (hb hby d1_24) rfl rfl ww) ?_
  show own_Goes _ _ _ _ _ _ _ (T97.setTop (mkF m 26 #[.val (.ref eFORBID), .val .null, .val (.ref r82), .val (.int (18 : Int32)), .val (.int (7 : Int32)), .val (.ref u7)] [(.ref u7)]))
  obtain ⟨T99, X99, e99, st99⟩ := getF X97 hx hZ hown (host := "") (Or.inl (hw _ (List.mem_of_getElem? (i := 42) rfl))) Via.refl e97 (F7.ext O82.2) (g := (mkF m 26 #[.val (.ref eFORBID), .val .null, .val (.ref r82), .val (.int (18 : Int32)), .val (.int (7 : Int32)), .val (.ref u7)] [(.ref u7)])) rfl rfl (hb hby d1_26)
  refine own_go st99 ?_
  show own_Goes _ _ _ _ _ _ _ (T99.setTop (mkF m 29 #[.val (.ref eFORBID), .val .null, .val (.ref r82), .val (.int (18 : Int32)), .val (.int (7 : Int32)), .val (.ref u7)] [.null]))
  refine own_go (fun _ ww => XS.aloadN X99.here hx rfl (hb hby d1_29) rfl rfl ww) ?_
  show own_Goes _ _ _ _ _ _ _ (T99.setTop (mkF m 30 #[.val (.ref eFORBID), .val .null, .val (.ref r82), .val (.int (18 : Int32)), .val (.int (7 : Int32)), .val (.ref u7)] [(.ref eFORBID), .null]))
  refine own_go (fun _ ww => XT.acmpYes X99.here hx rfl (pc0 := 30) (pc' := 36) rfl (hb hby d1_30) rfl rfl rfl (XT.aa_ne_t (by simp)) (by decide) (by decide) ww) ?_
  show own_Goes _ _ _ _ _ _ _ (T99.setTop (mkF m 36 #[.val (.ref eFORBID), .val .null, .val (.ref r82), .val (.int (18 : Int32)), .val (.int (7 : Int32)), .val (.ref u7)] []))
  refine own_go (fun _ ww => XS.iinc X99.here hx rfl (hb hby d1_36) rfl (l' := #[.val (.ref eFORBID), .val .null, .val (.ref r82), .val (.int (18 : Int32)), .val (.int (8 : Int32)), .val (.ref u7)]) rfl ww) ?_
  show own_Goes _ _ _ _ _ _ _ (T99.setTop (mkF m 39 #[.val (.ref eFORBID), .val .null, .val (.ref r82), .val (.int (18 : Int32)), .val (.int (8 : Int32)), .val (.ref u7)] []))
  refine own_go (fun _ ww => XS.goto X99.here hx rfl (pc0 := 39) (pc' := 12) rfl (hb hby d1_39) (by decide) (by decide) ww) ?_
  show own_Goes _ _ _ _ _ _ _ (T99.setTop (mkF m 12 #[.val (.ref eFORBID), .val .null, .val (.ref r82), .val (.int (18 : Int32)), .val (.int (8 : Int32)), .val (.ref u7)] []))
  refine own_go (fun _ ww => XS.iload X99.here hx rfl (hb hby d1_12) rfl  ww) ?_
  show own_Goes _ _ _ _ _ _ _ (T99.setTop (mkF m 14 #[.val (.ref eFORBID), .val .null, .val (.ref r82), .val (.int (18 : Int32)), .val (.int (8 : Int32)), .val (.ref u7)] [(.int (8 : Int32))]))
  refine own_go (fun _ ww => XS.iloadN X99.here hx rfl (hb hby d1_14) rfl  ww) ?_
  show own_Goes _ _ _ _ _ _ _ (T99.setTop (mkF m 15 #[.val (.ref eFORBID), .val .null, .val (.ref r82), .val (.int (18 : Int32)), .val (.int (8 : Int32)), .val (.ref u7)] [(.int (18 : Int32)), (.int (8 : Int32))]))
  refine own_go (fun _ ww => XS.icmpNo X99.here hx rfl (hb hby d1_15) rfl (tlt (by decide : (8 : Int32) < (18 : Int32))).2.1 ww) ?_
  show own_Goes _ _ _ _ _ _ _ (T99.setTop (mkF m 18 #[.val (.ref eFORBID), .val .null, .val (.ref r82), .val (.int (18 : Int32)), .val (.int (8 : Int32)), .val (.ref u7)] []))
  refine own_go (fun _ ww => XS.aloadN X99.here hx rfl (hb hby d1_18) rfl rfl ww) ?_
  show own_Goes _ _ _ _ _ _ _ (T99.setTop (mkF m 19 #[.val (.ref eFORBID), .val .null, .val (.ref r82), .val (.int (18 : Int32)), .val (.int (8 : Int32)), .val (.ref u7)] [(.ref r82)]))
  refine own_go (fun _ ww => XS.iload X99.here hx rfl (hb hby d1_19) rfl  ww) ?_
  show own_Goes _ _ _ _ _ _ _ (T99.setTop (mkF m 21 #[.val (.ref eFORBID), .val .null, .val (.ref r82), .val (.int (18 : Int32)), .val (.int (8 : Int32)), .val (.ref u7)] [(.int (8 : Int32)), (.ref r82)]))
  obtain ⟨cl100, Ar100, -, S100, -, H100, -⟩ := id V82q
  have hin100 := inb_of (j := (8 : Int32)) S100 ⟨by decide, by decide⟩
  have hat100 : cl100.slots[((8 : Int32)).toNatClampNeg]? = some (.ref u8) := Has.at H100 hin100 rfl
  refine own_go (fun _ ww => X99.aaload hx (j := (8 : Int32)) (v := (.ref u8)) (by rw [e99]; exact Ar100.1) (State.isArrayOf_alike hZ.alike Ar100.2.1) rfl Ar100.2.2 hin100 hat100 (g := (mkF m 21 #[.val (.ref eFORBID), .val .null, .val (.ref r82), .val (.int (18 : Int32)), .val (.int (8 : Int32)), .val (.ref u7)] [(.int (8 : Int32)), (.ref r82)])) rfl rfl (hb hby d1_21) _ ww) ?_
  show own_Goes _ _ _ _ _ _ _ (T99.setTop (mkF m 22 #[.val (.ref eFORBID), .val .null, .val (.ref r82), .val (.int (18 : Int32)), .val (.int (8 : Int32)), .val (.ref u7)] [(.ref u8)]))
  refine own_go (fun _ ww => XS.astore X99.here hx rfl (hb hby d1_22) rfl rfl (l' := #[.val (.ref eFORBID), .val .null, .val (.ref r82), .val (.int (18 : Int32)), .val (.int (8 : Int32)), .val (.ref u8)]) rfl ww) ?_
  show own_Goes _ _ _ _ _ _ _ (T99.setTop (mkF m 24 #[.val (.ref eFORBID), .val .null, .val (.ref r82), .val (.int (18 : Int32)), .val (.int (8 : Int32)), .val (.ref u8)] []))
  refine own_go (fun _ ww => XS.aload X99.here hx rfl (hb hby d1_24) rfl rfl ww) ?_
  show own_Goes _ _ _ _ _ _ _ (T99.setTop (mkF m 26 #[.val (.ref eFORBID), .val .null, .val (.ref r82), .val (.int (18 : Int32)), .val (.int (8 : Int32)), .val (.ref u8)] [(.ref u8)]))
  obtain ⟨T101, X101, e101, st101⟩ := getF X99 hx hZ hown (host := "") (Or.inl (hw _ (List.mem_of_getElem? (i := 42) rfl))) Via.refl e99 (F8.ext O82.2) (g := (mkF m 26 #[.val (.ref eFORBID), .val .null, .val (.ref r82), .val (.int (18 : Int32)), .val (.int (8 : Int32)), .val (.ref u8)] [(.ref u8)])) rfl rfl (hb hby d1_26)
  refine own_go st101 ?_
  show own_Goes _ _ _ _ _ _ _ (T101.setTop (mkF m 29 #[.val (.ref eFORBID), .val .null, .val (.ref r82), .val (.int (18 : Int32)), .val (.int (8 : Int32)), .val (.ref u8)] [.null]))
  refine own_go (fun _ ww => XS.aloadN X101.here hx rfl (hb hby d1_29) rfl rfl ww) ?_
  show own_Goes _ _ _ _ _ _ _ (T101.setTop (mkF m 30 #[.val (.ref eFORBID), .val .null, .val (.ref r82), .val (.int (18 : Int32)), .val (.int (8 : Int32)), .val (.ref u8)] [(.ref eFORBID), .null]))
  refine own_go (fun _ ww => XT.acmpYes X101.here hx rfl (pc0 := 30) (pc' := 36) rfl (hb hby d1_30) rfl rfl rfl (XT.aa_ne_t (by simp)) (by decide) (by decide) ww) ?_
  show own_Goes _ _ _ _ _ _ _ (T101.setTop (mkF m 36 #[.val (.ref eFORBID), .val .null, .val (.ref r82), .val (.int (18 : Int32)), .val (.int (8 : Int32)), .val (.ref u8)] []))
  refine own_go (fun _ ww => XS.iinc X101.here hx rfl (hb hby d1_36) rfl (l' := #[.val (.ref eFORBID), .val .null, .val (.ref r82), .val (.int (18 : Int32)), .val (.int (9 : Int32)), .val (.ref u8)]) rfl ww) ?_
  show own_Goes _ _ _ _ _ _ _ (T101.setTop (mkF m 39 #[.val (.ref eFORBID), .val .null, .val (.ref r82), .val (.int (18 : Int32)), .val (.int (9 : Int32)), .val (.ref u8)] []))
  refine own_go (fun _ ww => XS.goto X101.here hx rfl (pc0 := 39) (pc' := 12) rfl (hb hby d1_39) (by decide) (by decide) ww) ?_
  show own_Goes _ _ _ _ _ _ _ (T101.setTop (mkF m 12 #[.val (.ref eFORBID), .val .null, .val (.ref r82), .val (.int (18 : Int32)), .val (.int (9 : Int32)), .val (.ref u8)] []))
  refine own_go (fun _ ww => XS.iload X101.here hx rfl (hb hby d1_12) rfl  ww) ?_
  show own_Goes _ _ _ _ _ _ _ (T101.setTop (mkF m 14 #[.val (.ref eFORBID), .val .null, .val (.ref r82), .val (.int (18 : Int32)), .val (.int (9 : Int32)), .val (.ref u8)] [(.int (9 : Int32))]))
  refine own_go (fun _ ww => XS.iloadN X101.here hx rfl (hb hby d1_14) rfl  ww) ?_
  show own_Goes _ _ _ _ _ _ _ (T101.setTop (mkF m 15 #[.val (.ref eFORBID), .val .null, .val (.ref r82), .val (.int (18 : Int32)), .val (.int (9 : Int32)), .val (.ref u8)] [(.int (18 : Int32)), (.int (9 : Int32))]))
  refine own_go (fun _ ww => XS.icmpNo X101.here hx rfl (hb hby d1_15) rfl (tlt (by decide : (9 : Int32) < (18 : Int32))).2.1 ww) ?_
  show own_Goes _ _ _ _ _ _ _ (T101.setTop (mkF m 18 #[.val (.ref eFORBID), .val .null, .val (.ref r82), .val (.int (18 : Int32)), .val (.int (9 : Int32)), .val (.ref u8)] []))
  refine own_go (fun _ ww => XS.aloadN X101.here hx rfl (hb hby d1_18) rfl rfl ww) ?_
  show own_Goes _ _ _ _ _ _ _ (T101.setTop (mkF m 19 #[.val (.ref eFORBID), .val .null, .val (.ref r82), .val (.int (18 : Int32)), .val (.int (9 : Int32)), .val (.ref u8)] [(.ref r82)]))
  refine own_go (fun _ ww => XS.iload X101.here hx rfl (hb hby d1_19) rfl  ww) ?_
  show own_Goes _ _ _ _ _ _ _ (T101.setTop (mkF m 21 #[.val (.ref eFORBID), .val .null, .val (.ref r82), .val (.int (18 : Int32)), .val (.int (9 : Int32)), .val (.ref u8)] [(.int (9 : Int32)), (.ref r82)]))
  obtain ⟨cl102, Ar102, -, S102, -, H102, -⟩ := id V82q
  have hin102 := inb_of (j := (9 : Int32)) S102 ⟨by decide, by decide⟩
  have hat102 : cl102.slots[((9 : Int32)).toNatClampNeg]? = some (.ref u9) := Has.at H102 hin102 rfl
  refine own_go (fun _ ww => X101.aaload hx (j := (9 : Int32)) (v := (.ref u9)) (by rw [e101]; exact Ar102.1) (State.isArrayOf_alike hZ.alike Ar102.2.1) rfl Ar102.2.2 hin102 hat102 (g := (mkF m 21 #[.val (.ref eFORBID), .val .null, .val (.ref r82), .val (.int (18 : Int32)), .val (.int (9 : Int32)), .val (.ref u8)] [(.int (9 : Int32)), (.ref r82)])) rfl rfl (hb hby d1_21) _ ww) ?_
  show own_Goes _ _ _ _ _ _ _ (T101.setTop (mkF m 22 #[.val (.ref eFORBID), .val .null, .val (.ref r82), .val (.int (18 : Int32)), .val (.int (9 : Int32)), .val (.ref u8)] [(.ref u9)]))
  refine own_go (fun _ ww => XS.astore X101.here hx rfl (hb hby d1_22) rfl rfl (l' := #[.val (.ref eFORBID), .val .null, .val (.ref r82), .val (.int (18 : Int32)), .val (.int (9 : Int32)), .val (.ref u9)]) rfl ww) ?_
  show own_Goes _ _ _ _ _ _ _ (T101.setTop (mkF m 24 #[.val (.ref eFORBID), .val .null, .val (.ref r82), .val (.int (18 : Int32)), .val (.int (9 : Int32)), .val (.ref u9)] []))
  refine own_go (fun _ ww => XS.aload X101.here hx rfl (hb hby d1_24) rfl rfl ww) ?_
  show own_Goes _ _ _ _ _ _ _ (T101.setTop (mkF m 26 #[.val (.ref eFORBID), .val .null, .val (.ref r82), .val (.int (18 : Int32)), .val (.int (9 : Int32)), .val (.ref u9)] [(.ref u9)]))
  obtain ⟨T103, X103, e103, st103⟩ := getF X101 hx hZ hown (host := "") (Or.inl (hw _ (List.mem_of_getElem? (i := 42) rfl))) Via.refl e101 (F9.ext O82.2) (g := (mkF m 26 #[.val (.ref eFORBID), .val .null, .val (.ref r82), .val (.int (18 : Int32)), .val (.int (9 : Int32)), .val (.ref u9)] [(.ref u9)])) rfl rfl (hb hby d1_26)
  refine own_go st103 ?_
  show own_Goes _ _ _ _ _ _ _ (T103.setTop (mkF m 29 #[.val (.ref eFORBID), .val .null, .val (.ref r82), .val (.int (18 : Int32)), .val (.int (9 : Int32)), .val (.ref u9)] [.null]))
  refine own_go (fun _ ww => XS.aloadN X103.here hx rfl (hb hby d1_29) rfl rfl ww) ?_
  show own_Goes _ _ _ _ _ _ _ (T103.setTop (mkF m 30 #[.val (.ref eFORBID), .val .null, .val (.ref r82), .val (.int (18 : Int32)), .val (.int (9 : Int32)), .val (.ref u9)] [(.ref eFORBID), .null]))
  refine own_go (fun _ ww => XT.acmpYes X103.here hx rfl (pc0 := 30) (pc' := 36) rfl (hb hby d1_30) rfl rfl rfl (XT.aa_ne_t (by simp)) (by decide) (by decide) ww) ?_
  show own_Goes _ _ _ _ _ _ _ (T103.setTop (mkF m 36 #[.val (.ref eFORBID), .val .null, .val (.ref r82), .val (.int (18 : Int32)), .val (.int (9 : Int32)), .val (.ref u9)] []))
  refine own_go (fun _ ww => XS.iinc X103.here hx rfl (hb hby d1_36) rfl (l' := #[.val (.ref eFORBID), .val .null, .val (.ref r82), .val (.int (18 : Int32)), .val (.int (10 : Int32)), .val (.ref u9)]) rfl ww) ?_
  show own_Goes _ _ _ _ _ _ _ (T103.setTop (mkF m 39 #[.val (.ref eFORBID), .val .null, .val (.ref r82), .val (.int (18 : Int32)), .val (.int (10 : Int32)), .val (.ref u9)] []))
  refine own_go (fun _ ww => XS.goto X103.here hx rfl (pc0 := 39) (pc' := 12) rfl (hb hby d1_39) (by decide) (by decide) ww) ?_
  show own_Goes _ _ _ _ _ _ _ (T103.setTop (mkF m 12 #[.val (.ref eFORBID), .val .null, .val (.ref r82), .val (.int (18 : Int32)), .val (.int (10 : Int32)), .val (.ref u9)] []))
  refine own_go (fun _ ww => XS.iload X103.here hx rfl (hb hby d1_12) rfl  ww) ?_
  show own_Goes _ _ _ _ _ _ _ (T103.setTop (mkF m 14 #[.val (.ref eFORBID), .val .null, .val (.ref r82), .val (.int (18 : Int32)), .val (.int (10 : Int32)), .val (.ref u9)] [(.int (10 : Int32))]))
  refine own_go (fun _ ww => XS.iloadN X103.here hx rfl (hb hby d1_14) rfl  ww) ?_
  show own_Goes _ _ _ _ _ _ _ (T103.setTop (mkF m 15 #[.val (.ref eFORBID), .val .null, .val (.ref r82), .val (.int (18 : Int32)), .val (.int (10 : Int32)), .val (.ref u9)] [(.int (18 : Int32)), (.int (10 : Int32))]))
  refine own_go (fun _ ww => XS.icmpNo X103.here hx rfl (hb hby d1_15) rfl (tlt (by decide : (10 : Int32) < (18 : Int32))).2.1 ww) ?_
  show own_Goes _ _ _ _ _ _ _ (T103.setTop (mkF m 18 #[.val (.ref eFORBID), .val .null, .val (.ref r82), .val (.int (18 : Int32)), .val (.int (10 : Int32)), .val (.ref u9)] []))
  refine own_go (fun _ ww => XS.aloadN X103.here hx rfl (hb hby d1_18) rfl rfl ww) ?_
  show own_Goes _ _ _ _ _ _ _ (T103.setTop (mkF m 19 #[.val (.ref eFORBID), .val .null, .val (.ref r82), .val (.int (18 : Int32)), .val (.int (10 : Int32)), .val (.ref u9)] [(.ref r82)]))
  refine own_go (fun _ ww => XS.iload X103.here hx rfl (hb hby d1_19) rfl  ww) ?_
  show own_Goes _ _ _ _ _ _ _ (T103.setTop (mkF m 21 #[.val (.ref eFORBID), .val .null, .val (.ref r82), .val (.int (18 : Int32)), .val (.int (10 : Int32)), .val (.ref u9)] [(.int (10 : Int32)), (.ref r82)]))
  obtain ⟨cl104, Ar104, -, S104, -, H104, -⟩ := id V82q
  have hin104 := inb_of (j := (10 : Int32)) S104 ⟨by decide, by decide⟩
  have hat104 : cl104.slots[((10 : Int32)).toNatClampNeg]? = some (.ref u10) := Has.at H104 hin104 rfl
  refine own_go (fun _ ww => X103.aaload hx (j := (10 : Int32)) (v := (.ref u10)) (by rw [e103]; exact Ar104.1) (State.isArrayOf_alike hZ.alike Ar104.2.1) rfl Ar104.2.2 hin104 hat104 (g := (mkF m 21 #[.val (.ref eFORBID), .val .null, .val (.ref r82), .val (.int (18 : Int32)), .val (.int (10 : Int32)), .val (.ref u9)] [(.int (10 : Int32)), (.ref r82)])) rfl rfl (hb hby d1_21) _ ww) ?_
  show own_Goes _ _ _ _ _ _ _ (T103.setTop (mkF m 22 #[.val (.ref eFORBID), .val .null, .val (.ref r82), .val (.int (18 : Int32)), .val (.int (10 : Int32)), .val (.ref u9)] [(.ref u10)]))
  refine own_go (fun _ ww => XS.astore X103.here hx rfl (hb hby d1_22) rfl rfl (l' := #[.val (.ref eFORBID), .val .null, .val (.ref r82), .val (.int (18 : Int32)), .val (.int (10 : Int32)), .val (.ref u10)]) rfl ww) ?_
  show own_Goes _ _ _ _ _ _ _ (T103.setTop (mkF m 24 #[.val (.ref eFORBID), .val .null, .val (.ref r82), .val (.int (18 : Int32)), .val (.int (10 : Int32)), .val (.ref u10)] []))
  refine own_go (fun _ ww => XS.aload X103.here hx rfl (hb hby d1_24) rfl rfl ww) ?_
  show own_Goes _ _ _ _ _ _ _ (T103.setTop (mkF m 26 #[.val (.ref eFORBID), .val .null, .val (.ref r82), .val (.int (18 : Int32)), .val (.int (10 : Int32)), .val (.ref u10)] [(.ref u10)]))
  obtain ⟨T105, X105, e105, st105⟩ := getF X103 hx hZ hown (host := "") (Or.inl (hw _ (List.mem_of_getElem? (i := 42) rfl))) Via.refl e103 (F10.ext O82.2) (g := (mkF m 26 #[.val (.ref eFORBID), .val .null, .val (.ref r82), .val (.int (18 : Int32)), .val (.int (10 : Int32)), .val (.ref u10)] [(.ref u10)])) rfl rfl (hb hby d1_26)
  refine own_go st105 ?_
  show own_Goes _ _ _ _ _ _ _ (T105.setTop (mkF m 29 #[.val (.ref eFORBID), .val .null, .val (.ref r82), .val (.int (18 : Int32)), .val (.int (10 : Int32)), .val (.ref u10)] [.null]))
  refine own_go (fun _ ww => XS.aloadN X105.here hx rfl (hb hby d1_29) rfl rfl ww) ?_
  show own_Goes _ _ _ _ _ _ _ (T105.setTop (mkF m 30 #[.val (.ref eFORBID), .val .null, .val (.ref r82), .val (.int (18 : Int32)), .val (.int (10 : Int32)), .val (.ref u10)] [(.ref eFORBID), .null]))
  refine own_go (fun _ ww => XT.acmpYes X105.here hx rfl (pc0 := 30) (pc' := 36) rfl (hb hby d1_30) rfl rfl rfl (XT.aa_ne_t (by simp)) (by decide) (by decide) ww) ?_
  show own_Goes _ _ _ _ _ _ _ (T105.setTop (mkF m 36 #[.val (.ref eFORBID), .val .null, .val (.ref r82), .val (.int (18 : Int32)), .val (.int (10 : Int32)), .val (.ref u10)] []))
  refine own_go (fun _ ww => XS.iinc X105.here hx rfl (hb hby d1_36) rfl (l' := #[.val (.ref eFORBID), .val .null, .val (.ref r82), .val (.int (18 : Int32)), .val (.int (11 : Int32)), .val (.ref u10)]) rfl ww) ?_
  show own_Goes _ _ _ _ _ _ _ (T105.setTop (mkF m 39 #[.val (.ref eFORBID), .val .null, .val (.ref r82), .val (.int (18 : Int32)), .val (.int (11 : Int32)), .val (.ref u10)] []))
  refine own_go (fun _ ww => XS.goto X105.here hx rfl (pc0 := 39) (pc' := 12) rfl (hb hby d1_39) (by decide) (by decide) ww) ?_
  show own_Goes _ _ _ _ _ _ _ (T105.setTop (mkF m 12 #[.val (.ref eFORBID), .val .null, .val (.ref r82), .val (.int (18 : Int32)), .val (.int (11 : Int32)), .val (.ref u10)] []))
  refine own_go (fun _ ww => XS.iload X105.here hx rfl (hb hby d1_12) rfl  ww) ?_
  show own_Goes _ _ _ _ _ _ _ (T105.setTop (mkF m 14 #[.val (.ref eFORBID), .val .null, .val (.ref r82), .val (.int (18 : Int32)), .val (.int (11 : Int32)), .val (.ref u10)] [(.int (11 : Int32))]))
  refine own_go (fun _ ww => XS.iloadN X105.here hx rfl (hb hby d1_14) rfl  ww) ?_
  show own_Goes _ _ _ _ _ _ _ (T105.setTop (mkF m 15 #[.val (.ref eFORBID), .val .null, .val (.ref r82), .val (.int (18 : Int32)), .val (.int (11 : Int32)), .val (.ref u10)] [(.int (18 : Int32)), (.int (11 : Int32))]))
  refine own_go (fun _ ww => XS.icmpNo X105.here hx rfl (hb hby d1_15) rfl (tlt (by decide : (11 : Int32) < (18 : Int32))).2.1 ww) ?_
  show own_Goes _ _ _ _ _ _ _ (T105.setTop (mkF m 18 #[.val (.ref eFORBID), .val .null, .val (.ref r82), .val (.int (18 : Int32)), .val (.int (11 : Int32)), .val (.ref u10)] []))
  refine own_go (fun _ ww => XS.aloadN X105.here hx rfl (hb hby d1_18) rfl rfl ww) ?_
  show own_Goes _ _ _ _ _ _ _ (T105.setTop (mkF m 19 #[.val (.ref eFORBID), .val .null, .val (.ref r82), .val (.int (18 : Int32)), .val (.int (11 : Int32)), .val (.ref u10)] [(.ref r82)]))
  refine own_go (fun _ ww => XS.iload X105.here hx rfl (hb hby d1_19) rfl  ww) ?_
  show own_Goes _ _ _ _ _ _ _ (T105.setTop (mkF m 21 #[.val (.ref eFORBID), .val .null, .val (.ref r82), .val (.int (18 : Int32)), .val (.int (11 : Int32)), .val (.ref u10)] [(.int (11 : Int32)), (.ref r82)]))
  obtain ⟨cl106, Ar106, -, S106, -, H106, -⟩ := id V82q
  have hin106 := inb_of (j := (11 : Int32)) S106 ⟨by decide, by decide⟩
  have hat106 : cl106.slots[((11 : Int32)).toNatClampNeg]? = some (.ref u11) := Has.at H106 hin106 rfl
  refine own_go (fun _ ww => X105.aaload hx (j := (11 : Int32)) (v := (.ref u11)) (by rw [e105]; exact Ar106.1) (State.isArrayOf_alike hZ.alike Ar106.2.1) rfl Ar106.2.2 hin106 hat106 (g := (mkF m 21 #[.val (.ref eFORBID), .val .null, .val (.ref r82), .val (.int (18 : Int32)), .val (.int (11 : Int32)), .val (.ref u10)] [(.int (11 : Int32)), (.ref r82)])) rfl rfl (hb hby d1_21) _ ww) ?_
  show own_Goes _ _ _ _ _ _ _ (T105.setTop (mkF m 22 #[.val (.ref eFORBID), .val .null, .val (.ref r82), .val (.int (18 : Int32)), .val (.int (11 : Int32)), .val (.ref u10)] [(.ref u11)]))
  refine own_go (fun _ ww => XS.astore X105.here hx rfl (hb hby d1_22) rfl rfl (l' := #[.val (.ref eFORBID), .val .null, .val (.ref r82), .val (.int (18 : Int32)), .val (.int (11 : Int32)), .val (.ref u11)]) rfl ww) ?_
  show own_Goes _ _ _ _ _ _ _ (T105.setTop (mkF m 24 #[.val (.ref eFORBID), .val .null, .val (.ref r82), .val (.int (18 : Int32)), .val (.int (11 : Int32)), .val (.ref u11)] []))
  refine own_go (fun _ ww => XS.aload X105.here hx rfl (hb hby d1_24) rfl rfl ww) ?_
  show own_Goes _ _ _ _ _ _ _ (T105.setTop (mkF m 26 #[.val (.ref eFORBID), .val .null, .val (.ref r82), .val (.int (18 : Int32)), .val (.int (11 : Int32)), .val (.ref u11)] [(.ref u11)]))
  obtain ⟨T107, X107, e107, st107⟩ := getF X105 hx hZ hown (host := "") (Or.inl (hw _ (List.mem_of_getElem? (i := 42) rfl))) Via.refl e105 (F11.ext O82.2) (g := (mkF m 26 #[.val (.ref eFORBID), .val .null, .val (.ref r82), .val (.int (18 : Int32)), .val (.int (11 : Int32)), .val (.ref u11)] [(.ref u11)])) rfl rfl (hb hby d1_26)
  refine own_go st107 ?_
  show own_Goes _ _ _ _ _ _ _ (T107.setTop (mkF m 29 #[.val (.ref eFORBID), .val .null, .val (.ref r82), .val (.int (18 : Int32)), .val (.int (11 : Int32)), .val (.ref u11)] [(.ref eGRANT)]))
  refine own_go (fun _ ww => XS.aloadN X107.here hx rfl (hb hby d1_29) rfl rfl ww) ?_
  show own_Goes _ _ _ _ _ _ _ (T107.setTop (mkF m 30 #[.val (.ref eFORBID), .val .null, .val (.ref r82), .val (.int (18 : Int32)), .val (.int (11 : Int32)), .val (.ref u11)] [(.ref eFORBID), (.ref eGRANT)]))
  refine own_go (fun _ ww => XT.acmpYes X107.here hx rfl (pc0 := 30) (pc' := 36) rfl (hb hby d1_30) rfl rfl rfl (own_ane n02).2 (by decide) (by decide) ww) ?_
  show own_Goes _ _ _ _ _ _ _ (T107.setTop (mkF m 36 #[.val (.ref eFORBID), .val .null, .val (.ref r82), .val (.int (18 : Int32)), .val (.int (11 : Int32)), .val (.ref u11)] []))
  refine own_go (fun _ ww => XS.iinc X107.here hx rfl (hb hby d1_36) rfl (l' := #[.val (.ref eFORBID), .val .null, .val (.ref r82), .val (.int (18 : Int32)), .val (.int (12 : Int32)), .val (.ref u11)]) rfl ww) ?_
  show own_Goes _ _ _ _ _ _ _ (T107.setTop (mkF m 39 #[.val (.ref eFORBID), .val .null, .val (.ref r82), .val (.int (18 : Int32)), .val (.int (12 : Int32)), .val (.ref u11)] []))
  refine own_go (fun _ ww => XS.goto X107.here hx rfl (pc0 := 39) (pc' := 12) rfl (hb hby d1_39) (by decide) (by decide) ww) ?_
  show own_Goes _ _ _ _ _ _ _ (T107.setTop (mkF m 12 #[.val (.ref eFORBID), .val .null, .val (.ref r82), .val (.int (18 : Int32)), .val (.int (12 : Int32)), .val (.ref u11)] []))
  refine own_go (fun _ ww => XS.iload X107.here hx rfl (hb hby d1_12) rfl  ww) ?_
  show own_Goes _ _ _ _ _ _ _ (T107.setTop (mkF m 14 #[.val (.ref eFORBID), .val .null, .val (.ref r82), .val (.int (18 : Int32)), .val (.int (12 : Int32)), .val (.ref u11)] [(.int (12 : Int32))]))
  refine own_go (fun _ ww => XS.iloadN X107.here hx rfl (hb hby d1_14) rfl  ww) ?_
  show own_Goes _ _ _ _ _ _ _ (T107.setTop (mkF m 15 #[.val (.ref eFORBID), .val .null, .val (.ref r82), .val (.int (18 : Int32)), .val (.int (12 : Int32)), .val (.ref u11)] [(.int (18 : Int32)), (.int (12 : Int32))]))
  refine own_go (fun _ ww => XS.icmpNo X107.here hx rfl (hb hby d1_15) rfl (tlt (by decide : (12 : Int32) < (18 : Int32))).2.1 ww) ?_
  show own_Goes _ _ _ _ _ _ _ (T107.setTop (mkF m 18 #[.val (.ref eFORBID), .val .null, .val (.ref r82), .val (.int (18 : Int32)), .val (.int (12 : Int32)), .val (.ref u11)] []))
  refine own_go (fun _ ww => XS.aloadN X107.here hx rfl (hb hby d1_18) rfl rfl ww) ?_
  show own_Goes _ _ _ _ _ _ _ (T107.setTop (mkF m 19 #[.val (.ref eFORBID), .val .null, .val (.ref r82), .val (.int (18 : Int32)), .val (.int (12 : Int32)), .val (.ref u11)] [(.ref r82)]))
  refine own_go (fun _ ww => XS.iload X107.here hx rfl (hb hby d1_19) rfl  ww) ?_
  show own_Goes _ _ _ _ _ _ _ (T107.setTop (mkF m 21 #[.val (.ref eFORBID), .val .null, .val (.ref r82), .val (.int (18 : Int32)), .val (.int (12 : Int32)), .val (.ref u11)] [(.int (12 : Int32)), (.ref r82)]))
  obtain ⟨cl108, Ar108, -, S108, -, H108, -⟩ := id V82q
  have hin108 := inb_of (j := (12 : Int32)) S108 ⟨by decide, by decide⟩
  have hat108 : cl108.slots[((12 : Int32)).toNatClampNeg]? = some (.ref u12) := Has.at H108 hin108 rfl
  refine own_go (fun _ ww => X107.aaload hx (j := (12 : Int32)) (v := (.ref u12)) (by rw [e107]; exact Ar108.1) (State.isArrayOf_alike hZ.alike Ar108.2.1) rfl Ar108.2.2 hin108 hat108 (g := (mkF m 21 #[.val (.ref eFORBID), .val .null, .val (.ref r82), .val (.int (18 : Int32)), .val (.int (12 : Int32)), .val (.ref u11)] [(.int (12 : Int32)), (.ref r82)])) rfl rfl (hb hby d1_21) _ ww) ?_
  show own_Goes _ _ _ _ _ _ _ (T107.setTop (mkF m 22 #[.val (.ref eFORBID), .val .null, .val (.ref r82), .val (.int (18 : Int32)), .val (.int (12 : Int32)), .val (.ref u11)] [(.ref u12)]))
  refine own_go (fun _ ww => XS.astore X107.here hx rfl (hb hby d1_22) rfl rfl (l' := #[.val (.ref eFORBID), .val .null, .val (.ref r82), .val (.int (18 : Int32)), .val (.int (12 : Int32)), .val (.ref u12)]) rfl ww) ?_
  show own_Goes _ _ _ _ _ _ _ (T107.setTop (mkF m 24 #[.val (.ref eFORBID), .val .null, .val (.ref r82), .val (.int (18 : Int32)), .val (.int (12 : Int32)), .val (.ref u12)] []))
  refine own_go (fun _ ww => XS.aload X107.here hx rfl (hb hby d1_24) rfl rfl ww) ?_
  show own_Goes _ _ _ _ _ _ _ (T107.setTop (mkF m 26 #[.val (.ref eFORBID), .val .null, .val (.ref r82), .val (.int (18 : Int32)), .val (.int (12 : Int32)), .val (.ref u12)] [(.ref u12)]))
  obtain ⟨T109, X109, e109, st109⟩ := getF X107 hx hZ hown (host := "") (Or.inl (hw _ (List.mem_of_getElem? (i := 42) rfl))) Via.refl e107 (F12.ext O82.2) (g := (mkF m 26 #[.val (.ref eFORBID), .val .null, .val (.ref r82), .val (.int (18 : Int32)), .val (.int (12 : Int32)), .val (.ref u12)] [(.ref u12)])) rfl rfl (hb hby d1_26)
  refine own_go st109 ?_
  show own_Goes _ _ _ _ _ _ _ (T109.setTop (mkF m 29 #[.val (.ref eFORBID), .val .null, .val (.ref r82), .val (.int (18 : Int32)), .val (.int (12 : Int32)), .val (.ref u12)] [(.ref eDENY)]))
  refine own_go (fun _ ww => XS.aloadN X109.here hx rfl (hb hby d1_29) rfl rfl ww) ?_
  show own_Goes _ _ _ _ _ _ _ (T109.setTop (mkF m 30 #[.val (.ref eFORBID), .val .null, .val (.ref r82), .val (.int (18 : Int32)), .val (.int (12 : Int32)), .val (.ref u12)] [(.ref eFORBID), (.ref eDENY)]))
  refine own_go (fun _ ww => XT.acmpYes X109.here hx rfl (pc0 := 30) (pc' := 36) rfl (hb hby d1_30) rfl rfl rfl (own_ane n12).2 (by decide) (by decide) ww) ?_
  show own_Goes _ _ _ _ _ _ _ (T109.setTop (mkF m 36 #[.val (.ref eFORBID), .val .null, .val (.ref r82), .val (.int (18 : Int32)), .val (.int (12 : Int32)), .val (.ref u12)] []))
  refine own_go (fun _ ww => XS.iinc X109.here hx rfl (hb hby d1_36) rfl (l' := #[.val (.ref eFORBID), .val .null, .val (.ref r82), .val (.int (18 : Int32)), .val (.int (13 : Int32)), .val (.ref u12)]) rfl ww) ?_
  show own_Goes _ _ _ _ _ _ _ (T109.setTop (mkF m 39 #[.val (.ref eFORBID), .val .null, .val (.ref r82), .val (.int (18 : Int32)), .val (.int (13 : Int32)), .val (.ref u12)] []))
  refine own_go (fun _ ww => XS.goto X109.here hx rfl (pc0 := 39) (pc' := 12) rfl (hb hby d1_39) (by decide) (by decide) ww) ?_
  show own_Goes _ _ _ _ _ _ _ (T109.setTop (mkF m 12 #[.val (.ref eFORBID), .val .null, .val (.ref r82), .val (.int (18 : Int32)), .val (.int (13 : Int32)), .val (.ref u12)] []))
  refine own_go (fun _ ww => XS.iload X109.here hx rfl (hb hby d1_12) rfl  ww) ?_
  show own_Goes _ _ _ _ _ _ _ (T109.setTop (mkF m 14 #[.val (.ref eFORBID), .val .null, .val (.ref r82), .val (.int (18 : Int32)), .val (.int (13 : Int32)), .val (.ref u12)] [(.int (13 : Int32))]))
  refine own_go (fun _ ww => XS.iloadN X109.here hx rfl (hb hby d1_14) rfl  ww) ?_
  show own_Goes _ _ _ _ _ _ _ (T109.setTop (mkF m 15 #[.val (.ref eFORBID), .val .null, .val (.ref r82), .val (.int (18 : Int32)), .val (.int (13 : Int32)), .val (.ref u12)] [(.int (18 : Int32)), (.int (13 : Int32))]))
  refine own_go (fun _ ww => XS.icmpNo X109.here hx rfl (hb hby d1_15) rfl (tlt (by decide : (13 : Int32) < (18 : Int32))).2.1 ww) ?_
  show own_Goes _ _ _ _ _ _ _ (T109.setTop (mkF m 18 #[.val (.ref eFORBID), .val .null, .val (.ref r82), .val (.int (18 : Int32)), .val (.int (13 : Int32)), .val (.ref u12)] []))
  refine own_go (fun _ ww => XS.aloadN X109.here hx rfl (hb hby d1_18) rfl rfl ww) ?_
  show own_Goes _ _ _ _ _ _ _ (T109.setTop (mkF m 19 #[.val (.ref eFORBID), .val .null, .val (.ref r82), .val (.int (18 : Int32)), .val (.int (13 : Int32)), .val (.ref u12)] [(.ref r82)]))
  refine own_go (fun _ ww => XS.iload X109.here hx rfl (hb hby d1_19) rfl  ww) ?_
  show own_Goes _ _ _ _ _ _ _ (T109.setTop (mkF m 21 #[.val (.ref eFORBID), .val .null, .val (.ref r82), .val (.int (18 : Int32)), .val (.int (13 : Int32)), .val (.ref u12)] [(.int (13 : Int32)), (.ref r82)]))
  obtain ⟨cl110, Ar110, -, S110, -, H110, -⟩ := id V82q
  have hin110 := inb_of (j := (13 : Int32)) S110 ⟨by decide, by decide⟩
  have hat110 : cl110.slots[((13 : Int32)).toNatClampNeg]? = some (.ref u13) := Has.at H110 hin110 rfl
  refine own_go (fun _ ww => X109.aaload hx (j := (13 : Int32)) (v := (.ref u13)) (by rw [e109]; exact Ar110.1) (State.isArrayOf_alike hZ.alike Ar110.2.1) rfl Ar110.2.2 hin110 hat110 (g := (mkF m 21 #[.val (.ref eFORBID), .val .null, .val (.ref r82), .val (.int (18 : Int32)), .val (.int (13 : Int32)), .val (.ref u12)] [(.int (13 : Int32)), (.ref r82)])) rfl rfl (hb hby d1_21) _ ww) ?_
  show own_Goes _ _ _ _ _ _ _ (T109.setTop (mkF m 22 #[.val (.ref eFORBID), .val .null, .val (.ref r82), .val (.int (18 : Int32)), .val (.int (13 : Int32)), .val (.ref u12)] [(.ref u13)]))
  refine own_go (fun _ ww => XS.astore X109.here hx rfl (hb hby d1_22) rfl rfl (l' := #[.val (.ref eFORBID), .val .null, .val (.ref r82), .val (.int (18 : Int32)), .val (.int (13 : Int32)), .val (.ref u13)]) rfl ww) ?_
  show own_Goes _ _ _ _ _ _ _ (T109.setTop (mkF m 24 #[.val (.ref eFORBID), .val .null, .val (.ref r82), .val (.int (18 : Int32)), .val (.int (13 : Int32)), .val (.ref u13)] []))
  refine own_go (fun _ ww => XS.aload X109.here hx rfl (hb hby d1_24) rfl rfl ww) ?_
  show own_Goes _ _ _ _ _ _ _ (T109.setTop (mkF m 26 #[.val (.ref eFORBID), .val .null, .val (.ref r82), .val (.int (18 : Int32)), .val (.int (13 : Int32)), .val (.ref u13)] [(.ref u13)]))
  obtain ⟨T111, X111, e111, st111⟩ := getF X109 hx hZ hown (host := "") (Or.inl (hw _ (List.mem_of_getElem? (i := 42) rfl))) Via.refl e109 (F13.ext O82.2) (g := (mkF m 26 #[.val (.ref eFORBID), .val .null, .val (.ref r82), .val (.int (18 : Int32)), .val (.int (13 : Int32)), .val (.ref u13)] [(.ref u13)])) rfl rfl (hb hby d1_26)
  refine own_go st111 ?_
  show own_Goes _ _ _ _ _ _ _ (T111.setTop (mkF m 29 #[.val (.ref eFORBID), .val .null, .val (.ref r82), .val (.int (18 : Int32)), .val (.int (13 : Int32)), .val (.ref u13)] [(.ref eFORBID)]))
  refine own_go (fun _ ww => XS.aloadN X111.here hx rfl (hb hby d1_29) rfl rfl ww) ?_
  show own_Goes _ _ _ _ _ _ _ (T111.setTop (mkF m 30 #[.val (.ref eFORBID), .val .null, .val (.ref r82), .val (.int (18 : Int32)), .val (.int (13 : Int32)), .val (.ref u13)] [(.ref eFORBID), (.ref eFORBID)]))
  refine own_go (fun _ ww => XT.acmpNo X111.here hx rfl (hb hby d1_30) rfl rfl rfl (own_aeq (rfl : eFORBID = eFORBID)).2 ww) ?_
  show own_Goes _ _ _ _ _ _ _ (T111.setTop (mkF m 33 #[.val (.ref eFORBID), .val .null, .val (.ref r82), .val (.int (18 : Int32)), .val (.int (13 : Int32)), .val (.ref u13)] []))
  refine own_go (fun _ ww => XS.aload X111.here hx rfl (hb hby d1_33) rfl rfl ww) ?_
  show own_Goes _ _ _ _ _ _ _ (T111.setTop (mkF m 35 #[.val (.ref eFORBID), .val .null, .val (.ref r82), .val (.int (18 : Int32)), .val (.int (13 : Int32)), .val (.ref u13)] [(.ref u13)]))
  refine own_go (fun _ ww => XS.astoreN X111.here hx rfl (hb hby d1_35) rfl rfl (l' := #[.val (.ref eFORBID), .val (.ref u13), .val (.ref r82), .val (.int (18 : Int32)), .val (.int (13 : Int32)), .val (.ref u13)]) rfl ww) ?_
  show own_Goes _ _ _ _ _ _ _ (T111.setTop (mkF m 36 #[.val (.ref eFORBID), .val (.ref u13), .val (.ref r82), .val (.int (18 : Int32)), .val (.int (13 : Int32)), .val (.ref u13)] []))
  refine own_go (fun _ ww => XS.iinc X111.here hx rfl (hb hby d1_36) rfl (l' := #[.val (.ref eFORBID), .val (.ref u13), .val (.ref r82), .val (.int (18 : Int32)), .val (.int (14 : Int32)), .val (.ref u13)]) rfl ww) ?_
  show own_Goes _ _ _ _ _ _ _ (T111.setTop (mkF m 39 #[.val (.ref eFORBID), .val (.ref u13), .val (.ref r82), .val (.int (18 : Int32)), .val (.int (14 : Int32)), .val (.ref u13)] []))
  refine own_go (fun _ ww => XS.goto X111.here hx rfl (pc0 := 39) (pc' := 12) rfl (hb hby d1_39) (by decide) (by decide) ww) ?_
  show own_Goes _ _ _ _ _ _ _ (T111.setTop (mkF m 12 #[.val (.ref eFORBID), .val (.ref u13), .val (.ref r82), .val (.int (18 : Int32)), .val (.int (14 : Int32)), .val (.ref u13)] []))
  refine own_go (fun _ ww => XS.iload X111.here hx rfl (hb hby d1_12) rfl  ww) ?_
  show own_Goes _ _ _ _ _ _ _ (T111.setTop (mkF m 14 #[.val (.ref eFORBID), .val (.ref u13), .val (.ref r82), .val (.int (18 : Int32)), .val (.int (14 : Int32)), .val (.ref u13)] [(.int (14 : Int32))]))
  refine own_go (fun _ ww => XS.iloadN X111.here hx rfl (hb hby d1_14) rfl  ww) ?_
  show own_Goes _ _ _ _ _ _ _ (T111.setTop (mkF m 15 #[.val (.ref eFORBID), .val (.ref u13), .val (.ref r82), .val (.int (18 : Int32)), .val (.int (14 : Int32)), .val (.ref u13)] [(.int (18 : Int32)), (.int (14 : Int32))]))
  refine own_go (fun _ ww => XS.icmpNo X111.here hx rfl (hb hby d1_15) rfl (tlt (by decide : (14 : Int32) < (18 : Int32))).2.1 ww) ?_
  show own_Goes _ _ _ _ _ _ _ (T111.setTop (mkF m 18 #[.val (.ref eFORBID), .val (.ref u13), .val (.ref r82), .val (.int (18 : Int32)), .val (.int (14 : Int32)), .val (.ref u13)] []))
  refine own_go (fun _ ww => XS.aloadN X111.here hx rfl (hb hby d1_18) rfl rfl ww) ?_
  show own_Goes _ _ _ _ _ _ _ (T111.setTop (mkF m 19 #[.val (.ref eFORBID), .val (.ref u13), .val (.ref r82), .val (.int (18 : Int32)), .val (.int (14 : Int32)), .val (.ref u13)] [(.ref r82)]))
  refine own_go (fun _ ww => XS.iload X111.here hx rfl (hb hby d1_19) rfl  ww) ?_
  show own_Goes _ _ _ _ _ _ _ (T111.setTop (mkF m 21 #[.val (.ref eFORBID), .val (.ref u13), .val (.ref r82), .val (.int (18 : Int32)), .val (.int (14 : Int32)), .val (.ref u13)] [(.int (14 : Int32)), (.ref r82)]))
  obtain ⟨cl112, Ar112, -, S112, -, H112, -⟩ := id V82q
  have hin112 := inb_of (j := (14 : Int32)) S112 ⟨by decide, by decide⟩
  have hat112 : cl112.slots[((14 : Int32)).toNatClampNeg]? = some (.ref u14) := Has.at H112 hin112 rfl
  refine own_go (fun _ ww => X111.aaload hx (j := (14 : Int32)) (v := (.ref u14)) (by rw [e111]; exact Ar112.1) (State.isArrayOf_alike hZ.alike Ar112.2.1) rfl Ar112.2.2 hin112 hat112 (g := (mkF m 21 #[.val (.ref eFORBID), .val (.ref u13), .val (.ref r82), .val (.int (18 : Int32)), .val (.int (14 : Int32)), .val (.ref u13)] [(.int (14 : Int32)), (.ref r82)])) rfl rfl (hb hby d1_21) _ ww) ?_
  show own_Goes _ _ _ _ _ _ _ (T111.setTop (mkF m 22 #[.val (.ref eFORBID), .val (.ref u13), .val (.ref r82), .val (.int (18 : Int32)), .val (.int (14 : Int32)), .val (.ref u13)] [(.ref u14)]))
  refine own_go (fun _ ww => XS.astore X111.here hx rfl (hb hby d1_22) rfl rfl (l' := #[.val (.ref eFORBID), .val (.ref u13), .val (.ref r82), .val (.int (18 : Int32)), .val (.int (14 : Int32)), .val (.ref u14)]) rfl ww) ?_
  show own_Goes _ _ _ _ _ _ _ (T111.setTop (mkF m 24 #[.val (.ref eFORBID), .val (.ref u13), .val (.ref r82), .val (.int (18 : Int32)), .val (.int (14 : Int32)), .val (.ref u14)] []))
  refine own_go (fun _ ww => XS.aload X111.here hx rfl (hb hby d1_24) rfl rfl ww) ?_
  show own_Goes _ _ _ _ _ _ _ (T111.setTop (mkF m 26 #[.val (.ref eFORBID), .val (.ref u13), .val (.ref r82), .val (.int (18 : Int32)), .val (.int (14 : Int32)), .val (.ref u14)] [(.ref u14)]))
  obtain ⟨T113, X113, e113, st113⟩ := getF X111 hx hZ hown (host := "") (Or.inl (hw _ (List.mem_of_getElem? (i := 42) rfl))) Via.refl e111 (F14.ext O82.2) (g := (mkF m 26 #[.val (.ref eFORBID), .val (.ref u13), .val (.ref r82), .val (.int (18 : Int32)), .val (.int (14 : Int32)), .val (.ref u14)] [(.ref u14)])) rfl rfl (hb hby d1_26)
  refine own_go st113 ?_
  show own_Goes _ _ _ _ _ _ _ (T113.setTop (mkF m 29 #[.val (.ref eFORBID), .val (.ref u13), .val (.ref r82), .val (.int (18 : Int32)), .val (.int (14 : Int32)), .val (.ref u14)] [.null]))
  refine own_go (fun _ ww => XS.aloadN X113.here hx rfl (hb hby d1_29) rfl rfl ww) ?_
  show own_Goes _ _ _ _ _ _ _ (T113.setTop (mkF m 30 #[.val (.ref eFORBID), .val (.ref u13), .val (.ref r82), .val (.int (18 : Int32)), .val (.int (14 : Int32)), .val (.ref u14)] [(.ref eFORBID), .null]))
  refine own_go (fun _ ww => XT.acmpYes X113.here hx rfl (pc0 := 30) (pc' := 36) rfl (hb hby d1_30) rfl rfl rfl (XT.aa_ne_t (by simp)) (by decide) (by decide) ww) ?_
  show own_Goes _ _ _ _ _ _ _ (T113.setTop (mkF m 36 #[.val (.ref eFORBID), .val (.ref u13), .val (.ref r82), .val (.int (18 : Int32)), .val (.int (14 : Int32)), .val (.ref u14)] []))
  refine own_go (fun _ ww => XS.iinc X113.here hx rfl (hb hby d1_36) rfl (l' := #[.val (.ref eFORBID), .val (.ref u13), .val (.ref r82), .val (.int (18 : Int32)), .val (.int (15 : Int32)), .val (.ref u14)]) rfl ww) ?_
  show own_Goes _ _ _ _ _ _ _ (T113.setTop (mkF m 39 #[.val (.ref eFORBID), .val (.ref u13), .val (.ref r82), .val (.int (18 : Int32)), .val (.int (15 : Int32)), .val (.ref u14)] []))
  refine own_go (fun _ ww => XS.goto X113.here hx rfl (pc0 := 39) (pc' := 12) rfl (hb hby d1_39) (by decide) (by decide) ww) ?_
  show own_Goes _ _ _ _ _ _ _ (T113.setTop (mkF m 12 #[.val (.ref eFORBID), .val (.ref u13), .val (.ref r82), .val (.int (18 : Int32)), .val (.int (15 : Int32)), .val (.ref u14)] []))
  refine own_go (fun _ ww => XS.iload X113.here hx rfl (hb hby d1_12) rfl  ww) ?_
  show own_Goes _ _ _ _ _ _ _ (T113.setTop (mkF m 14 #[.val (.ref eFORBID), .val (.ref u13), .val (.ref r82), .val (.int (18 : Int32)), .val (.int (15 : Int32)), .val (.ref u14)] [(.int (15 : Int32))]))
  refine own_go (fun _ ww => XS.iloadN X113.here hx rfl (hb hby d1_14) rfl  ww) ?_
  show own_Goes _ _ _ _ _ _ _ (T113.setTop (mkF m 15 #[.val (.ref eFORBID), .val (.ref u13), .val (.ref r82), .val (.int (18 : Int32)), .val (.int (15 : Int32)), .val (.ref u14)] [(.int (18 : Int32)), (.int (15 : Int32))]))
  refine own_go (fun _ ww => XS.icmpNo X113.here hx rfl (hb hby d1_15) rfl (tlt (by decide : (15 : Int32) < (18 : Int32))).2.1 ww) ?_
  show own_Goes _ _ _ _ _ _ _ (T113.setTop (mkF m 18 #[.val (.ref eFORBID), .val (.ref u13), .val (.ref r82), .val (.int (18 : Int32)), .val (.int (15 : Int32)), .val (.ref u14)] []))
  refine own_go (fun _ ww => XS.aloadN X113.here hx rfl (hb hby d1_18) rfl rfl ww) ?_
  show own_Goes _ _ _ _ _ _ _ (T113.setTop (mkF m 19 #[.val (.ref eFORBID), .val (.ref u13), .val (.ref r82), .val (.int (18 : Int32)), .val (.int (15 : Int32)), .val (.ref u14)] [(.ref r82)]))
  refine own_go (fun _ ww => XS.iload X113.here hx rfl (hb hby d1_19) rfl  ww) ?_
  show own_Goes _ _ _ _ _ _ _ (T113.setTop (mkF m 21 #[.val (.ref eFORBID), .val (.ref u13), .val (.ref r82), .val (.int (18 : Int32)), .val (.int (15 : Int32)), .val (.ref u14)] [(.int (15 : Int32)), (.ref r82)]))
  obtain ⟨cl114, Ar114, -, S114, -, H114, -⟩ := id V82q
  have hin114 := inb_of (j := (15 : Int32)) S114 ⟨by decide, by decide⟩
  have hat114 : cl114.slots[((15 : Int32)).toNatClampNeg]? = some (.ref u15) := Has.at H114 hin114 rfl
  refine own_go (fun _ ww => X113.aaload hx (j := (15 : Int32)) (v := (.ref u15)) (by rw [e113]; exact Ar114.1) (State.isArrayOf_alike hZ.alike Ar114.2.1) rfl Ar114.2.2 hin114 hat114 (g := (mkF m 21 #[.val (.ref eFORBID), .val (.ref u13), .val (.ref r82), .val (.int (18 : Int32)), .val (.int (15 : Int32)), .val (.ref u14)] [(.int (15 : Int32)), (.ref r82)])) rfl rfl (hb hby d1_21) _ ww) ?_
  show own_Goes _ _ _ _ _ _ _ (T113.setTop (mkF m 22 #[.val (.ref eFORBID), .val (.ref u13), .val (.ref r82), .val (.int (18 : Int32)), .val (.int (15 : Int32)), .val (.ref u14)] [(.ref u15)]))
  refine own_go (fun _ ww => XS.astore X113.here hx rfl (hb hby d1_22) rfl rfl (l' := #[.val (.ref eFORBID), .val (.ref u13), .val (.ref r82), .val (.int (18 : Int32)), .val (.int (15 : Int32)), .val (.ref u15)]) rfl ww) ?_
  show own_Goes _ _ _ _ _ _ _ (T113.setTop (mkF m 24 #[.val (.ref eFORBID), .val (.ref u13), .val (.ref r82), .val (.int (18 : Int32)), .val (.int (15 : Int32)), .val (.ref u15)] []))
  refine own_go (fun _ ww => XS.aload X113.here hx rfl (hb hby d1_24) rfl rfl ww) ?_
  show own_Goes _ _ _ _ _ _ _ (T113.setTop (mkF m 26 #[.val (.ref eFORBID), .val (.ref u13), .val (.ref r82), .val (.int (18 : Int32)), .val (.int (15 : Int32)), .val (.ref u15)] [(.ref u15)]))
  obtain ⟨T115, X115, e115, st115⟩ := getF X113 hx hZ hown (host := "") (Or.inl (hw _ (List.mem_of_getElem? (i := 42) rfl))) Via.refl e113 (F15.ext O82.2) (g := (mkF m 26 #[.val (.ref eFORBID), .val (.ref u13), .val (.ref r82), .val (.int (18 : Int32)), .val (.int (15 : Int32)), .val (.ref u15)] [(.ref u15)])) rfl rfl (hb hby d1_26)
  refine own_go st115 ?_
  show own_Goes _ _ _ _ _ _ _ (T115.setTop (mkF m 29 #[.val (.ref eFORBID), .val (.ref u13), .val (.ref r82), .val (.int (18 : Int32)), .val (.int (15 : Int32)), .val (.ref u15)] [.null]))
  refine own_go (fun _ ww => XS.aloadN X115.here hx rfl (hb hby d1_29) rfl rfl ww) ?_
  show own_Goes _ _ _ _ _ _ _ (T115.setTop (mkF m 30 #[.val (.ref eFORBID), .val (.ref u13), .val (.ref r82), .val (.int (18 : Int32)), .val (.int (15 : Int32)), .val (.ref u15)] [(.ref eFORBID), .null]))
  refine own_go (fun _ ww => XT.acmpYes X115.here hx rfl (pc0 := 30) (pc' := 36) rfl (hb hby d1_30) rfl rfl rfl (XT.aa_ne_t (by simp)) (by decide) (by decide) ww) ?_
  show own_Goes _ _ _ _ _ _ _ (T115.setTop (mkF m 36 #[.val (.ref eFORBID), .val (.ref u13), .val (.ref r82), .val (.int (18 : Int32)), .val (.int (15 : Int32)), .val (.ref u15)] []))
  refine own_go (fun _ ww => XS.iinc X115.here hx rfl (hb hby d1_36) rfl (l' := #[.val (.ref eFORBID), .val (.ref u13), .val (.ref r82), .val (.int (18 : Int32)), .val (.int (16 : Int32)), .val (.ref u15)]) rfl ww) ?_
  show own_Goes _ _ _ _ _ _ _ (T115.setTop (mkF m 39 #[.val (.ref eFORBID), .val (.ref u13), .val (.ref r82), .val (.int (18 : Int32)), .val (.int (16 : Int32)), .val (.ref u15)] []))
  refine own_go (fun _ ww => XS.goto X115.here hx rfl (pc0 := 39) (pc' := 12) rfl (hb hby d1_39) (by decide) (by decide) ww) ?_
  show own_Goes _ _ _ _ _ _ _ (T115.setTop (mkF m 12 #[.val (.ref eFORBID), .val (.ref u13), .val (.ref r82), .val (.int (18 : Int32)), .val (.int (16 : Int32)), .val (.ref u15)] []))
  refine own_go (fun _ ww => XS.iload X115.here hx rfl (hb hby d1_12) rfl  ww) ?_
  show own_Goes _ _ _ _ _ _ _ (T115.setTop (mkF m 14 #[.val (.ref eFORBID), .val (.ref u13), .val (.ref r82), .val (.int (18 : Int32)), .val (.int (16 : Int32)), .val (.ref u15)] [(.int (16 : Int32))]))
  refine own_go (fun _ ww => XS.iloadN X115.here hx rfl (hb hby d1_14) rfl  ww) ?_
  show own_Goes _ _ _ _ _ _ _ (T115.setTop (mkF m 15 #[.val (.ref eFORBID), .val (.ref u13), .val (.ref r82), .val (.int (18 : Int32)), .val (.int (16 : Int32)), .val (.ref u15)] [(.int (18 : Int32)), (.int (16 : Int32))]))
  refine own_go (fun _ ww => XS.icmpNo X115.here hx rfl (hb hby d1_15) rfl (tlt (by decide : (16 : Int32) < (18 : Int32))).2.1 ww) ?_
  show own_Goes _ _ _ _ _ _ _ (T115.setTop (mkF m 18 #[.val (.ref eFORBID), .val (.ref u13), .val (.ref r82), .val (.int (18 : Int32)), .val (.int (16 : Int32)), .val (.ref u15)] []))
  refine own_go (fun _ ww => XS.aloadN X115.here hx rfl (hb hby d1_18) rfl rfl ww) ?_
  show own_Goes _ _ _ _ _ _ _ (T115.setTop (mkF m 19 #[.val (.ref eFORBID), .val (.ref u13), .val (.ref r82), .val (.int (18 : Int32)), .val (.int (16 : Int32)), .val (.ref u15)] [(.ref r82)]))
  refine own_go (fun _ ww => XS.iload X115.here hx rfl (hb hby d1_19) rfl  ww) ?_
  show own_Goes _ _ _ _ _ _ _ (T115.setTop (mkF m 21 #[.val (.ref eFORBID), .val (.ref u13), .val (.ref r82), .val (.int (18 : Int32)), .val (.int (16 : Int32)), .val (.ref u15)] [(.int (16 : Int32)), (.ref r82)]))
  obtain ⟨cl116, Ar116, -, S116, -, H116, -⟩ := id V82q
  have hin116 := inb_of (j := (16 : Int32)) S116 ⟨by decide, by decide⟩
  have hat116 : cl116.slots[((16 : Int32)).toNatClampNeg]? = some (.ref u16) := Has.at H116 hin116 rfl
  refine own_go (fun _ ww => X115.aaload hx (j := (16 : Int32)) (v := (.ref u16)) (by rw [e115]; exact Ar116.1) (State.isArrayOf_alike hZ.alike Ar116.2.1) rfl Ar116.2.2 hin116 hat116 (g := (mkF m 21 #[.val (.ref eFORBID), .val (.ref u13), .val (.ref r82), .val (.int (18 : Int32)), .val (.int (16 : Int32)), .val (.ref u15)] [(.int (16 : Int32)), (.ref r82)])) rfl rfl (hb hby d1_21) _ ww) ?_
  show own_Goes _ _ _ _ _ _ _ (T115.setTop (mkF m 22 #[.val (.ref eFORBID), .val (.ref u13), .val (.ref r82), .val (.int (18 : Int32)), .val (.int (16 : Int32)), .val (.ref u15)] [(.ref u16)]))
  refine own_go (fun _ ww => XS.astore X115.here hx rfl (hb hby d1_22) rfl rfl (l' := #[.val (.ref eFORBID), .val (.ref u13), .val (.ref r82), .val (.int (18 : Int32)), .val (.int (16 : Int32)), .val (.ref u16)]) rfl ww) ?_
  show own_Goes _ _ _ _ _ _ _ (T115.setTop (mkF m 24 #[.val (.ref eFORBID), .val (.ref u13), .val (.ref r82), .val (.int (18 : Int32)), .val (.int (16 : Int32)), .val (.ref u16)] []))
  refine own_go (fun _ ww => XS.aload X115.here hx rfl (hb hby d1_24) rfl rfl ww) ?_
  show own_Goes _ _ _ _ _ _ _ (T115.setTop (mkF m 26 #[.val (.ref eFORBID), .val (.ref u13), .val (.ref r82), .val (.int (18 : Int32)), .val (.int (16 : Int32)), .val (.ref u16)] [(.ref u16)]))
  obtain ⟨T117, X117, e117, st117⟩ := getF X115 hx hZ hown (host := "") (Or.inl (hw _ (List.mem_of_getElem? (i := 42) rfl))) Via.refl e115 (F16.ext O82.2) (g := (mkF m 26 #[.val (.ref eFORBID), .val (.ref u13), .val (.ref r82), .val (.int (18 : Int32)), .val (.int (16 : Int32)), .val (.ref u16)] [(.ref u16)])) rfl rfl (hb hby d1_26)
  refine own_go st117 ?_
  show own_Goes _ _ _ _ _ _ _ (T117.setTop (mkF m 29 #[.val (.ref eFORBID), .val (.ref u13), .val (.ref r82), .val (.int (18 : Int32)), .val (.int (16 : Int32)), .val (.ref u16)] [.null]))
  refine own_go (fun _ ww => XS.aloadN X117.here hx rfl (hb hby d1_29) rfl rfl ww) ?_
  show own_Goes _ _ _ _ _ _ _ (T117.setTop (mkF m 30 #[.val (.ref eFORBID), .val (.ref u13), .val (.ref r82), .val (.int (18 : Int32)), .val (.int (16 : Int32)), .val (.ref u16)] [(.ref eFORBID), .null]))
  refine own_go (fun _ ww => XT.acmpYes X117.here hx rfl (pc0 := 30) (pc' := 36) rfl (hb hby d1_30) rfl rfl rfl (XT.aa_ne_t (by simp)) (by decide) (by decide) ww) ?_
  show own_Goes _ _ _ _ _ _ _ (T117.setTop (mkF m 36 #[.val (.ref eFORBID), .val (.ref u13), .val (.ref r82), .val (.int (18 : Int32)), .val (.int (16 : Int32)), .val (.ref u16)] []))
  refine own_go (fun _ ww => XS.iinc X117.here hx rfl (hb hby d1_36) rfl (l' := #[.val (.ref eFORBID), .val (.ref u13), .val (.ref r82), .val (.int (18 : Int32)), .val (.int (17 : Int32)), .val (.ref u16)]) rfl ww) ?_
  show own_Goes _ _ _ _ _ _ _ (T117.setTop (mkF m 39 #[.val (.ref eFORBID), .val (.ref u13), .val (.ref r82), .val (.int (18 : Int32)), .val (.int (17 : Int32)), .val (.ref u16)] []))
  refine own_go (fun _ ww => XS.goto X117.here hx rfl (pc0 := 39) (pc' := 12) rfl (hb hby d1_39) (by decide) (by decide) ww) ?_
  show own_Goes _ _ _ _ _ _ _ (T117.setTop (mkF m 12 #[.val (.ref eFORBID), .val (.ref u13), .val (.ref r82), .val (.int (18 : Int32)), .val (.int (17 : Int32)), .val (.ref u16)] []))
  refine own_go (fun _ ww => XS.iload X117.here hx rfl (hb hby d1_12) rfl  ww) ?_
  show own_Goes _ _ _ _ _ _ _ (T117.setTop (mkF m 14 #[.val (.ref eFORBID), .val (.ref u13), .val (.ref r82), .val (.int (18 : Int32)), .val (.int (17 : Int32)), .val (.ref u16)] [(.int (17 : Int32))]))
  refine own_go (fun _ ww => XS.iloadN X117.here hx rfl (hb hby d1_14) rfl  ww) ?_
  show own_Goes _ _ _ _ _ _ _ (T117.setTop (mkF m 15 #[.val (.ref eFORBID), .val (.ref u13), .val (.ref r82), .val (.int (18 : Int32)), .val (.int (17 : Int32)), .val (.ref u16)] [(.int (18 : Int32)), (.int (17 : Int32))]))
  refine own_go (fun _ ww => XS.icmpNo X117.here hx rfl (hb hby d1_15) rfl (tlt (by decide : (17 : Int32) < (18 : Int32))).2.1 ww) ?_
  show own_Goes _ _ _ _ _ _ _ (T117.setTop (mkF m 18 #[.val (.ref eFORBID), .val (.ref u13), .val (.ref r82), .val (.int (18 : Int32)), .val (.int (17 : Int32)), .val (.ref u16)] []))
  refine own_go (fun _ ww => XS.aloadN X117.here hx rfl (hb hby d1_18) rfl rfl ww) ?_
  show own_Goes _ _ _ _ _ _ _ (T117.setTop (mkF m 19 #[.val (.ref eFORBID), .val (.ref u13), .val (.ref r82), .val (.int (18 : Int32)), .val (.int (17 : Int32)), .val (.ref u16)] [(.ref r82)]))
  refine own_go (fun _ ww => XS.iload X117.here hx rfl (hb hby d1_19) rfl  ww) ?_
  show own_Goes _ _ _ _ _ _ _ (T117.setTop (mkF m 21 #[.val (.ref eFORBID), .val (.ref u13), .val (.ref r82), .val (.int (18 : Int32)), .val (.int (17 : Int32)), .val (.ref u16)] [(.int (17 : Int32)), (.ref r82)]))
  obtain ⟨cl118, Ar118, -, S118, -, H118, -⟩ := id V82q
  have hin118 := inb_of (j := (17 : Int32)) S118 ⟨by decide, by decide⟩
  have hat118 : cl118.slots[((17 : Int32)).toNatClampNeg]? = some (.ref u17) := Has.at H118 hin118 rfl
  refine own_go (fun _ ww => X117.aaload hx (j := (17 : Int32)) (v := (.ref u17)) (by rw [e117]; exact Ar118.1) (State.isArrayOf_alike hZ.alike Ar118.2.1) rfl Ar118.2.2 hin118 hat118 (g := (mkF m 21 #[.val (.ref eFORBID), .val (.ref u13), .val (.ref r82), .val (.int (18 : Int32)), .val (.int (17 : Int32)), .val (.ref u16)] [(.int (17 : Int32)), (.ref r82)])) rfl rfl (hb hby d1_21) _ ww) ?_
  show own_Goes _ _ _ _ _ _ _ (T117.setTop (mkF m 22 #[.val (.ref eFORBID), .val (.ref u13), .val (.ref r82), .val (.int (18 : Int32)), .val (.int (17 : Int32)), .val (.ref u16)] [(.ref u17)]))
  refine own_go (fun _ ww => XS.astore X117.here hx rfl (hb hby d1_22) rfl rfl (l' := #[.val (.ref eFORBID), .val (.ref u13), .val (.ref r82), .val (.int (18 : Int32)), .val (.int (17 : Int32)), .val (.ref u17)]) rfl ww) ?_
  show own_Goes _ _ _ _ _ _ _ (T117.setTop (mkF m 24 #[.val (.ref eFORBID), .val (.ref u13), .val (.ref r82), .val (.int (18 : Int32)), .val (.int (17 : Int32)), .val (.ref u17)] []))
  refine own_go (fun _ ww => XS.aload X117.here hx rfl (hb hby d1_24) rfl rfl ww) ?_
  show own_Goes _ _ _ _ _ _ _ (T117.setTop (mkF m 26 #[.val (.ref eFORBID), .val (.ref u13), .val (.ref r82), .val (.int (18 : Int32)), .val (.int (17 : Int32)), .val (.ref u17)] [(.ref u17)]))
  obtain ⟨T119, X119, e119, st119⟩ := getF X117 hx hZ hown (host := "") (Or.inl (hw _ (List.mem_of_getElem? (i := 42) rfl))) Via.refl e117 (F17.ext O82.2) (g := (mkF m 26 #[.val (.ref eFORBID), .val (.ref u13), .val (.ref r82), .val (.int (18 : Int32)), .val (.int (17 : Int32)), .val (.ref u17)] [(.ref u17)])) rfl rfl (hb hby d1_26)
  refine own_go st119 ?_
  show own_Goes _ _ _ _ _ _ _ (T119.setTop (mkF m 29 #[.val (.ref eFORBID), .val (.ref u13), .val (.ref r82), .val (.int (18 : Int32)), .val (.int (17 : Int32)), .val (.ref u17)] [.null]))
  refine own_go (fun _ ww => XS.aloadN X119.here hx rfl (hb hby d1_29) rfl rfl ww) ?_
  show own_Goes _ _ _ _ _ _ _ (T119.setTop (mkF m 30 #[.val (.ref eFORBID), .val (.ref u13), .val (.ref r82), .val (.int (18 : Int32)), .val (.int (17 : Int32)), .val (.ref u17)] [(.ref eFORBID), .null]))
  refine own_go (fun _ ww => XT.acmpYes X119.here hx rfl (pc0 := 30) (pc' := 36) rfl (hb hby d1_30) rfl rfl rfl (XT.aa_ne_t (by simp)) (by decide) (by decide) ww) ?_
  show own_Goes _ _ _ _ _ _ _ (T119.setTop (mkF m 36 #[.val (.ref eFORBID), .val (.ref u13), .val (.ref r82), .val (.int (18 : Int32)), .val (.int (17 : Int32)), .val (.ref u17)] []))
  refine own_go (fun _ ww => XS.iinc X119.here hx rfl (hb hby d1_36) rfl (l' := #[.val (.ref eFORBID), .val (.ref u13), .val (.ref r82), .val (.int (18 : Int32)), .val (.int (18 : Int32)), .val (.ref u17)]) rfl ww) ?_
  show own_Goes _ _ _ _ _ _ _ (T119.setTop (mkF m 39 #[.val (.ref eFORBID), .val (.ref u13), .val (.ref r82), .val (.int (18 : Int32)), .val (.int (18 : Int32)), .val (.ref u17)] []))
  refine own_go (fun _ ww => XS.goto X119.here hx rfl (pc0 := 39) (pc' := 12) rfl (hb hby d1_39) (by decide) (by decide) ww) ?_
  show own_Goes _ _ _ _ _ _ _ (T119.setTop (mkF m 12 #[.val (.ref eFORBID), .val (.ref u13), .val (.ref r82), .val (.int (18 : Int32)), .val (.int (18 : Int32)), .val (.ref u17)] []))
  refine own_go (fun _ ww => XS.iload X119.here hx rfl (hb hby d1_12) rfl  ww) ?_
  show own_Goes _ _ _ _ _ _ _ (T119.setTop (mkF m 14 #[.val (.ref eFORBID), .val (.ref u13), .val (.ref r82), .val (.int (18 : Int32)), .val (.int (18 : Int32)), .val (.ref u17)] [(.int (18 : Int32))]))
  refine own_go (fun _ ww => XS.iloadN X119.here hx rfl (hb hby d1_14) rfl  ww) ?_
  show own_Goes _ _ _ _ _ _ _ (T119.setTop (mkF m 15 #[.val (.ref eFORBID), .val (.ref u13), .val (.ref r82), .val (.int (18 : Int32)), .val (.int (18 : Int32)), .val (.ref u17)] [(.int (18 : Int32)), (.int (18 : Int32))]))
  refine own_go (fun _ ww => XS.icmpYes X119.here hx rfl (pc0 := 15) (pc' := 42) rfl (hb hby d1_15) rfl (flt (by decide : ¬ ((18 : Int32) < (18 : Int32)))).2.1 (by decide) (by decide) ww) ?_
  show own_Goes _ _ _ _ _ _ _ (T119.setTop (mkF m 42 #[.val (.ref eFORBID), .val (.ref u13), .val (.ref r82), .val (.int (18 : Int32)), .val (.int (18 : Int32)), .val (.ref u17)] []))
  refine own_go (fun _ ww => XS.aloadN X119.here hx rfl (hb hby d1_42) rfl rfl ww) ?_
  show own_Goes _ _ _ _ _ _ _ (T119.setTop (mkF m 43 #[.val (.ref eFORBID), .val (.ref u13), .val (.ref r82), .val (.int (18 : Int32)), .val (.int (18 : Int32)), .val (.ref u17)] [(.ref u13)]))
  exact own_out X119 hlk (v := some (.ref u13)) (fun h => by rw [hret] at h; cases h) (fun fs hr => retOut X119 hx (t := (.object "com/example/role_rights/rolerights/policy/Statement")) hret rfl (Or.inr (Or.inr (Or.inr (Or.inr ⟨rfl, rfl, rfl⟩)))) (hb hby d1_43) hr) e119 ⟨0, rfl, N82, K82⟩ (by decide) (by decide)
theorem ef_effectFORBID (m : MethodId) (a : Addr) (o : Addr) : entryFrame m #[(.ref a)] 1 = mkF m 0 #[.val (.ref a)] [] := by
  first | (simp [entryFrame, mkF, argsToLocals, Value.category]; done) | rfl
def Q_effectFORBID (Z : State) (a : Addr) (o : Addr) (h0 : Heap) (n0 : Nat) (v : Option Value) (h : Heap) (L : List Loc) : Prop := v = some (.ref o) ∧ Fr n0 L ∧ h = h0
set_option maxRecDepth 65536 in
set_option maxHeartbeats 40000000 in
theorem rm_effectFORBID (l : Launch) (Z : State) (a0 : Array Value) (hw : ∀ d ∈ tables_1, d.before a0 Z = true) (ws : List Jvm.Cond) (a : Addr) (o : Addr) (h0 : Heap) (n0 : Nat) (O0 : Old Z n0 h0) (Fa : Fld Z h0 a "com/example/role_rights/rolerights/policy/Statement" "effect" "Lcom/example/role_rights/rolerights/policy/Effect;" (.ref o)) :
    MetFree l (⟨"com/example/role_rights/rolerights/policy/Statement", "effect", "()Lcom/example/role_rights/rolerights/policy/Effect;"⟩ : MethodName) (head1 (Jvm.Cond.code (⟨"com/example/role_rights/rolerights/policy/Statement", "effect", "()Lcom/example/role_rights/rolerights/policy/Effect;"⟩ : MethodName) prog_50_method_13_code 1 (some (.object "com/example/role_rights/rolerights/policy/Effect")) :: ws) ({ frames := 0, cells := 0, slots := 0, locals := 0 } : Room)) (fun av_ U => av_ = #[(.ref a)] ∧ Z.Warmed39 U.vm ∧ U.heap = h0) (fun _ _ _ _ _ => True) (fun _ U o_ U' => ∃ v L, o_ = .returned v ∧ Q_effectFORBID Z a o h0 n0 v U'.heap L ∧ FrameEnd U o_ U' L ({ frames := 0, cells := 0, slots := 0, locals := 0 } : Room).cells ({ frames := 0, cells := 0, slots := 0, locals := 0 } : Room).slots) := by
  refine MetFree.of_bodySF (plainFor_of_name pn_0) hisR ?_
  intro p e s m args below meth c s₁ Bd hml0 hP hK
  obtain ⟨rfl, hZ, hh⟩ := hP
  have hx := Bd.exec
  have hby := Bd.bytes
  have hml : c.maxLocals = 1 := hml0
  have hown : s.vm.findClass "com/example/role_rights/rolerights/policy/Statement" = some m.cls := findClass_of_methodNamed Bd.named
  have hnm := (name_of_methodNamed Bd.named Bd.method).1
  have hlk := own_lk Bd
  have hret := Bd.returns
  have X0 : Stand p l e ({ frames := 0, cells := 0, slots := 0, locals := 0 } : Room) s m #[(.ref a)] below meth c s₁ [] 0 0 := Stand.of_body Bd
  have e0 : s₁.heap = h0 := by rw [← hh, Bd.state]; rfl
  have N0 := Fr.nil n0
  show own_Goes p e below s (Q_effectFORBID Z a o h0 n0) ({ frames := 0, cells := 0, slots := 0, locals := 0 } : Room).cells ({ frames := 0, cells := 0, slots := 0, locals := 0 } : Room).slots (s₁.setTop (entryFrame m #[(.ref a)] 1))
  refine own_go (fun _ ww => castTop (ef_effectFORBID m a o) ww) ?_
  show own_Goes _ _ _ _ _ _ _ (s₁.setTop (mkF m 0 #[.val (.ref a)] []))
  refine own_go (fun _ ww => XS.aloadN X0.here hx rfl (hb hby d3_0) rfl rfl ww) ?_
  show own_Goes _ _ _ _ _ _ _ (s₁.setTop (mkF m 1 #[.val (.ref a)] [(.ref a)]))
  obtain ⟨T120, X120, e120, st120⟩ := getF X0 hx hZ hown (host := "") (Or.inl (hw _ (List.mem_of_getElem? (i := 42) rfl))) Via.refl e0 Fa (g := (mkF m 1 #[.val (.ref a)] [(.ref a)])) rfl rfl (hb hby d3_1)
  refine own_go st120 ?_
  show own_Goes _ _ _ _ _ _ _ (T120.setTop (mkF m 4 #[.val (.ref a)] [(.ref o)]))
  exact own_out X120 hlk (v := some (.ref o)) (fun h => by rw [hret] at h; cases h) (fun fs hr => retOut X120 hx (t := (.object "com/example/role_rights/rolerights/policy/Effect")) hret rfl (Or.inr (Or.inr (Or.inr (Or.inr ⟨rfl, rfl, rfl⟩)))) (hb hby d3_4) hr) e120 ⟨rfl, N0, rfl⟩ (by decide) (by decide)
theorem own_mod3 (x : Int32) : (x &&& 2147483647) % 3 = 0 ∨ (x &&& 2147483647) % 3 = 1 ∨ (x &&& 2147483647) % 3 = 2 := by
  have h := own_nn x
  generalize x &&& 2147483647 = y at h
  rw [XT.negI32] at h
  have e : (y % 3).toInt = y.toInt.tmod 3 := Int32.toInt_mod y 3
  have b1 : 0 ≤ y.toInt.tmod 3 := Int.tmod_nonneg 3 (by omega)
  have b2 : y.toInt.tmod 3 < 3 := Int.tmod_lt_of_pos _ (by omega)
  generalize y.toInt.tmod 3 = t at e b1 b2
  have hh : t = 0 ∨ t = 1 ∨ t = 2 := by omega
  rcases hh with rfl | rfl | rfl
  · exact Or.inl (Int32.toInt_inj.mp e)
  · exact Or.inr (Or.inl (Int32.toInt_inj.mp e))
  · exact Or.inr (Or.inr (Int32.toInt_inj.mp e))
theorem ef_law (m : MethodId) (x0 : Int32) (va : Addr) (kk : ClassId) (u0 : Addr) (u1 : Addr) (u2 : Addr) (u3 : Addr) (u4 : Addr) (u5 : Addr) (u6 : Addr) (u7 : Addr) (u8 : Addr) (u9 : Addr) (u10 : Addr) (u11 : Addr) (u12 : Addr) (u13 : Addr) (u14 : Addr) (u15 : Addr) (u16 : Addr) (u17 : Addr) (eGRANT : Addr) (eDENY : Addr) (eFORBID : Addr) : entryFrame m #[(.int x0)] maxLocals = mkF m 0 #[.val (.int x0), .unset, .unset, .unset, .unset] [] := by
  first | (simp [entryFrame, mkF, argsToLocals, Value.category, maxLocals]; done) | rfl
def Q_law (Z : State) (x0 : Int32) (va : Addr) (kk : ClassId) (u0 : Addr) (u1 : Addr) (u2 : Addr) (u3 : Addr) (u4 : Addr) (u5 : Addr) (u6 : Addr) (u7 : Addr) (u8 : Addr) (u9 : Addr) (u10 : Addr) (u11 : Addr) (u12 : Addr) (u13 : Addr) (u14 : Addr) (u15 : Addr) (u16 : Addr) (u17 : Addr) (eGRANT : Addr) (eDENY : Addr) (eFORBID : Addr) (h0 : Heap) (n0 : Nat) (v : Option Value) (h : Heap) (L : List Loc) : Prop := v = some (.int 1) ∧ Fr n0 L
set_option maxRecDepth 65536 in
set_option maxHeartbeats 40000000 in
theorem rm_law (l : Launch) (Z : State) (a0 : Array Value) (hw : ∀ d ∈ tables_1, d.before a0 Z = true) (ws : List Jvm.Cond) (x0 : Int32) (va : Addr) (kk : ClassId) (u0 : Addr) (u1 : Addr) (u2 : Addr) (u3 : Addr) (u4 : Addr) (u5 : Addr) (u6 : Addr) (u7 : Addr) (u8 : Addr) (u9 : Addr) (u10 : Addr) (u11 : Addr) (u12 : Addr) (u13 : Addr) (u14 : Addr) (u15 : Addr) (u16 : Addr) (u17 : Addr) (eGRANT : Addr) (eDENY : Addr) (eFORBID : Addr) (h0 : Heap) (n0 : Nat) (O0 : Old Z n0 h0) (SV : Sta Z Z.heap "com/example/role_rights/rolerights/policy/Statement" "$VALUES" "[Lcom/example/role_rights/rolerights/policy/Statement;" (.ref va)) (AV : Arv Z Z.heap va kk (.object "com/example/role_rights/rolerights/policy/Statement") (18 : Int32) [(.ref u0), (.ref u1), (.ref u2), (.ref u3), (.ref u4), (.ref u5), (.ref u6), (.ref u7), (.ref u8), (.ref u9), (.ref u10), (.ref u11), (.ref u12), (.ref u13), (.ref u14), (.ref u15), (.ref u16), (.ref u17)] .null) (EV : Exa Z Z.heap va "[Lcom/example/role_rights/rolerights/policy/Statement;") (F0 : Fld Z Z.heap u0 "com/example/role_rights/rolerights/policy/Statement" "effect" "Lcom/example/role_rights/rolerights/policy/Effect;" .null) (F1 : Fld Z Z.heap u1 "com/example/role_rights/rolerights/policy/Statement" "effect" "Lcom/example/role_rights/rolerights/policy/Effect;" .null) (F2 : Fld Z Z.heap u2 "com/example/role_rights/rolerights/policy/Statement" "effect" "Lcom/example/role_rights/rolerights/policy/Effect;" .null) (F3 : Fld Z Z.heap u3 "com/example/role_rights/rolerights/policy/Statement" "effect" "Lcom/example/role_rights/rolerights/policy/Effect;" .null) (F4 : Fld Z Z.heap u4 "com/example/role_rights/rolerights/policy/Statement" "effect" "Lcom/example/role_rights/rolerights/policy/Effect;" .null) (F5 : Fld Z Z.heap u5 "com/example/role_rights/rolerights/policy/Statement" "effect" "Lcom/example/role_rights/rolerights/policy/Effect;" .null) (F6 : Fld Z Z.heap u6 "com/example/role_rights/rolerights/policy/Statement" "effect" "Lcom/example/role_rights/rolerights/policy/Effect;" .null) (F7 : Fld Z Z.heap u7 "com/example/role_rights/rolerights/policy/Statement" "effect" "Lcom/example/role_rights/rolerights/policy/Effect;" .null) (F8 : Fld Z Z.heap u8 "com/example/role_rights/rolerights/policy/Statement" "effect" "Lcom/example/role_rights/rolerights/policy/Effect;" .null) (F9 : Fld Z Z.heap u9 "com/example/role_rights/rolerights/policy/Statement" "effect" "Lcom/example/role_rights/rolerights/policy/Effect;" .null) (F10 : Fld Z Z.heap u10 "com/example/role_rights/rolerights/policy/Statement" "effect" "Lcom/example/role_rights/rolerights/policy/Effect;" .null) (F11 : Fld Z Z.heap u11 "com/example/role_rights/rolerights/policy/Statement" "effect" "Lcom/example/role_rights/rolerights/policy/Effect;" (.ref eGRANT)) (F12 : Fld Z Z.heap u12 "com/example/role_rights/rolerights/policy/Statement" "effect" "Lcom/example/role_rights/rolerights/policy/Effect;" (.ref eDENY)) (F13 : Fld Z Z.heap u13 "com/example/role_rights/rolerights/policy/Statement" "effect" "Lcom/example/role_rights/rolerights/policy/Effect;" (.ref eFORBID)) (F14 : Fld Z Z.heap u14 "com/example/role_rights/rolerights/policy/Statement" "effect" "Lcom/example/role_rights/rolerights/policy/Effect;" .null) (F15 : Fld Z Z.heap u15 "com/example/role_rights/rolerights/policy/Statement" "effect" "Lcom/example/role_rights/rolerights/policy/Effect;" .null) (F16 : Fld Z Z.heap u16 "com/example/role_rights/rolerights/policy/Statement" "effect" "Lcom/example/role_rights/rolerights/policy/Effect;" .null) (F17 : Fld Z Z.heap u17 "com/example/role_rights/rolerights/policy/Statement" "effect" "Lcom/example/role_rights/rolerights/policy/Effect;" .null) (n01 : eGRANT ≠ eDENY) (n02 : eGRANT ≠ eFORBID) (n12 : eDENY ≠ eFORBID) (SGRANT : Sta Z Z.heap "com/example/role_rights/rolerights/policy/Effect" "GRANT" "Lcom/example/role_rights/rolerights/policy/Effect;" (.ref eGRANT)) (SDENY : Sta Z Z.heap "com/example/role_rights/rolerights/policy/Effect" "DENY" "Lcom/example/role_rights/rolerights/policy/Effect;" (.ref eDENY)) (SFORBID : Sta Z Z.heap "com/example/role_rights/rolerights/policy/Effect" "FORBID" "Lcom/example/role_rights/rolerights/policy/Effect;" (.ref eFORBID)) (TGRANT : Sta Z Z.heap "com/example/role_rights/rolerights/policy/Statement" "GRANT" "Lcom/example/role_rights/rolerights/policy/Statement;" (.ref u11)) (TDENY : Sta Z Z.heap "com/example/role_rights/rolerights/policy/Statement" "DENY" "Lcom/example/role_rights/rolerights/policy/Statement;" (.ref u12)) (TFORBID : Sta Z Z.heap "com/example/role_rights/rolerights/policy/Statement" "FORBID" "Lcom/example/role_rights/rolerights/policy/Statement;" (.ref u13)) (XGRANT : Exa Z Z.heap u11 "com/example/role_rights/rolerights/policy/Statement") (XDENY : Exa Z Z.heap u12 "com/example/role_rights/rolerights/policy/Statement") (XFORBID : Exa Z Z.heap u13 "com/example/role_rights/rolerights/policy/Statement") :
    MetFree l x (head1 (Jvm.Cond.code x code maxLocals ret :: ws) room_1) (fun av_ U => av_ = #[(.int x0)] ∧ Z.Warmed39 U.vm ∧ U.heap = h0) (fun _ _ _ _ _ => True) (fun _ U o_ U' => ∃ v L, o_ = .returned v ∧ Q_law Z x0 va kk u0 u1 u2 u3 u4 u5 u6 u7 u8 u9 u10 u11 u12 u13 u14 u15 u16 u17 eGRANT eDENY eFORBID h0 n0 v U'.heap L ∧ FrameEnd U o_ U' L room_1.cells room_1.slots) := by
  refine MetFree.of_bodySF (plainFor_of_name pn_1) hisR ?_
  intro p e s m args below meth c s₁ Bd hml0 hP hK
  obtain ⟨rfl, hZ, hh⟩ := hP
  have hx := Bd.exec
  have hby := Bd.bytes
  have hml : c.maxLocals = 5 := hml0
  have hown : s.vm.findClass "com/example/role_rights/rolerights/policy/StatementStatingPinLaw" = some m.cls := findClass_of_methodNamed Bd.named
  have hnm := (name_of_methodNamed Bd.named Bd.method).1
  have hlk := own_lk Bd
  have hret := Bd.returns
  have X0 : Stand p l e room_1 s m #[(.int x0)] below meth c s₁ [] 0 0 := Stand.of_body Bd
  have e0 : s₁.heap = h0 := by rw [← hh, Bd.state]; rfl
  have N0 := Fr.nil n0
  show own_Goes p e below s (Q_law Z x0 va kk u0 u1 u2 u3 u4 u5 u6 u7 u8 u9 u10 u11 u12 u13 u14 u15 u16 u17 eGRANT eDENY eFORBID h0 n0) room_1.cells room_1.slots (s₁.setTop (entryFrame m #[(.int x0)] maxLocals))
  refine own_go (fun _ ww => castTop (ef_law m x0 va kk u0 u1 u2 u3 u4 u5 u6 u7 u8 u9 u10 u11 u12 u13 u14 u15 u16 u17 eGRANT eDENY eFORBID) ww) ?_
  show own_Goes _ _ _ _ _ _ _ (s₁.setTop (mkF m 0 #[.val (.int x0), .unset, .unset, .unset, .unset] []))
  refine own_go (fun _ ww => XS.iloadN X0.here hx rfl (hb hby at_0) rfl  ww) ?_
  show own_Goes _ _ _ _ _ _ _ (s₁.setTop (mkF m 1 #[.val (.int x0), .unset, .unset, .unset, .unset] [(.int x0)]))
  refine own_go (fun _ ww => X0.ldcI hx hown (mvT hZ (hw _ (List.mem_of_getElem? (i := 0) rfl))) rfl (hb hby at_1) ww) ?_
  show own_Goes _ _ _ _ _ _ _ (s₁.setTop (mkF m 3 #[.val (.int x0), .unset, .unset, .unset, .unset] [(.int (2147483647 : Int32)), (.int x0)]))
  refine own_go (fun _ ww => XS.iand X0.here hx rfl (hb hby at_3) rfl ww) ?_
  show own_Goes _ _ _ _ _ _ _ (s₁.setTop (mkF m 4 #[.val (.int x0), .unset, .unset, .unset, .unset] [(.int (x0 &&& (2147483647 : Int32)))]))
  refine own_go (fun _ ww => XS.iconst X0.here hx rfl (hb hby at_4) ww) ?_
  show own_Goes _ _ _ _ _ _ _ (s₁.setTop (mkF m 5 #[.val (.int x0), .unset, .unset, .unset, .unset] [(.int (3 : Int32)), (.int (x0 &&& (2147483647 : Int32)))]))
  refine own_go (fun _ ww => iremM X0 hx rfl (hb hby at_5) rfl (by decide) ww) ?_
  show own_Goes _ _ _ _ _ _ _ (s₁.setTop (mkF m 6 #[.val (.int x0), .unset, .unset, .unset, .unset] [(.int ((x0 &&& (2147483647 : Int32)) % (3 : Int32)))]))
  rcases own_mod3 x0 with hk | hk | hk
  ·
    rw [hk]
    show own_Goes _ _ _ _ _ _ _ (s₁.setTop (mkF m 6 #[.val (.int x0), .unset, .unset, .unset, .unset] [(.int (0 : Int32))]))
    refine own_go (fun _ ww => XS.istoreN X0.here hx rfl (hb hby at_6) rfl (l' := #[.val (.int x0), .val (.int (0 : Int32)), .unset, .unset, .unset]) rfl ww) ?_
    show own_Goes _ _ _ _ _ _ _ (s₁.setTop (mkF m 7 #[.val (.int x0), .val (.int (0 : Int32)), .unset, .unset, .unset] []))
    refine own_go (fun _ ww => XS.iloadN X0.here hx rfl (hb hby at_7) rfl  ww) ?_
    show own_Goes _ _ _ _ _ _ _ (s₁.setTop (mkF m 8 #[.val (.int x0), .val (.int (0 : Int32)), .unset, .unset, .unset] [(.int (0 : Int32))]))
    refine own_go (fun _ ww => XS.ifNo X0.here hx rfl (hb hby at_8) rfl (own_if .ne (teq (by decide : (0 : Int32) = (0 : Int32))).2) ww) ?_
    show own_Goes _ _ _ _ _ _ _ (s₁.setTop (mkF m 11 #[.val (.int x0), .val (.int (0 : Int32)), .unset, .unset, .unset] []))
    obtain ⟨T121, X121, e121, st121⟩ := getS X0 hx hZ hown (host := "") (hw _ (List.mem_of_getElem? (i := 1) rfl)) Via.refl e0 (SGRANT.ext O0.2) (g := (mkF m 11 #[.val (.int x0), .val (.int (0 : Int32)), .unset, .unset, .unset] [])) rfl (hb hby at_11)
    refine own_go st121 ?_
    show own_Goes _ _ _ _ _ _ _ (T121.setTop (mkF m 14 #[.val (.int x0), .val (.int (0 : Int32)), .unset, .unset, .unset] [(.ref eGRANT)]))
    refine own_go (fun _ ww => XS.goto X121.here hx rfl (pc0 := 14) (pc' := 31) rfl (hb hby at_14) (by decide) (by decide) ww) ?_
    show own_Goes _ _ _ _ _ _ _ (T121.setTop (mkF m 31 #[.val (.int x0), .val (.int (0 : Int32)), .unset, .unset, .unset] [(.ref eGRANT)]))
    refine own_go (fun _ ww => XS.astoreN X121.here hx rfl (hb hby at_31) rfl rfl (l' := #[.val (.int x0), .val (.int (0 : Int32)), .val (.ref eGRANT), .unset, .unset]) rfl ww) ?_
    show own_Goes _ _ _ _ _ _ _ (T121.setTop (mkF m 32 #[.val (.int x0), .val (.int (0 : Int32)), .val (.ref eGRANT), .unset, .unset] []))
    refine own_go (fun _ ww => XS.iloadN X121.here hx rfl (hb hby at_32) rfl  ww) ?_
    show own_Goes _ _ _ _ _ _ _ (T121.setTop (mkF m 33 #[.val (.int x0), .val (.int (0 : Int32)), .val (.ref eGRANT), .unset, .unset] [(.int (0 : Int32))]))
    refine own_go (fun _ ww => XS.ifNo X121.here hx rfl (hb hby at_33) rfl (own_if .ne (teq (by decide : (0 : Int32) = (0 : Int32))).2) ww) ?_
    show own_Goes _ _ _ _ _ _ _ (T121.setTop (mkF m 36 #[.val (.int x0), .val (.int (0 : Int32)), .val (.ref eGRANT), .unset, .unset] []))
    obtain ⟨T122, X122, e122, st122⟩ := getS X121 hx hZ hown (host := "") (hw _ (List.mem_of_getElem? (i := 4) rfl)) Via.refl e121 (TGRANT.ext O0.2) (g := (mkF m 36 #[.val (.int x0), .val (.int (0 : Int32)), .val (.ref eGRANT), .unset, .unset] [])) rfl (hb hby at_36)
    refine own_go st122 ?_
    show own_Goes _ _ _ _ _ _ _ (T122.setTop (mkF m 39 #[.val (.int x0), .val (.int (0 : Int32)), .val (.ref eGRANT), .unset, .unset] [(.ref u11)]))
    refine own_go (fun _ ww => XS.goto X122.here hx rfl (pc0 := 39) (pc' := 56) rfl (hb hby at_39) (by decide) (by decide) ww) ?_
    show own_Goes _ _ _ _ _ _ _ (T122.setTop (mkF m 56 #[.val (.int x0), .val (.int (0 : Int32)), .val (.ref eGRANT), .unset, .unset] [(.ref u11)]))
    refine own_go (fun _ ww => XS.astoreN X122.here hx rfl (hb hby at_56) rfl rfl (l' := #[.val (.int x0), .val (.int (0 : Int32)), .val (.ref eGRANT), .val (.ref u11), .unset]) rfl ww) ?_
    show own_Goes _ _ _ _ _ _ _ (T122.setTop (mkF m 57 #[.val (.int x0), .val (.int (0 : Int32)), .val (.ref eGRANT), .val (.ref u11), .unset] []))
    refine own_go (fun _ ww => XS.aloadN X122.here hx rfl (hb hby at_57) rfl rfl ww) ?_
    show own_Goes _ _ _ _ _ _ _ (T122.setTop (mkF m 58 #[.val (.int x0), .val (.int (0 : Int32)), .val (.ref eGRANT), .val (.ref u11), .unset] [(.ref eGRANT)]))
    obtain ⟨_, _, ⟨T123, L123, k123, n123⟩, -, X123, ⟨Lc123, hQ123, l123, y123, z123⟩, st123⟩ := Jvm.LawKit.callS X122 hx (y := (⟨"com/example/role_rights/rolerights/policy/Statement", "stating", "(Lcom/example/role_rights/rolerights/policy/Effect;)Lcom/example/role_rights/rolerights/policy/Statement;"⟩ : MethodName)) hown (mvT hZ (hw _ (List.mem_of_getElem? (i := 7) rfl))) (mvT hZ (hw _ (List.mem_of_getElem? (i := 8) rfl))) (mvT hZ (hw _ (List.mem_of_getElem? (i := 5) rfl))) (mvT hZ (hw _ (List.mem_of_getElem? (i := 9) rfl))) (by decide) (backOf (W := 0) (rm_statingGRANT l Z a0 hw [] va kk u0 u1 u2 u3 u4 u5 u6 u7 u8 u9 u10 u11 u12 u13 u14 u15 u16 u17 eGRANT eDENY eFORBID h0 n0 O0 SV AV EV F0 F1 F2 F3 F4 F5 F6 F7 F8 F9 F10 F11 F12 F13 F14 F15 F16 F17 n01 n02 n12) hZ (hw _ (List.mem_of_getElem? (i := 9) rfl)) (hw _ (List.mem_of_getElem? (i := 5) rfl)) (by decide) (by decide)) (g := (mkF m 58 #[.val (.int x0), .val (.int (0 : Int32)), .val (.ref eGRANT), .val (.ref u11), .unset] [(.ref eGRANT)])) rfl (by rw [hml]; rfl) (argsL := [(.ref eGRANT)]) (rest := []) (lenOf pd_1 rfl) rfl (by show 2 * 0 + _ ≤ _; exact Nat.le_of_eq rfl) (hb hby at_58) (fun _ _ => ⟨rfl, e122, (by decide : 0 + 1 ≤ _), (by decide : 0 + 18 ≤ _)⟩)
    dsimp only [Pt.U, Pt.locs, Pt.cells, Pt.slots] at X123 l123 y123 z123 st123 hQ123
    subst l123 y123 z123
    obtain ⟨r123, rfl, N123q, K123q⟩ := hQ123
    have N123 := Fr.app N0 N123q
    have O123 := O0.keep K123q all0
    refine own_go st123 ?_
    show own_Goes _ _ _ _ _ _ _ (T123.setTop (mkF m 61 #[.val (.int x0), .val (.int (0 : Int32)), .val (.ref eGRANT), .val (.ref u11), .unset] [(.ref u11)]))
    refine own_go (fun _ ww => XS.astore X123.here hx rfl (hb hby at_61) rfl rfl (l' := #[.val (.int x0), .val (.int (0 : Int32)), .val (.ref eGRANT), .val (.ref u11), .val (.ref u11)]) rfl ww) ?_
    show own_Goes _ _ _ _ _ _ _ (T123.setTop (mkF m 63 #[.val (.int x0), .val (.int (0 : Int32)), .val (.ref eGRANT), .val (.ref u11), .val (.ref u11)] []))
    refine own_go (fun _ ww => XS.aload X123.here hx rfl (hb hby at_63) rfl rfl ww) ?_
    show own_Goes _ _ _ _ _ _ _ (T123.setTop (mkF m 65 #[.val (.int x0), .val (.int (0 : Int32)), .val (.ref eGRANT), .val (.ref u11), .val (.ref u11)] [(.ref u11)]))
    refine own_go (fun _ ww => XS.aloadN X123.here hx rfl (hb hby at_65) rfl rfl ww) ?_
    show own_Goes _ _ _ _ _ _ _ (T123.setTop (mkF m 66 #[.val (.int x0), .val (.int (0 : Int32)), .val (.ref eGRANT), .val (.ref u11), .val (.ref u11)] [(.ref u11), (.ref u11)]))
    refine own_go (fun _ ww => XT.acmpNo X123.here hx rfl (hb hby at_66) rfl rfl rfl (own_aeq (rfl : u11 = u11)).2 ww) ?_
    show own_Goes _ _ _ _ _ _ _ (T123.setTop (mkF m 69 #[.val (.int x0), .val (.int (0 : Int32)), .val (.ref eGRANT), .val (.ref u11), .val (.ref u11)] []))
    refine own_go (fun _ ww => XS.aload X123.here hx rfl (hb hby at_69) rfl rfl ww) ?_
    show own_Goes _ _ _ _ _ _ _ (T123.setTop (mkF m 71 #[.val (.int x0), .val (.int (0 : Int32)), .val (.ref eGRANT), .val (.ref u11), .val (.ref u11)] [(.ref u11)]))
    obtain ⟨cq124, kq124, q124a, q124b, q124c⟩ := isOf hZ rfl (XGRANT.ext O123.2)
    obtain ⟨_, _, ⟨T124, L124, k124, n124⟩, -, X124, ⟨Lc124, hQ124, l124, y124, z124⟩, st124⟩ := X123.virtualBack hx (y := (⟨"com/example/role_rights/rolerights/policy/Statement", "effect", "()Lcom/example/role_rights/rolerights/policy/Effect;"⟩ : MethodName)) (z := (⟨"com/example/role_rights/rolerights/policy/Statement", "effect", "()Lcom/example/role_rights/rolerights/policy/Effect;"⟩ : MethodName)) hown (mvT hZ (hw _ (List.mem_of_getElem? (i := 46) rfl))) (mvT hZ (hw _ (List.mem_of_getElem? (i := 47) rfl))) (notFace_of_selects (args := #[]) (mvT hZ (hw _ (List.mem_of_getElem? (i := 49) rfl)))) (mvT hZ (hw _ (List.mem_of_getElem? (i := 49) rfl))) (mvT hZ (hw _ (List.mem_of_getElem? (i := 48) rfl))) (by decide) (backOf (W := 0) (rm_effectGRANT l Z a0 hw [] u11 eGRANT T123.heap n0 O123 (F11.ext O123.2)) hZ (hw _ (List.mem_of_getElem? (i := 50) rfl)) (hw _ (List.mem_of_getElem? (i := 5) rfl)) (by decide) (by decide)) q124a q124c (g := (mkF m 71 #[.val (.int x0), .val (.int (0 : Int32)), .val (.ref eGRANT), .val (.ref u11), .val (.ref u11)] [(.ref u11)])) rfl (by rw [hml]; rfl) (Steps.refl _) (argsL := []) (rest := []) (lenOf pd_2 rfl) rfl (by show 2 * 0 + _ ≤ _; exact Nat.le_of_eq rfl) (hb hby at_71) (fun _ _ => ⟨rfl, rfl, (by decide : 1 + 0 ≤ _), (by decide : 18 + 0 ≤ _)⟩)
    dsimp only [Pt.U, Pt.locs, Pt.cells, Pt.slots] at X124 l124 y124 z124 st124 hQ124
    subst l124 y124 z124
    obtain ⟨rfl, N124q, e124⟩ := hQ124
    have N124 := Fr.app N123 N124q
    refine own_go (fun _ ww => Steps.trans st124 ww) ?_
    show own_Goes _ _ _ _ _ _ _ (T124.setTop (mkF m 74 #[.val (.int x0), .val (.int (0 : Int32)), .val (.ref eGRANT), .val (.ref u11), .val (.ref u11)] [(.ref eGRANT)]))
    refine own_go (fun _ ww => XS.aloadN X124.here hx rfl (hb hby at_74) rfl rfl ww) ?_
    show own_Goes _ _ _ _ _ _ _ (T124.setTop (mkF m 75 #[.val (.int x0), .val (.int (0 : Int32)), .val (.ref eGRANT), .val (.ref u11), .val (.ref u11)] [(.ref eGRANT), (.ref eGRANT)]))
    refine own_go (fun _ ww => XT.acmpNo X124.here hx rfl (hb hby at_75) rfl rfl rfl (own_aeq (rfl : eGRANT = eGRANT)).2 ww) ?_
    show own_Goes _ _ _ _ _ _ _ (T124.setTop (mkF m 78 #[.val (.int x0), .val (.int (0 : Int32)), .val (.ref eGRANT), .val (.ref u11), .val (.ref u11)] []))
    refine own_go (fun _ ww => XS.iconst X124.here hx rfl (hb hby at_78) ww) ?_
    show own_Goes _ _ _ _ _ _ _ (T124.setTop (mkF m 79 #[.val (.int x0), .val (.int (0 : Int32)), .val (.ref eGRANT), .val (.ref u11), .val (.ref u11)] [(.int (1 : Int32))]))
    refine own_go (fun _ ww => XS.goto X124.here hx rfl (pc0 := 79) (pc' := 83) rfl (hb hby at_79) (by decide) (by decide) ww) ?_
    show own_Goes _ _ _ _ _ _ _ (T124.setTop (mkF m 83 #[.val (.int x0), .val (.int (0 : Int32)), .val (.ref eGRANT), .val (.ref u11), .val (.ref u11)] [(.int (1 : Int32))]))
    exact own_out X124 hlk (v := some (.int (1 : Int32))) (fun h => by rw [hret] at h; cases h) (fun fs hr => retOut X124 hx (t := .boolean) hret (by decide) (Or.inl ⟨rfl, by simp, _, rfl⟩) (hb hby at_83) hr) e124 ⟨rfl, N124⟩ (by decide) (by decide)
  ·
    rw [hk]
    show own_Goes _ _ _ _ _ _ _ (s₁.setTop (mkF m 6 #[.val (.int x0), .unset, .unset, .unset, .unset] [(.int (1 : Int32))]))
    refine own_go (fun _ ww => XS.istoreN X0.here hx rfl (hb hby at_6) rfl (l' := #[.val (.int x0), .val (.int (1 : Int32)), .unset, .unset, .unset]) rfl ww) ?_
    show own_Goes _ _ _ _ _ _ _ (s₁.setTop (mkF m 7 #[.val (.int x0), .val (.int (1 : Int32)), .unset, .unset, .unset] []))
    refine own_go (fun _ ww => XS.iloadN X0.here hx rfl (hb hby at_7) rfl  ww) ?_
    show own_Goes _ _ _ _ _ _ _ (s₁.setTop (mkF m 8 #[.val (.int x0), .val (.int (1 : Int32)), .unset, .unset, .unset] [(.int (1 : Int32))]))
    refine own_go (fun _ ww => XS.ifYes X0.here hx rfl (pc0 := 8) (pc' := 17) rfl (hb hby at_8) rfl (own_if .ne (feq (by decide : ¬ ((1 : Int32) = (0 : Int32)))).2) (by decide) (by decide) ww) ?_
    show own_Goes _ _ _ _ _ _ _ (s₁.setTop (mkF m 17 #[.val (.int x0), .val (.int (1 : Int32)), .unset, .unset, .unset] []))
    refine own_go (fun _ ww => XS.iloadN X0.here hx rfl (hb hby at_17) rfl  ww) ?_
    show own_Goes _ _ _ _ _ _ _ (s₁.setTop (mkF m 18 #[.val (.int x0), .val (.int (1 : Int32)), .unset, .unset, .unset] [(.int (1 : Int32))]))
    refine own_go (fun _ ww => XS.iconst X0.here hx rfl (hb hby at_18) ww) ?_
    show own_Goes _ _ _ _ _ _ _ (s₁.setTop (mkF m 19 #[.val (.int x0), .val (.int (1 : Int32)), .unset, .unset, .unset] [(.int (1 : Int32)), (.int (1 : Int32))]))
    refine own_go (fun _ ww => XS.icmpNo X0.here hx rfl (hb hby at_19) rfl (teq (by decide : (1 : Int32) = (1 : Int32))).2 ww) ?_
    show own_Goes _ _ _ _ _ _ _ (s₁.setTop (mkF m 22 #[.val (.int x0), .val (.int (1 : Int32)), .unset, .unset, .unset] []))
    obtain ⟨T125, X125, e125, st125⟩ := getS X0 hx hZ hown (host := "") (hw _ (List.mem_of_getElem? (i := 53) rfl)) Via.refl e0 (SDENY.ext O0.2) (g := (mkF m 22 #[.val (.int x0), .val (.int (1 : Int32)), .unset, .unset, .unset] [])) rfl (hb hby at_22)
    refine own_go st125 ?_
    show own_Goes _ _ _ _ _ _ _ (T125.setTop (mkF m 25 #[.val (.int x0), .val (.int (1 : Int32)), .unset, .unset, .unset] [(.ref eDENY)]))
    refine own_go (fun _ ww => XS.goto X125.here hx rfl (pc0 := 25) (pc' := 31) rfl (hb hby at_25) (by decide) (by decide) ww) ?_
    show own_Goes _ _ _ _ _ _ _ (T125.setTop (mkF m 31 #[.val (.int x0), .val (.int (1 : Int32)), .unset, .unset, .unset] [(.ref eDENY)]))
    refine own_go (fun _ ww => XS.astoreN X125.here hx rfl (hb hby at_31) rfl rfl (l' := #[.val (.int x0), .val (.int (1 : Int32)), .val (.ref eDENY), .unset, .unset]) rfl ww) ?_
    show own_Goes _ _ _ _ _ _ _ (T125.setTop (mkF m 32 #[.val (.int x0), .val (.int (1 : Int32)), .val (.ref eDENY), .unset, .unset] []))
    refine own_go (fun _ ww => XS.iloadN X125.here hx rfl (hb hby at_32) rfl  ww) ?_
    show own_Goes _ _ _ _ _ _ _ (T125.setTop (mkF m 33 #[.val (.int x0), .val (.int (1 : Int32)), .val (.ref eDENY), .unset, .unset] [(.int (1 : Int32))]))
    refine own_go (fun _ ww => XS.ifYes X125.here hx rfl (pc0 := 33) (pc' := 42) rfl (hb hby at_33) rfl (own_if .ne (feq (by decide : ¬ ((1 : Int32) = (0 : Int32)))).2) (by decide) (by decide) ww) ?_
    show own_Goes _ _ _ _ _ _ _ (T125.setTop (mkF m 42 #[.val (.int x0), .val (.int (1 : Int32)), .val (.ref eDENY), .unset, .unset] []))
    refine own_go (fun _ ww => XS.iloadN X125.here hx rfl (hb hby at_42) rfl  ww) ?_
    show own_Goes _ _ _ _ _ _ _ (T125.setTop (mkF m 43 #[.val (.int x0), .val (.int (1 : Int32)), .val (.ref eDENY), .unset, .unset] [(.int (1 : Int32))]))
    refine own_go (fun _ ww => XS.iconst X125.here hx rfl (hb hby at_43) ww) ?_
    show own_Goes _ _ _ _ _ _ _ (T125.setTop (mkF m 44 #[.val (.int x0), .val (.int (1 : Int32)), .val (.ref eDENY), .unset, .unset] [(.int (1 : Int32)), (.int (1 : Int32))]))
    refine own_go (fun _ ww => XS.icmpNo X125.here hx rfl (hb hby at_44) rfl (teq (by decide : (1 : Int32) = (1 : Int32))).2 ww) ?_
    show own_Goes _ _ _ _ _ _ _ (T125.setTop (mkF m 47 #[.val (.int x0), .val (.int (1 : Int32)), .val (.ref eDENY), .unset, .unset] []))
    obtain ⟨T126, X126, e126, st126⟩ := getS X125 hx hZ hown (host := "") (hw _ (List.mem_of_getElem? (i := 54) rfl)) Via.refl e125 (TDENY.ext O0.2) (g := (mkF m 47 #[.val (.int x0), .val (.int (1 : Int32)), .val (.ref eDENY), .unset, .unset] [])) rfl (hb hby at_47)
    refine own_go st126 ?_
    show own_Goes _ _ _ _ _ _ _ (T126.setTop (mkF m 50 #[.val (.int x0), .val (.int (1 : Int32)), .val (.ref eDENY), .unset, .unset] [(.ref u12)]))
    refine own_go (fun _ ww => XS.goto X126.here hx rfl (pc0 := 50) (pc' := 56) rfl (hb hby at_50) (by decide) (by decide) ww) ?_
    show own_Goes _ _ _ _ _ _ _ (T126.setTop (mkF m 56 #[.val (.int x0), .val (.int (1 : Int32)), .val (.ref eDENY), .unset, .unset] [(.ref u12)]))
    refine own_go (fun _ ww => XS.astoreN X126.here hx rfl (hb hby at_56) rfl rfl (l' := #[.val (.int x0), .val (.int (1 : Int32)), .val (.ref eDENY), .val (.ref u12), .unset]) rfl ww) ?_
    show own_Goes _ _ _ _ _ _ _ (T126.setTop (mkF m 57 #[.val (.int x0), .val (.int (1 : Int32)), .val (.ref eDENY), .val (.ref u12), .unset] []))
    refine own_go (fun _ ww => XS.aloadN X126.here hx rfl (hb hby at_57) rfl rfl ww) ?_
    show own_Goes _ _ _ _ _ _ _ (T126.setTop (mkF m 58 #[.val (.int x0), .val (.int (1 : Int32)), .val (.ref eDENY), .val (.ref u12), .unset] [(.ref eDENY)]))
    obtain ⟨_, _, ⟨T127, L127, k127, n127⟩, -, X127, ⟨Lc127, hQ127, l127, y127, z127⟩, st127⟩ := Jvm.LawKit.callS X126 hx (y := (⟨"com/example/role_rights/rolerights/policy/Statement", "stating", "(Lcom/example/role_rights/rolerights/policy/Effect;)Lcom/example/role_rights/rolerights/policy/Statement;"⟩ : MethodName)) hown (mvT hZ (hw _ (List.mem_of_getElem? (i := 7) rfl))) (mvT hZ (hw _ (List.mem_of_getElem? (i := 8) rfl))) (mvT hZ (hw _ (List.mem_of_getElem? (i := 5) rfl))) (mvT hZ (hw _ (List.mem_of_getElem? (i := 9) rfl))) (by decide) (backOf (W := 0) (rm_statingDENY l Z a0 hw [] va kk u0 u1 u2 u3 u4 u5 u6 u7 u8 u9 u10 u11 u12 u13 u14 u15 u16 u17 eGRANT eDENY eFORBID h0 n0 O0 SV AV EV F0 F1 F2 F3 F4 F5 F6 F7 F8 F9 F10 F11 F12 F13 F14 F15 F16 F17 n01 n02 n12) hZ (hw _ (List.mem_of_getElem? (i := 9) rfl)) (hw _ (List.mem_of_getElem? (i := 5) rfl)) (by decide) (by decide)) (g := (mkF m 58 #[.val (.int x0), .val (.int (1 : Int32)), .val (.ref eDENY), .val (.ref u12), .unset] [(.ref eDENY)])) rfl (by rw [hml]; rfl) (argsL := [(.ref eDENY)]) (rest := []) (lenOf pd_1 rfl) rfl (by show 2 * 0 + _ ≤ _; exact Nat.le_of_eq rfl) (hb hby at_58) (fun _ _ => ⟨rfl, e126, (by decide : 0 + 1 ≤ _), (by decide : 0 + 18 ≤ _)⟩)
    dsimp only [Pt.U, Pt.locs, Pt.cells, Pt.slots] at X127 l127 y127 z127 st127 hQ127
    subst l127 y127 z127
    obtain ⟨r127, rfl, N127q, K127q⟩ := hQ127
    have N127 := Fr.app N0 N127q
    have O127 := O0.keep K127q all0
    refine own_go st127 ?_
    show own_Goes _ _ _ _ _ _ _ (T127.setTop (mkF m 61 #[.val (.int x0), .val (.int (1 : Int32)), .val (.ref eDENY), .val (.ref u12), .unset] [(.ref u12)]))
    refine own_go (fun _ ww => XS.astore X127.here hx rfl (hb hby at_61) rfl rfl (l' := #[.val (.int x0), .val (.int (1 : Int32)), .val (.ref eDENY), .val (.ref u12), .val (.ref u12)]) rfl ww) ?_
    show own_Goes _ _ _ _ _ _ _ (T127.setTop (mkF m 63 #[.val (.int x0), .val (.int (1 : Int32)), .val (.ref eDENY), .val (.ref u12), .val (.ref u12)] []))
    refine own_go (fun _ ww => XS.aload X127.here hx rfl (hb hby at_63) rfl rfl ww) ?_
    show own_Goes _ _ _ _ _ _ _ (T127.setTop (mkF m 65 #[.val (.int x0), .val (.int (1 : Int32)), .val (.ref eDENY), .val (.ref u12), .val (.ref u12)] [(.ref u12)]))
    refine own_go (fun _ ww => XS.aloadN X127.here hx rfl (hb hby at_65) rfl rfl ww) ?_
    show own_Goes _ _ _ _ _ _ _ (T127.setTop (mkF m 66 #[.val (.int x0), .val (.int (1 : Int32)), .val (.ref eDENY), .val (.ref u12), .val (.ref u12)] [(.ref u12), (.ref u12)]))
    refine own_go (fun _ ww => XT.acmpNo X127.here hx rfl (hb hby at_66) rfl rfl rfl (own_aeq (rfl : u12 = u12)).2 ww) ?_
    show own_Goes _ _ _ _ _ _ _ (T127.setTop (mkF m 69 #[.val (.int x0), .val (.int (1 : Int32)), .val (.ref eDENY), .val (.ref u12), .val (.ref u12)] []))
    refine own_go (fun _ ww => XS.aload X127.here hx rfl (hb hby at_69) rfl rfl ww) ?_
    show own_Goes _ _ _ _ _ _ _ (T127.setTop (mkF m 71 #[.val (.int x0), .val (.int (1 : Int32)), .val (.ref eDENY), .val (.ref u12), .val (.ref u12)] [(.ref u12)]))
    obtain ⟨cq128, kq128, q128a, q128b, q128c⟩ := isOf hZ rfl (XDENY.ext O127.2)
    obtain ⟨_, _, ⟨T128, L128, k128, n128⟩, -, X128, ⟨Lc128, hQ128, l128, y128, z128⟩, st128⟩ := X127.virtualBack hx (y := (⟨"com/example/role_rights/rolerights/policy/Statement", "effect", "()Lcom/example/role_rights/rolerights/policy/Effect;"⟩ : MethodName)) (z := (⟨"com/example/role_rights/rolerights/policy/Statement", "effect", "()Lcom/example/role_rights/rolerights/policy/Effect;"⟩ : MethodName)) hown (mvT hZ (hw _ (List.mem_of_getElem? (i := 46) rfl))) (mvT hZ (hw _ (List.mem_of_getElem? (i := 47) rfl))) (notFace_of_selects (args := #[]) (mvT hZ (hw _ (List.mem_of_getElem? (i := 49) rfl)))) (mvT hZ (hw _ (List.mem_of_getElem? (i := 49) rfl))) (mvT hZ (hw _ (List.mem_of_getElem? (i := 48) rfl))) (by decide) (backOf (W := 0) (rm_effectDENY l Z a0 hw [] u12 eDENY T127.heap n0 O127 (F12.ext O127.2)) hZ (hw _ (List.mem_of_getElem? (i := 50) rfl)) (hw _ (List.mem_of_getElem? (i := 5) rfl)) (by decide) (by decide)) q128a q128c (g := (mkF m 71 #[.val (.int x0), .val (.int (1 : Int32)), .val (.ref eDENY), .val (.ref u12), .val (.ref u12)] [(.ref u12)])) rfl (by rw [hml]; rfl) (Steps.refl _) (argsL := []) (rest := []) (lenOf pd_2 rfl) rfl (by show 2 * 0 + _ ≤ _; exact Nat.le_of_eq rfl) (hb hby at_71) (fun _ _ => ⟨rfl, rfl, (by decide : 1 + 0 ≤ _), (by decide : 18 + 0 ≤ _)⟩)
    dsimp only [Pt.U, Pt.locs, Pt.cells, Pt.slots] at X128 l128 y128 z128 st128 hQ128
    subst l128 y128 z128
    obtain ⟨rfl, N128q, e128⟩ := hQ128
    have N128 := Fr.app N127 N128q
    refine own_go (fun _ ww => Steps.trans st128 ww) ?_
    show own_Goes _ _ _ _ _ _ _ (T128.setTop (mkF m 74 #[.val (.int x0), .val (.int (1 : Int32)), .val (.ref eDENY), .val (.ref u12), .val (.ref u12)] [(.ref eDENY)]))
    refine own_go (fun _ ww => XS.aloadN X128.here hx rfl (hb hby at_74) rfl rfl ww) ?_
    show own_Goes _ _ _ _ _ _ _ (T128.setTop (mkF m 75 #[.val (.int x0), .val (.int (1 : Int32)), .val (.ref eDENY), .val (.ref u12), .val (.ref u12)] [(.ref eDENY), (.ref eDENY)]))
    refine own_go (fun _ ww => XT.acmpNo X128.here hx rfl (hb hby at_75) rfl rfl rfl (own_aeq (rfl : eDENY = eDENY)).2 ww) ?_
    show own_Goes _ _ _ _ _ _ _ (T128.setTop (mkF m 78 #[.val (.int x0), .val (.int (1 : Int32)), .val (.ref eDENY), .val (.ref u12), .val (.ref u12)] []))
    refine own_go (fun _ ww => XS.iconst X128.here hx rfl (hb hby at_78) ww) ?_
    show own_Goes _ _ _ _ _ _ _ (T128.setTop (mkF m 79 #[.val (.int x0), .val (.int (1 : Int32)), .val (.ref eDENY), .val (.ref u12), .val (.ref u12)] [(.int (1 : Int32))]))
    refine own_go (fun _ ww => XS.goto X128.here hx rfl (pc0 := 79) (pc' := 83) rfl (hb hby at_79) (by decide) (by decide) ww) ?_
    show own_Goes _ _ _ _ _ _ _ (T128.setTop (mkF m 83 #[.val (.int x0), .val (.int (1 : Int32)), .val (.ref eDENY), .val (.ref u12), .val (.ref u12)] [(.int (1 : Int32))]))
    exact own_out X128 hlk (v := some (.int (1 : Int32))) (fun h => by rw [hret] at h; cases h) (fun fs hr => retOut X128 hx (t := .boolean) hret (by decide) (Or.inl ⟨rfl, by simp, _, rfl⟩) (hb hby at_83) hr) e128 ⟨rfl, N128⟩ (by decide) (by decide)
  ·
    rw [hk]
    show own_Goes _ _ _ _ _ _ _ (s₁.setTop (mkF m 6 #[.val (.int x0), .unset, .unset, .unset, .unset] [(.int (2 : Int32))]))
    refine own_go (fun _ ww => XS.istoreN X0.here hx rfl (hb hby at_6) rfl (l' := #[.val (.int x0), .val (.int (2 : Int32)), .unset, .unset, .unset]) rfl ww) ?_
    show own_Goes _ _ _ _ _ _ _ (s₁.setTop (mkF m 7 #[.val (.int x0), .val (.int (2 : Int32)), .unset, .unset, .unset] []))
    refine own_go (fun _ ww => XS.iloadN X0.here hx rfl (hb hby at_7) rfl  ww) ?_
    show own_Goes _ _ _ _ _ _ _ (s₁.setTop (mkF m 8 #[.val (.int x0), .val (.int (2 : Int32)), .unset, .unset, .unset] [(.int (2 : Int32))]))
    refine own_go (fun _ ww => XS.ifYes X0.here hx rfl (pc0 := 8) (pc' := 17) rfl (hb hby at_8) rfl (own_if .ne (feq (by decide : ¬ ((2 : Int32) = (0 : Int32)))).2) (by decide) (by decide) ww) ?_
    show own_Goes _ _ _ _ _ _ _ (s₁.setTop (mkF m 17 #[.val (.int x0), .val (.int (2 : Int32)), .unset, .unset, .unset] []))
    refine own_go (fun _ ww => XS.iloadN X0.here hx rfl (hb hby at_17) rfl  ww) ?_
    show own_Goes _ _ _ _ _ _ _ (s₁.setTop (mkF m 18 #[.val (.int x0), .val (.int (2 : Int32)), .unset, .unset, .unset] [(.int (2 : Int32))]))
    refine own_go (fun _ ww => XS.iconst X0.here hx rfl (hb hby at_18) ww) ?_
    show own_Goes _ _ _ _ _ _ _ (s₁.setTop (mkF m 19 #[.val (.int x0), .val (.int (2 : Int32)), .unset, .unset, .unset] [(.int (1 : Int32)), (.int (2 : Int32))]))
    refine own_go (fun _ ww => XS.icmpYes X0.here hx rfl (pc0 := 19) (pc' := 28) rfl (hb hby at_19) rfl (feq (by decide : ¬ ((2 : Int32) = (1 : Int32)))).2 (by decide) (by decide) ww) ?_
    show own_Goes _ _ _ _ _ _ _ (s₁.setTop (mkF m 28 #[.val (.int x0), .val (.int (2 : Int32)), .unset, .unset, .unset] []))
    obtain ⟨T129, X129, e129, st129⟩ := getS X0 hx hZ hown (host := "") (hw _ (List.mem_of_getElem? (i := 51) rfl)) Via.refl e0 (SFORBID.ext O0.2) (g := (mkF m 28 #[.val (.int x0), .val (.int (2 : Int32)), .unset, .unset, .unset] [])) rfl (hb hby at_28)
    refine own_go st129 ?_
    show own_Goes _ _ _ _ _ _ _ (T129.setTop (mkF m 31 #[.val (.int x0), .val (.int (2 : Int32)), .unset, .unset, .unset] [(.ref eFORBID)]))
    refine own_go (fun _ ww => XS.astoreN X129.here hx rfl (hb hby at_31) rfl rfl (l' := #[.val (.int x0), .val (.int (2 : Int32)), .val (.ref eFORBID), .unset, .unset]) rfl ww) ?_
    show own_Goes _ _ _ _ _ _ _ (T129.setTop (mkF m 32 #[.val (.int x0), .val (.int (2 : Int32)), .val (.ref eFORBID), .unset, .unset] []))
    refine own_go (fun _ ww => XS.iloadN X129.here hx rfl (hb hby at_32) rfl  ww) ?_
    show own_Goes _ _ _ _ _ _ _ (T129.setTop (mkF m 33 #[.val (.int x0), .val (.int (2 : Int32)), .val (.ref eFORBID), .unset, .unset] [(.int (2 : Int32))]))
    refine own_go (fun _ ww => XS.ifYes X129.here hx rfl (pc0 := 33) (pc' := 42) rfl (hb hby at_33) rfl (own_if .ne (feq (by decide : ¬ ((2 : Int32) = (0 : Int32)))).2) (by decide) (by decide) ww) ?_
    show own_Goes _ _ _ _ _ _ _ (T129.setTop (mkF m 42 #[.val (.int x0), .val (.int (2 : Int32)), .val (.ref eFORBID), .unset, .unset] []))
    refine own_go (fun _ ww => XS.iloadN X129.here hx rfl (hb hby at_42) rfl  ww) ?_
    show own_Goes _ _ _ _ _ _ _ (T129.setTop (mkF m 43 #[.val (.int x0), .val (.int (2 : Int32)), .val (.ref eFORBID), .unset, .unset] [(.int (2 : Int32))]))
    refine own_go (fun _ ww => XS.iconst X129.here hx rfl (hb hby at_43) ww) ?_
    show own_Goes _ _ _ _ _ _ _ (T129.setTop (mkF m 44 #[.val (.int x0), .val (.int (2 : Int32)), .val (.ref eFORBID), .unset, .unset] [(.int (1 : Int32)), (.int (2 : Int32))]))
    refine own_go (fun _ ww => XS.icmpYes X129.here hx rfl (pc0 := 44) (pc' := 53) rfl (hb hby at_44) rfl (feq (by decide : ¬ ((2 : Int32) = (1 : Int32)))).2 (by decide) (by decide) ww) ?_
    show own_Goes _ _ _ _ _ _ _ (T129.setTop (mkF m 53 #[.val (.int x0), .val (.int (2 : Int32)), .val (.ref eFORBID), .unset, .unset] []))
    obtain ⟨T130, X130, e130, st130⟩ := getS X129 hx hZ hown (host := "") (hw _ (List.mem_of_getElem? (i := 52) rfl)) Via.refl e129 (TFORBID.ext O0.2) (g := (mkF m 53 #[.val (.int x0), .val (.int (2 : Int32)), .val (.ref eFORBID), .unset, .unset] [])) rfl (hb hby at_53)
    refine own_go st130 ?_
    show own_Goes _ _ _ _ _ _ _ (T130.setTop (mkF m 56 #[.val (.int x0), .val (.int (2 : Int32)), .val (.ref eFORBID), .unset, .unset] [(.ref u13)]))
    refine own_go (fun _ ww => XS.astoreN X130.here hx rfl (hb hby at_56) rfl rfl (l' := #[.val (.int x0), .val (.int (2 : Int32)), .val (.ref eFORBID), .val (.ref u13), .unset]) rfl ww) ?_
    show own_Goes _ _ _ _ _ _ _ (T130.setTop (mkF m 57 #[.val (.int x0), .val (.int (2 : Int32)), .val (.ref eFORBID), .val (.ref u13), .unset] []))
    refine own_go (fun _ ww => XS.aloadN X130.here hx rfl (hb hby at_57) rfl rfl ww) ?_
    show own_Goes _ _ _ _ _ _ _ (T130.setTop (mkF m 58 #[.val (.int x0), .val (.int (2 : Int32)), .val (.ref eFORBID), .val (.ref u13), .unset] [(.ref eFORBID)]))
    obtain ⟨_, _, ⟨T131, L131, k131, n131⟩, -, X131, ⟨Lc131, hQ131, l131, y131, z131⟩, st131⟩ := Jvm.LawKit.callS X130 hx (y := (⟨"com/example/role_rights/rolerights/policy/Statement", "stating", "(Lcom/example/role_rights/rolerights/policy/Effect;)Lcom/example/role_rights/rolerights/policy/Statement;"⟩ : MethodName)) hown (mvT hZ (hw _ (List.mem_of_getElem? (i := 7) rfl))) (mvT hZ (hw _ (List.mem_of_getElem? (i := 8) rfl))) (mvT hZ (hw _ (List.mem_of_getElem? (i := 5) rfl))) (mvT hZ (hw _ (List.mem_of_getElem? (i := 9) rfl))) (by decide) (backOf (W := 0) (rm_statingFORBID l Z a0 hw [] va kk u0 u1 u2 u3 u4 u5 u6 u7 u8 u9 u10 u11 u12 u13 u14 u15 u16 u17 eGRANT eDENY eFORBID h0 n0 O0 SV AV EV F0 F1 F2 F3 F4 F5 F6 F7 F8 F9 F10 F11 F12 F13 F14 F15 F16 F17 n01 n02 n12) hZ (hw _ (List.mem_of_getElem? (i := 9) rfl)) (hw _ (List.mem_of_getElem? (i := 5) rfl)) (by decide) (by decide)) (g := (mkF m 58 #[.val (.int x0), .val (.int (2 : Int32)), .val (.ref eFORBID), .val (.ref u13), .unset] [(.ref eFORBID)])) rfl (by rw [hml]; rfl) (argsL := [(.ref eFORBID)]) (rest := []) (lenOf pd_1 rfl) rfl (by show 2 * 0 + _ ≤ _; exact Nat.le_of_eq rfl) (hb hby at_58) (fun _ _ => ⟨rfl, e130, (by decide : 0 + 1 ≤ _), (by decide : 0 + 18 ≤ _)⟩)
    dsimp only [Pt.U, Pt.locs, Pt.cells, Pt.slots] at X131 l131 y131 z131 st131 hQ131
    subst l131 y131 z131
    obtain ⟨r131, rfl, N131q, K131q⟩ := hQ131
    have N131 := Fr.app N0 N131q
    have O131 := O0.keep K131q all0
    refine own_go st131 ?_
    show own_Goes _ _ _ _ _ _ _ (T131.setTop (mkF m 61 #[.val (.int x0), .val (.int (2 : Int32)), .val (.ref eFORBID), .val (.ref u13), .unset] [(.ref u13)]))
    refine own_go (fun _ ww => XS.astore X131.here hx rfl (hb hby at_61) rfl rfl (l' := #[.val (.int x0), .val (.int (2 : Int32)), .val (.ref eFORBID), .val (.ref u13), .val (.ref u13)]) rfl ww) ?_
    show own_Goes _ _ _ _ _ _ _ (T131.setTop (mkF m 63 #[.val (.int x0), .val (.int (2 : Int32)), .val (.ref eFORBID), .val (.ref u13), .val (.ref u13)] []))
    refine own_go (fun _ ww => XS.aload X131.here hx rfl (hb hby at_63) rfl rfl ww) ?_
    show own_Goes _ _ _ _ _ _ _ (T131.setTop (mkF m 65 #[.val (.int x0), .val (.int (2 : Int32)), .val (.ref eFORBID), .val (.ref u13), .val (.ref u13)] [(.ref u13)]))
    refine own_go (fun _ ww => XS.aloadN X131.here hx rfl (hb hby at_65) rfl rfl ww) ?_
    show own_Goes _ _ _ _ _ _ _ (T131.setTop (mkF m 66 #[.val (.int x0), .val (.int (2 : Int32)), .val (.ref eFORBID), .val (.ref u13), .val (.ref u13)] [(.ref u13), (.ref u13)]))
    refine own_go (fun _ ww => XT.acmpNo X131.here hx rfl (hb hby at_66) rfl rfl rfl (own_aeq (rfl : u13 = u13)).2 ww) ?_
    show own_Goes _ _ _ _ _ _ _ (T131.setTop (mkF m 69 #[.val (.int x0), .val (.int (2 : Int32)), .val (.ref eFORBID), .val (.ref u13), .val (.ref u13)] []))
    refine own_go (fun _ ww => XS.aload X131.here hx rfl (hb hby at_69) rfl rfl ww) ?_
    show own_Goes _ _ _ _ _ _ _ (T131.setTop (mkF m 71 #[.val (.int x0), .val (.int (2 : Int32)), .val (.ref eFORBID), .val (.ref u13), .val (.ref u13)] [(.ref u13)]))
    obtain ⟨cq132, kq132, q132a, q132b, q132c⟩ := isOf hZ rfl (XFORBID.ext O131.2)
    obtain ⟨_, _, ⟨T132, L132, k132, n132⟩, -, X132, ⟨Lc132, hQ132, l132, y132, z132⟩, st132⟩ := X131.virtualBack hx (y := (⟨"com/example/role_rights/rolerights/policy/Statement", "effect", "()Lcom/example/role_rights/rolerights/policy/Effect;"⟩ : MethodName)) (z := (⟨"com/example/role_rights/rolerights/policy/Statement", "effect", "()Lcom/example/role_rights/rolerights/policy/Effect;"⟩ : MethodName)) hown (mvT hZ (hw _ (List.mem_of_getElem? (i := 46) rfl))) (mvT hZ (hw _ (List.mem_of_getElem? (i := 47) rfl))) (notFace_of_selects (args := #[]) (mvT hZ (hw _ (List.mem_of_getElem? (i := 49) rfl)))) (mvT hZ (hw _ (List.mem_of_getElem? (i := 49) rfl))) (mvT hZ (hw _ (List.mem_of_getElem? (i := 48) rfl))) (by decide) (backOf (W := 0) (rm_effectFORBID l Z a0 hw [] u13 eFORBID T131.heap n0 O131 (F13.ext O131.2)) hZ (hw _ (List.mem_of_getElem? (i := 50) rfl)) (hw _ (List.mem_of_getElem? (i := 5) rfl)) (by decide) (by decide)) q132a q132c (g := (mkF m 71 #[.val (.int x0), .val (.int (2 : Int32)), .val (.ref eFORBID), .val (.ref u13), .val (.ref u13)] [(.ref u13)])) rfl (by rw [hml]; rfl) (Steps.refl _) (argsL := []) (rest := []) (lenOf pd_2 rfl) rfl (by show 2 * 0 + _ ≤ _; exact Nat.le_of_eq rfl) (hb hby at_71) (fun _ _ => ⟨rfl, rfl, (by decide : 1 + 0 ≤ _), (by decide : 18 + 0 ≤ _)⟩)
    dsimp only [Pt.U, Pt.locs, Pt.cells, Pt.slots] at X132 l132 y132 z132 st132 hQ132
    subst l132 y132 z132
    obtain ⟨rfl, N132q, e132⟩ := hQ132
    have N132 := Fr.app N131 N132q
    refine own_go (fun _ ww => Steps.trans st132 ww) ?_
    show own_Goes _ _ _ _ _ _ _ (T132.setTop (mkF m 74 #[.val (.int x0), .val (.int (2 : Int32)), .val (.ref eFORBID), .val (.ref u13), .val (.ref u13)] [(.ref eFORBID)]))
    refine own_go (fun _ ww => XS.aloadN X132.here hx rfl (hb hby at_74) rfl rfl ww) ?_
    show own_Goes _ _ _ _ _ _ _ (T132.setTop (mkF m 75 #[.val (.int x0), .val (.int (2 : Int32)), .val (.ref eFORBID), .val (.ref u13), .val (.ref u13)] [(.ref eFORBID), (.ref eFORBID)]))
    refine own_go (fun _ ww => XT.acmpNo X132.here hx rfl (hb hby at_75) rfl rfl rfl (own_aeq (rfl : eFORBID = eFORBID)).2 ww) ?_
    show own_Goes _ _ _ _ _ _ _ (T132.setTop (mkF m 78 #[.val (.int x0), .val (.int (2 : Int32)), .val (.ref eFORBID), .val (.ref u13), .val (.ref u13)] []))
    refine own_go (fun _ ww => XS.iconst X132.here hx rfl (hb hby at_78) ww) ?_
    show own_Goes _ _ _ _ _ _ _ (T132.setTop (mkF m 79 #[.val (.int x0), .val (.int (2 : Int32)), .val (.ref eFORBID), .val (.ref u13), .val (.ref u13)] [(.int (1 : Int32))]))
    refine own_go (fun _ ww => XS.goto X132.here hx rfl (pc0 := 79) (pc' := 83) rfl (hb hby at_79) (by decide) (by decide) ww) ?_
    show own_Goes _ _ _ _ _ _ _ (T132.setTop (mkF m 83 #[.val (.int x0), .val (.int (2 : Int32)), .val (.ref eFORBID), .val (.ref u13), .val (.ref u13)] [(.int (1 : Int32))]))
    exact own_out X132 hlk (v := some (.int (1 : Int32))) (fun h => by rw [hret] at h; cases h) (fun fs hr => retOut X132 hx (t := .boolean) hret (by decide) (Or.inl ⟨rfl, by simp, _, rfl⟩) (hb hby at_83) hr) e132 ⟨rfl, N132⟩ (by decide) (by decide)
theorem own_eqR {args : Array Value} {s : State} {u t : Term} {a : Addr} (ev : t.eval args s none [] s = some (.ref a)) (h : (Jvm.Cond.eq u t).value args s none s [] = some true) : u.eval args s none [] s = some (.ref a) := by
  simp only [Jvm.Cond.value, ev] at h
  cases hf : u.eval args s none [] s with
  | none => simp [hf] at h
  | some v => cases v <;> simp [hf] at h; subst h; rfl
theorem own_len {args : Array Value} {s : State} {t : Term} {a : Addr} {cl : Cell} {k : Int32} (ev : t.eval args s none [] s = some (.ref a)) (hc : s.heap[a]? = some cl) (h : (Term.length t).eval args s none [] s = some (.int k)) : cl.slots.size < 2 ^ 31 ∧ cl.slots.size.toInt32 = k := by
  simp only [Term.eval, Option.bind_eq_bind, ev, Option.bind_some] at h
  obtain ⟨c', ha, h⟩ := Option.bind_eq_some_iff.mp h
  cases hc.symm.trans (State.arrayAt?_spec ha).1
  by_cases hn : cl.slots.size < 2 ^ 31
  · rw [if_pos hn] at h
    exact ⟨hn, Value.int.inj (Option.some.inj h)⟩
  · rw [if_neg hn] at h; cases h
set_option maxRecDepth 65536 in
set_option maxHeartbeats 40000000 in
theorem comes_1 {Post : Tables → Env → Array Value → State → Outcome → State → Prop} (hpost : ∀ tb e args s v u, (limb_1_1.after args s (.returned v) u = true ∧ limb_1_2.after args s (.returned v) u = true ∧ True) → FrameEnd s (.returned v) u (Jvm.fieldLocs frame_1_writes args s ++ Jvm.arrayLocs frame_1_arrays args s ++ Jvm.staticLocs frame_1_statics s) 16 128 → Post tb e args s (.returned v) u) :
    ArmFor flags0 classFile x code maxLocals ret World_1 tables_1 room_1 Calls_1 rest_1 Pre_1 Post := by
  intro l hfl _ _ p e ha hc hk s m args below hf hA hF happ hP
  obtain ⟨hcalls, hrest, hpre⟩ := hP
  obtain ⟨-, -, -, hnamed, -, -, -, hat⟩ := (Spec.applies_iff hf).mp happ
  obtain ⟨hg, hn⟩ := and_e (Cond.before_iff.mp (show (Jvm.Cond.and given_1 narrow_1).before args s = true from hpre))
  obtain ⟨q1, q2⟩ := and_e hg
  obtain ⟨q3, q4⟩ := and_e hn
  obtain ⟨q5, q6⟩ := and_e q4
  obtain ⟨q7, q8⟩ := and_e q6
  obtain ⟨q9, q10⟩ := and_e q8
  obtain ⟨q11, q12⟩ := and_e q10
  obtain ⟨q13, q14⟩ := and_e q12
  obtain ⟨q15, q16⟩ := and_e q14
  obtain ⟨q17, q18⟩ := and_e q16
  obtain ⟨q19, q20⟩ := and_e q18
  obtain ⟨q21, q22⟩ := and_e q20
  obtain ⟨q23, q24⟩ := and_e q22
  obtain ⟨q25, q26⟩ := and_e q24
  obtain ⟨q27, q28⟩ := and_e q26
  obtain ⟨q29, q30⟩ := and_e q28
  obtain ⟨q31, q32⟩ := and_e q30
  obtain ⟨q33, q34⟩ := and_e q32
  obtain ⟨q35, q36⟩ := and_e q34
  obtain ⟨q37, q38⟩ := and_e q36
  obtain ⟨q39, q40⟩ := and_e q38
  obtain ⟨q41, q42⟩ := and_e q40
  obtain ⟨q43, q44⟩ := and_e q42
  obtain ⟨q45, q46⟩ := and_e q44
  obtain ⟨q47, q48⟩ := and_e q46
  obtain ⟨q49, q50⟩ := and_e q48
  obtain ⟨q51, q52⟩ := and_e q50
  obtain ⟨q53, q54⟩ := and_e q52
  obtain ⟨q55, q56⟩ := and_e q54
  obtain ⟨q57, q58⟩ := and_e q56
  obtain ⟨q59, q60⟩ := and_e q58
  obtain ⟨q61, q62⟩ := and_e q60
  obtain ⟨q63, q64⟩ := and_e q62
  obtain ⟨q65, q66⟩ := and_e q64
  obtain ⟨q67, q68⟩ := and_e q66
  obtain ⟨q69, q70⟩ := and_e q68
  obtain ⟨q71, q72⟩ := and_e q70
  obtain ⟨q73, q74⟩ := and_e q72
  obtain ⟨q75, q76⟩ := and_e q74
  obtain ⟨q77, q78⟩ := and_e q76
  obtain ⟨q79, q80⟩ := and_e q78
  obtain ⟨q81, q82⟩ := and_e q80
  obtain ⟨q83, q84⟩ := and_e q82
  obtain ⟨q85, q86⟩ := and_e q84
  obtain ⟨q87, q88⟩ := and_e q86
  obtain ⟨q89, q90⟩ := and_e q88
  obtain ⟨q91, q92⟩ := and_e q90
  obtain ⟨q93, q94⟩ := and_e q92
  obtain ⟨q95, q96⟩ := and_e q94
  obtain ⟨q97, q98⟩ := and_e q96
  obtain ⟨q99, q100⟩ := and_e q98
  obtain ⟨q101, q102⟩ := and_e q100
  obtain ⟨q103, q104⟩ := and_e q102
  obtain ⟨q105, q106⟩ := and_e q104
  obtain ⟨q107, q108⟩ := and_e q106
  obtain ⟨q109, q110⟩ := and_e q108
  obtain ⟨q111, q112⟩ := and_e q110
  obtain ⟨q113, q114⟩ := and_e q112
  obtain ⟨q115, q116⟩ := and_e q114
  obtain ⟨q117, q118⟩ := and_e q116
  obtain ⟨q119, q120⟩ := and_e q118
  obtain ⟨q121, q122⟩ := and_e q120
  obtain ⟨q123, q124⟩ := and_e q122
  obtain ⟨q125, q126⟩ := and_e q124
  obtain ⟨w0, rfl⟩ : ∃ w0 : Value, args = #[w0] := by
    have hs : args.size = 1 := by simpa [Cond.value, given_1] using q1
    obtain ⟨L⟩ := args
    match L, hs with
    | [w0], _ => exact ⟨w0, rfl⟩
  have hw := fun d (hd : d ∈ tables_1) => atoms_spec (ws := Jvm.Cond.code x code maxLocals ret :: tables_1) hat d (List.mem_cons_of_mem _ hd)
  have hfit : Fit s := fun {y c} hc i hi => by
    obtain ⟨ha, rfl⟩ := Array.getElem?_eq_some_iff.mp hc
    have q := List.all_eq_true.mp ((Array.all_eq_true_iff_forall_mem.mp hF) _ (Array.getElem_mem ha)) i (List.mem_range.mpr hi)
    simpa [Array.getElem?_eq_getElem hi] using q
  obtain ⟨i0, ei0⟩ := is_v q2
  obtain rfl : w0 = (.int i0) := Option.some.inj ei0
  obtain ⟨a_Effect_GRANT, ev_Effect_GRANT⟩ := exa_v q3
  have E_Effect_GRANT : Exa s s.heap a_Effect_GRANT "com/example/role_rights/rolerights/policy/Effect" := Exa.start ev_Effect_GRANT q3
  have S_Effect_GRANT : Sta s s.heap "com/example/role_rights/rolerights/policy/Effect" "GRANT" "Lcom/example/role_rights/rolerights/policy/Effect;" (.ref a_Effect_GRANT) := Sta.start ev_Effect_GRANT (Or.inr ⟨(hw _ (List.mem_of_getElem? (i := 2) rfl)), (hw _ (List.mem_of_getElem? (i := 3) rfl))⟩)
  obtain ⟨a_Statement_GRANT, ev_Statement_GRANT⟩ := exa_v q5
  have E_Statement_GRANT : Exa s s.heap a_Statement_GRANT "com/example/role_rights/rolerights/policy/Statement" := Exa.start ev_Statement_GRANT q5
  have S_Statement_GRANT : Sta s s.heap "com/example/role_rights/rolerights/policy/Statement" "GRANT" "Lcom/example/role_rights/rolerights/policy/Statement;" (.ref a_Statement_GRANT) := Sta.start ev_Statement_GRANT (Or.inr ⟨(hw _ (List.mem_of_getElem? (i := 5) rfl)), (hw _ (List.mem_of_getElem? (i := 6) rfl))⟩)
  obtain ⟨a_Statement__VALUES, ev_Statement__VALUES⟩ := exa_v q9
  have E_Statement__VALUES : Exa s s.heap a_Statement__VALUES "[Lcom/example/role_rights/rolerights/policy/Statement;" := Exa.start ev_Statement__VALUES q9
  have S_Statement__VALUES : Sta s s.heap "com/example/role_rights/rolerights/policy/Statement" "$VALUES" "[Lcom/example/role_rights/rolerights/policy/Statement;" (.ref a_Statement__VALUES) := Sta.start ev_Statement__VALUES (Or.inr ⟨(hw _ (List.mem_of_getElem? (i := 5) rfl)), (hw _ (List.mem_of_getElem? (i := 14) rfl))⟩)
  obtain ⟨a_Statement_USER, ev_Statement_USER⟩ := exa_v q13
  have E_Statement_USER : Exa s s.heap a_Statement_USER "com/example/role_rights/rolerights/policy/Statement" := Exa.start ev_Statement_USER q13
  have S_Statement_USER : Sta s s.heap "com/example/role_rights/rolerights/policy/Statement" "USER" "Lcom/example/role_rights/rolerights/policy/Statement;" (.ref a_Statement_USER) := Sta.start ev_Statement_USER (Or.inr ⟨(hw _ (List.mem_of_getElem? (i := 5) rfl)), (hw _ (List.mem_of_getElem? (i := 22) rfl))⟩)
  obtain ⟨a_Statement_GROUP, ev_Statement_GROUP⟩ := exa_v q17
  have E_Statement_GROUP : Exa s s.heap a_Statement_GROUP "com/example/role_rights/rolerights/policy/Statement" := Exa.start ev_Statement_GROUP q17
  have S_Statement_GROUP : Sta s s.heap "com/example/role_rights/rolerights/policy/Statement" "GROUP" "Lcom/example/role_rights/rolerights/policy/Statement;" (.ref a_Statement_GROUP) := Sta.start ev_Statement_GROUP (Or.inr ⟨(hw _ (List.mem_of_getElem? (i := 5) rfl)), (hw _ (List.mem_of_getElem? (i := 23) rfl))⟩)
  obtain ⟨a_Statement_ROLE, ev_Statement_ROLE⟩ := exa_v q21
  have E_Statement_ROLE : Exa s s.heap a_Statement_ROLE "com/example/role_rights/rolerights/policy/Statement" := Exa.start ev_Statement_ROLE q21
  have S_Statement_ROLE : Sta s s.heap "com/example/role_rights/rolerights/policy/Statement" "ROLE" "Lcom/example/role_rights/rolerights/policy/Statement;" (.ref a_Statement_ROLE) := Sta.start ev_Statement_ROLE (Or.inr ⟨(hw _ (List.mem_of_getElem? (i := 5) rfl)), (hw _ (List.mem_of_getElem? (i := 24) rfl))⟩)
  obtain ⟨a_Statement_RIGHT, ev_Statement_RIGHT⟩ := exa_v q25
  have E_Statement_RIGHT : Exa s s.heap a_Statement_RIGHT "com/example/role_rights/rolerights/policy/Statement" := Exa.start ev_Statement_RIGHT q25
  have S_Statement_RIGHT : Sta s s.heap "com/example/role_rights/rolerights/policy/Statement" "RIGHT" "Lcom/example/role_rights/rolerights/policy/Statement;" (.ref a_Statement_RIGHT) := Sta.start ev_Statement_RIGHT (Or.inr ⟨(hw _ (List.mem_of_getElem? (i := 5) rfl)), (hw _ (List.mem_of_getElem? (i := 25) rfl))⟩)
  obtain ⟨a_Statement_RIGHTGROUP, ev_Statement_RIGHTGROUP⟩ := exa_v q29
  have E_Statement_RIGHTGROUP : Exa s s.heap a_Statement_RIGHTGROUP "com/example/role_rights/rolerights/policy/Statement" := Exa.start ev_Statement_RIGHTGROUP q29
  have S_Statement_RIGHTGROUP : Sta s s.heap "com/example/role_rights/rolerights/policy/Statement" "RIGHTGROUP" "Lcom/example/role_rights/rolerights/policy/Statement;" (.ref a_Statement_RIGHTGROUP) := Sta.start ev_Statement_RIGHTGROUP (Or.inr ⟨(hw _ (List.mem_of_getElem? (i := 5) rfl)), (hw _ (List.mem_of_getElem? (i := 26) rfl))⟩)
  obtain ⟨a_Statement_MEMBER, ev_Statement_MEMBER⟩ := exa_v q33
  have E_Statement_MEMBER : Exa s s.heap a_Statement_MEMBER "com/example/role_rights/rolerights/policy/Statement" := Exa.start ev_Statement_MEMBER q33
  have S_Statement_MEMBER : Sta s s.heap "com/example/role_rights/rolerights/policy/Statement" "MEMBER" "Lcom/example/role_rights/rolerights/policy/Statement;" (.ref a_Statement_MEMBER) := Sta.start ev_Statement_MEMBER (Or.inr ⟨(hw _ (List.mem_of_getElem? (i := 5) rfl)), (hw _ (List.mem_of_getElem? (i := 27) rfl))⟩)
  obtain ⟨a_Statement_ASSIGN, ev_Statement_ASSIGN⟩ := exa_v q37
  have E_Statement_ASSIGN : Exa s s.heap a_Statement_ASSIGN "com/example/role_rights/rolerights/policy/Statement" := Exa.start ev_Statement_ASSIGN q37
  have S_Statement_ASSIGN : Sta s s.heap "com/example/role_rights/rolerights/policy/Statement" "ASSIGN" "Lcom/example/role_rights/rolerights/policy/Statement;" (.ref a_Statement_ASSIGN) := Sta.start ev_Statement_ASSIGN (Or.inr ⟨(hw _ (List.mem_of_getElem? (i := 5) rfl)), (hw _ (List.mem_of_getElem? (i := 28) rfl))⟩)
  obtain ⟨a_Statement_INHERIT, ev_Statement_INHERIT⟩ := exa_v q41
  have E_Statement_INHERIT : Exa s s.heap a_Statement_INHERIT "com/example/role_rights/rolerights/policy/Statement" := Exa.start ev_Statement_INHERIT q41
  have S_Statement_INHERIT : Sta s s.heap "com/example/role_rights/rolerights/policy/Statement" "INHERIT" "Lcom/example/role_rights/rolerights/policy/Statement;" (.ref a_Statement_INHERIT) := Sta.start ev_Statement_INHERIT (Or.inr ⟨(hw _ (List.mem_of_getElem? (i := 5) rfl)), (hw _ (List.mem_of_getElem? (i := 29) rfl))⟩)
  obtain ⟨a_Statement_INCLUDES, ev_Statement_INCLUDES⟩ := exa_v q45
  have E_Statement_INCLUDES : Exa s s.heap a_Statement_INCLUDES "com/example/role_rights/rolerights/policy/Statement" := Exa.start ev_Statement_INCLUDES q45
  have S_Statement_INCLUDES : Sta s s.heap "com/example/role_rights/rolerights/policy/Statement" "INCLUDES" "Lcom/example/role_rights/rolerights/policy/Statement;" (.ref a_Statement_INCLUDES) := Sta.start ev_Statement_INCLUDES (Or.inr ⟨(hw _ (List.mem_of_getElem? (i := 5) rfl)), (hw _ (List.mem_of_getElem? (i := 30) rfl))⟩)
  obtain ⟨a_Statement_IMPLIES, ev_Statement_IMPLIES⟩ := exa_v q49
  have E_Statement_IMPLIES : Exa s s.heap a_Statement_IMPLIES "com/example/role_rights/rolerights/policy/Statement" := Exa.start ev_Statement_IMPLIES q49
  have S_Statement_IMPLIES : Sta s s.heap "com/example/role_rights/rolerights/policy/Statement" "IMPLIES" "Lcom/example/role_rights/rolerights/policy/Statement;" (.ref a_Statement_IMPLIES) := Sta.start ev_Statement_IMPLIES (Or.inr ⟨(hw _ (List.mem_of_getElem? (i := 5) rfl)), (hw _ (List.mem_of_getElem? (i := 31) rfl))⟩)
  obtain ⟨a_Statement_CONTAINS, ev_Statement_CONTAINS⟩ := exa_v q53
  have E_Statement_CONTAINS : Exa s s.heap a_Statement_CONTAINS "com/example/role_rights/rolerights/policy/Statement" := Exa.start ev_Statement_CONTAINS q53
  have S_Statement_CONTAINS : Sta s s.heap "com/example/role_rights/rolerights/policy/Statement" "CONTAINS" "Lcom/example/role_rights/rolerights/policy/Statement;" (.ref a_Statement_CONTAINS) := Sta.start ev_Statement_CONTAINS (Or.inr ⟨(hw _ (List.mem_of_getElem? (i := 5) rfl)), (hw _ (List.mem_of_getElem? (i := 32) rfl))⟩)
  obtain ⟨a_Statement_DENY, ev_Statement_DENY⟩ := exa_v q59
  have E_Statement_DENY : Exa s s.heap a_Statement_DENY "com/example/role_rights/rolerights/policy/Statement" := Exa.start ev_Statement_DENY q59
  have S_Statement_DENY : Sta s s.heap "com/example/role_rights/rolerights/policy/Statement" "DENY" "Lcom/example/role_rights/rolerights/policy/Statement;" (.ref a_Statement_DENY) := Sta.start ev_Statement_DENY (Or.inr ⟨(hw _ (List.mem_of_getElem? (i := 5) rfl)), (hw _ (List.mem_of_getElem? (i := 33) rfl))⟩)
  obtain ⟨a_Statement_FORBID, ev_Statement_FORBID⟩ := exa_v q63
  have E_Statement_FORBID : Exa s s.heap a_Statement_FORBID "com/example/role_rights/rolerights/policy/Statement" := Exa.start ev_Statement_FORBID q63
  have S_Statement_FORBID : Sta s s.heap "com/example/role_rights/rolerights/policy/Statement" "FORBID" "Lcom/example/role_rights/rolerights/policy/Statement;" (.ref a_Statement_FORBID) := Sta.start ev_Statement_FORBID (Or.inr ⟨(hw _ (List.mem_of_getElem? (i := 5) rfl)), (hw _ (List.mem_of_getElem? (i := 34) rfl))⟩)
  obtain ⟨a_Statement_EXCLUSIVE, ev_Statement_EXCLUSIVE⟩ := exa_v q67
  have E_Statement_EXCLUSIVE : Exa s s.heap a_Statement_EXCLUSIVE "com/example/role_rights/rolerights/policy/Statement" := Exa.start ev_Statement_EXCLUSIVE q67
  have S_Statement_EXCLUSIVE : Sta s s.heap "com/example/role_rights/rolerights/policy/Statement" "EXCLUSIVE" "Lcom/example/role_rights/rolerights/policy/Statement;" (.ref a_Statement_EXCLUSIVE) := Sta.start ev_Statement_EXCLUSIVE (Or.inr ⟨(hw _ (List.mem_of_getElem? (i := 5) rfl)), (hw _ (List.mem_of_getElem? (i := 35) rfl))⟩)
  obtain ⟨a_Statement_TIMEOUT, ev_Statement_TIMEOUT⟩ := exa_v q71
  have E_Statement_TIMEOUT : Exa s s.heap a_Statement_TIMEOUT "com/example/role_rights/rolerights/policy/Statement" := Exa.start ev_Statement_TIMEOUT q71
  have S_Statement_TIMEOUT : Sta s s.heap "com/example/role_rights/rolerights/policy/Statement" "TIMEOUT" "Lcom/example/role_rights/rolerights/policy/Statement;" (.ref a_Statement_TIMEOUT) := Sta.start ev_Statement_TIMEOUT (Or.inr ⟨(hw _ (List.mem_of_getElem? (i := 5) rfl)), (hw _ (List.mem_of_getElem? (i := 36) rfl))⟩)
  obtain ⟨a_Statement_MAXACTIVE, ev_Statement_MAXACTIVE⟩ := exa_v q75
  have E_Statement_MAXACTIVE : Exa s s.heap a_Statement_MAXACTIVE "com/example/role_rights/rolerights/policy/Statement" := Exa.start ev_Statement_MAXACTIVE q75
  have S_Statement_MAXACTIVE : Sta s s.heap "com/example/role_rights/rolerights/policy/Statement" "MAXACTIVE" "Lcom/example/role_rights/rolerights/policy/Statement;" (.ref a_Statement_MAXACTIVE) := Sta.start ev_Statement_MAXACTIVE (Or.inr ⟨(hw _ (List.mem_of_getElem? (i := 5) rfl)), (hw _ (List.mem_of_getElem? (i := 37) rfl))⟩)
  obtain ⟨a_Statement_ACTIVATIONS, ev_Statement_ACTIVATIONS⟩ := exa_v q79
  have E_Statement_ACTIVATIONS : Exa s s.heap a_Statement_ACTIVATIONS "com/example/role_rights/rolerights/policy/Statement" := Exa.start ev_Statement_ACTIVATIONS q79
  have S_Statement_ACTIVATIONS : Sta s s.heap "com/example/role_rights/rolerights/policy/Statement" "ACTIVATIONS" "Lcom/example/role_rights/rolerights/policy/Statement;" (.ref a_Statement_ACTIVATIONS) := Sta.start ev_Statement_ACTIVATIONS (Or.inr ⟨(hw _ (List.mem_of_getElem? (i := 5) rfl)), (hw _ (List.mem_of_getElem? (i := 38) rfl))⟩)
  obtain ⟨a_Effect_DENY, ev_Effect_DENY⟩ := exa_v q107
  have E_Effect_DENY : Exa s s.heap a_Effect_DENY "com/example/role_rights/rolerights/policy/Effect" := Exa.start ev_Effect_DENY q107
  have S_Effect_DENY : Sta s s.heap "com/example/role_rights/rolerights/policy/Effect" "DENY" "Lcom/example/role_rights/rolerights/policy/Effect;" (.ref a_Effect_DENY) := Sta.start ev_Effect_DENY (Or.inr ⟨(hw _ (List.mem_of_getElem? (i := 2) rfl)), (hw _ (List.mem_of_getElem? (i := 44) rfl))⟩)
  obtain ⟨a_Effect_FORBID, ev_Effect_FORBID⟩ := exa_v q115
  have E_Effect_FORBID : Exa s s.heap a_Effect_FORBID "com/example/role_rights/rolerights/policy/Effect" := Exa.start ev_Effect_FORBID q115
  have S_Effect_FORBID : Sta s s.heap "com/example/role_rights/rolerights/policy/Effect" "FORBID" "Lcom/example/role_rights/rolerights/policy/Effect;" (.ref a_Effect_FORBID) := Sta.start ev_Effect_FORBID (Or.inr ⟨(hw _ (List.mem_of_getElem? (i := 2) rfl)), (hw _ (List.mem_of_getElem? (i := 45) rfl))⟩)
  have F_Statement_USER_effect := own_fN ev_Statement_USER q83
  have F_Statement_GROUP_effect := own_fN ev_Statement_GROUP q85
  have F_Statement_ROLE_effect := own_fN ev_Statement_ROLE q87
  have F_Statement_RIGHT_effect := own_fN ev_Statement_RIGHT q89
  have F_Statement_RIGHTGROUP_effect := own_fN ev_Statement_RIGHTGROUP q91
  have F_Statement_MEMBER_effect := own_fN ev_Statement_MEMBER q93
  have F_Statement_ASSIGN_effect := own_fN ev_Statement_ASSIGN q95
  have F_Statement_INHERIT_effect := own_fN ev_Statement_INHERIT q97
  have F_Statement_INCLUDES_effect := own_fN ev_Statement_INCLUDES q99
  have F_Statement_IMPLIES_effect := own_fN ev_Statement_IMPLIES q101
  have F_Statement_CONTAINS_effect := own_fN ev_Statement_CONTAINS q103
  have F_Effect_DENY_ordinal := own_fI ev_Effect_DENY q111
  have F_Effect_GRANT_ordinal := own_fI ev_Effect_GRANT q113
  have F_Effect_FORBID_ordinal := own_fI ev_Effect_FORBID q119
  have F_Statement_EXCLUSIVE_effect := own_fN ev_Statement_EXCLUSIVE q121
  have F_Statement_TIMEOUT_effect := own_fN ev_Statement_TIMEOUT q123
  have F_Statement_MAXACTIVE_effect := own_fN ev_Statement_MAXACTIVE q125
  have F_Statement_ACTIVATIONS_effect := own_fN ev_Statement_ACTIVATIONS q126
  obtain ⟨cl, Ar⟩ := Arr.start ev_Statement__VALUES q7
  have hlen := own_len ev_Statement__VALUES Ar.1 (own_eqI q11)
  have el0 := (elem_in (own_eqR ev_Statement_USER q15) ev_Statement__VALUES (Term.int_eval (0)) Ar.1).2
  have el1 := (elem_in (own_eqR ev_Statement_GROUP q19) ev_Statement__VALUES (Term.int_eval (1)) Ar.1).2
  have el2 := (elem_in (own_eqR ev_Statement_ROLE q23) ev_Statement__VALUES (Term.int_eval (2)) Ar.1).2
  have el3 := (elem_in (own_eqR ev_Statement_RIGHT q27) ev_Statement__VALUES (Term.int_eval (3)) Ar.1).2
  have el4 := (elem_in (own_eqR ev_Statement_RIGHTGROUP q31) ev_Statement__VALUES (Term.int_eval (4)) Ar.1).2
  have el5 := (elem_in (own_eqR ev_Statement_MEMBER q35) ev_Statement__VALUES (Term.int_eval (5)) Ar.1).2
  have el6 := (elem_in (own_eqR ev_Statement_ASSIGN q39) ev_Statement__VALUES (Term.int_eval (6)) Ar.1).2
  have el7 := (elem_in (own_eqR ev_Statement_INHERIT q43) ev_Statement__VALUES (Term.int_eval (7)) Ar.1).2
  have el8 := (elem_in (own_eqR ev_Statement_INCLUDES q47) ev_Statement__VALUES (Term.int_eval (8)) Ar.1).2
  have el9 := (elem_in (own_eqR ev_Statement_IMPLIES q51) ev_Statement__VALUES (Term.int_eval (9)) Ar.1).2
  have el10 := (elem_in (own_eqR ev_Statement_CONTAINS q55) ev_Statement__VALUES (Term.int_eval (10)) Ar.1).2
  have el11 := (elem_in (own_eqR ev_Statement_GRANT q57) ev_Statement__VALUES (Term.int_eval (11)) Ar.1).2
  have el12 := (elem_in (own_eqR ev_Statement_DENY q61) ev_Statement__VALUES (Term.int_eval (12)) Ar.1).2
  have el13 := (elem_in (own_eqR ev_Statement_FORBID q65) ev_Statement__VALUES (Term.int_eval (13)) Ar.1).2
  have el14 := (elem_in (own_eqR ev_Statement_EXCLUSIVE q69) ev_Statement__VALUES (Term.int_eval (14)) Ar.1).2
  have el15 := (elem_in (own_eqR ev_Statement_TIMEOUT q73) ev_Statement__VALUES (Term.int_eval (15)) Ar.1).2
  have el16 := (elem_in (own_eqR ev_Statement_MAXACTIVE q77) ev_Statement__VALUES (Term.int_eval (16)) Ar.1).2
  have el17 := (elem_in (own_eqR ev_Statement_ACTIVATIONS q81) ev_Statement__VALUES (Term.int_eval (17)) Ar.1).2
  have AV : Arv s s.heap a_Statement__VALUES cl.cls (.object "com/example/role_rights/rolerights/policy/Statement") (18 : Int32) [(.ref a_Statement_USER), (.ref a_Statement_GROUP), (.ref a_Statement_ROLE), (.ref a_Statement_RIGHT), (.ref a_Statement_RIGHTGROUP), (.ref a_Statement_MEMBER), (.ref a_Statement_ASSIGN), (.ref a_Statement_INHERIT), (.ref a_Statement_INCLUDES), (.ref a_Statement_IMPLIES), (.ref a_Statement_CONTAINS), (.ref a_Statement_GRANT), (.ref a_Statement_DENY), (.ref a_Statement_FORBID), (.ref a_Statement_EXCLUSIVE), (.ref a_Statement_TIMEOUT), (.ref a_Statement_MAXACTIVE), (.ref a_Statement_ACTIVATIONS)] .null := Arv.start hfit Ar hlen.1 hlen.2 (by decide) rfl ⟨el0, el1, el2, el3, el4, el5, el6, el7, el8, el9, el10, el11, el12, el13, el14, el15, el16, el17, trivial⟩
  have F_Statement_GRANT_effect := Fld.start ((fld_at ev_Statement_GRANT).symm.trans (own_eqR ev_Effect_GRANT q105))
  have F_Statement_DENY_effect := Fld.start ((fld_at ev_Statement_DENY).symm.trans (own_eqR ev_Effect_DENY q109))
  have F_Statement_FORBID_effect := Fld.start ((fld_at ev_Statement_FORBID).symm.trans (own_eqR ev_Effect_FORBID q117))
  obtain ⟨n, o, h1, h2, h3, _, L, rfl, ⟨rfl, N⟩, hq⟩ := rm_law l s _ hw tables_1 i0 a_Statement__VALUES cl.cls a_Statement_USER a_Statement_GROUP a_Statement_ROLE a_Statement_RIGHT a_Statement_RIGHTGROUP a_Statement_MEMBER a_Statement_ASSIGN a_Statement_INHERIT a_Statement_INCLUDES a_Statement_IMPLIES a_Statement_CONTAINS a_Statement_GRANT a_Statement_DENY a_Statement_FORBID a_Statement_EXCLUSIVE a_Statement_TIMEOUT a_Statement_MAXACTIVE a_Statement_ACTIVATIONS a_Effect_GRANT a_Effect_DENY a_Effect_FORBID s.heap s.heap.size (Old.start s) S_Statement__VALUES AV E_Statement__VALUES F_Statement_USER_effect F_Statement_GROUP_effect F_Statement_ROLE_effect F_Statement_RIGHT_effect F_Statement_RIGHTGROUP_effect F_Statement_MEMBER_effect F_Statement_ASSIGN_effect F_Statement_INHERIT_effect F_Statement_INCLUDES_effect F_Statement_IMPLIES_effect F_Statement_CONTAINS_effect F_Statement_GRANT_effect F_Statement_DENY_effect F_Statement_FORBID_effect F_Statement_EXCLUSIVE_effect F_Statement_TIMEOUT_effect F_Statement_MAXACTIVE_effect F_Statement_ACTIVATIONS_effect (Fld.ne F_Effect_GRANT_ordinal F_Effect_DENY_ordinal (own_vne (by decide))) (Fld.ne F_Effect_GRANT_ordinal F_Effect_FORBID_ordinal (own_vne (by decide))) (Fld.ne F_Effect_DENY_ordinal F_Effect_FORBID_ordinal (own_vne (by decide))) S_Effect_GRANT S_Effect_DENY S_Effect_FORBID S_Statement_GRANT S_Statement_DENY S_Statement_FORBID E_Statement_GRANT E_Statement_DENY E_Statement_FORBID p e ha hc hk s m _ below hf ((Spec.applies_iff_loose hf).mp happ).1 ⟨rfl, State.Warmed39.refl s, rfl⟩ trivial
  refine ⟨n, _, h1, h2, h3, hpost _ _ _ _ _ _ ⟨Cond.after_iff.mpr rfl, Cond.after_iff.mpr (eq_i res_at (Term.int_eval (1)) rfl), trivial⟩ ⟨hq.1, hq.2.1, (hq.2.2.sift fun y hy => Or.inr (N y hy)).mono (by decide) (by decide)⟩⟩
theorem main_1_1 : Claimed_1_1 := comes_1 fun _ _ _ _ _ _ h hF => ⟨h.1, hF⟩
theorem main_1_2 : Claimed_1_2 := comes_1 fun _ _ _ _ _ _ h hF => ⟨h.2.1, hF⟩
end Jvm.Pilot.@@N@@
namespace Jvm.Pilot.@@N@@
open Jvm Jvm.ClassFile Sem Op Lib Jvm.Free Jvm.Stand Jvm.Pilot.@@N@@.Jvm.D
/-! MADE BY PROGRAM (witnessworld.py) out of the Statement's table words and the real class files: 14 classes; the members and pool entries that the words name. The judged class is class 1, her method 1. -/
namespace start1
open Jvm.ClassFile
def u (s : String) : CpInfo := .utf8 (stringToUtf16 s)
/-- a pool by its gaps: so many unusable entries, then the entry; so many at the end -/
def gap : Nat → List CpInfo → List CpInfo
  | 0, r => r
  | n + 1, r => .unusable :: gap n r
def poolList (es : List (Nat × CpInfo)) (last : Nat) : List CpInfo := es.foldr (fun e r => gap e.1 (e.2 :: r)) (gap last [])
def pool (es : List (Nat × CpInfo)) (last : Nat) : Array CpInfo := ⟨poolList es last⟩
def fileOf (pool : Array CpInfo) (this : Nat) (attrs : Array Attribute := #[]) (ms : Array MethodInfo := #[]) (fl : Nat := 33) (sup : Nat := 0) (ifs : Array Nat := #[]) (fds : Array FieldInfo := #[]) : ClassFile where
  minorVersion := 0
  majorVersion := 65
  constantPool := pool
  accessFlags := fl
  thisClass := this
  superClass := sup
  interfaces := ifs
  fields := fds
  methods := ms
  attributes := attrs
def plain (name : String) (sup : Option ClassId) : Class where
  name := name
  kind := .ordinary
  loader := none
  accessFlags := 33
  super := sup
  interfaces := #[]
  cf := none
  fields := #[]
  methods := #[]
  instanceTypes := #[]
  staticTypes := #[]
  resolved := #[]
  callSites := []
  init := .initialized
  statics := none
  mirror := none

def pool0 : Array CpInfo := pool [(5, u "<init>"), (0, u "()V"), (1, .class_ 10), (1, u "java/lang/Object"), (85, u "clone"), (0, u "()Ljava/lang/Object;")] 26

def k0m0 : Method := { name := "<init>", desc := "()V", sig := { parameters := [], returnType := none }, accessFlags := 1, code := none }
def k0m1 : Method := { name := "clone", desc := "()Ljava/lang/Object;", sig := { parameters := [], returnType := some (.object "java/lang/Object") }, accessFlags := 260, code := none }
/-- java/lang/Object -/
def k0 : Class := { plain "java/lang/Object" none with
  accessFlags := 33
  interfaces := #[]
  cf := some (fileOf pool0 8 #[] #[{ accessFlags := 1, nameIndex := 5, descriptorIndex := 6, attributes := #[] }, { accessFlags := 260, nameIndex := 96, descriptorIndex := 97, attributes := #[] }] 33 0 #[] #[])
  fields := #[]
  methods := #[k0m0, k0m1]
  instanceTypes := #[]
  staticTypes := #[]
  resolved := Array.replicate 124 none
  statics := none }

def pool1 : Array CpInfo := pool [(2, .class_ 4), (1, u "java/lang/Object"), (0, u "<init>"), (0, u "()V"), (0, .integer 2147483647), (0, .fieldref 9 10), (0, .class_ 11), (0, .nameAndType 12 13), (0, u "com/example/role_rights/rolerights/policy/Effect"), (0, u "GRANT"), (0, u "Lcom/example/role_rights/rolerights/policy/Effect;"), (0, .fieldref 9 15), (0, .nameAndType 16 13), (0, u "DENY"), (0, .fieldref 9 18), (0, .nameAndType 19 13), (0, u "FORBID"), (0, .fieldref 21 22), (0, .class_ 23), (0, .nameAndType 12 24), (0, u "com/example/role_rights/rolerights/policy/Statement"), (0, u "Lcom/example/role_rights/rolerights/policy/Statement;"), (0, .fieldref 21 26), (0, .nameAndType 16 24), (0, .fieldref 21 28), (0, .nameAndType 19 24), (0, .methodref 21 30), (0, .nameAndType 31 32), (0, u "stating"), (0, u "(Lcom/example/role_rights/rolerights/policy/Effect;)Lcom/example/role_rights/rolerights/policy/Statement;"), (0, .methodref 21 34), (0, .nameAndType 35 36), (0, u "effect"), (0, u "()Lcom/example/role_rights/rolerights/policy/Effect;"), (0, .class_ 38), (0, u "com/example/role_rights/rolerights/policy/StatementStatingPinLaw"), (2, u "law"), (0, u "(I)Z")] 3

def k1m0 : Method := { name := "<init>", desc := "()V", sig := { parameters := [], returnType := none }, accessFlags := 1, code := none }
def k1c1 : Code := { maxStack := 2, maxLocals := 5, code := code, exceptionTable := #[], attributes := #[] }
def k1m1 : Method := { name := "law", desc := "(I)Z", sig := { parameters := [.int], returnType := some .boolean }, accessFlags := 9, code := some k1c1 }
/-- com/example/role_rights/rolerights/policy/StatementStatingPinLaw -/
def k1 : Class := { plain "com/example/role_rights/rolerights/policy/StatementStatingPinLaw" (some 0) with
  accessFlags := 49
  interfaces := #[]
  cf := some (fileOf pool1 37 #[] #[{ accessFlags := 1, nameIndex := 5, descriptorIndex := 6, attributes := #[] }, { accessFlags := 9, nameIndex := 41, descriptorIndex := 42, attributes := #[] }] 49 2 #[] #[])
  fields := #[]
  methods := #[k1m0, k1m1]
  instanceTypes := #[]
  staticTypes := #[]
  resolved := Array.replicate 46 none
  statics := none }

def pool2 : Array CpInfo := pool [(1, .class_ 2), (0, u "java/lang/constant/Constable"), (0, .class_ 4), (0, u "java/lang/Object")] 6

/-- java/lang/constant/Constable -/
def k2 : Class := { plain "java/lang/constant/Constable" (some 0) with
  accessFlags := 1537
  interfaces := #[]
  cf := some (fileOf pool2 1 #[] #[] 1537 3 #[] #[])
  fields := #[]
  methods := #[]
  instanceTypes := #[]
  staticTypes := #[]
  resolved := Array.replicate 11 none
  statics := none }

def pool3 : Array CpInfo := pool [(1, .class_ 2), (0, u "java/lang/Comparable"), (0, .class_ 4), (0, u "java/lang/Object")] 7

/-- java/lang/Comparable -/
def k3 : Class := { plain "java/lang/Comparable" (some 0) with
  accessFlags := 1537
  interfaces := #[]
  cf := some (fileOf pool3 1 #[] #[] 1537 3 #[] #[])
  fields := #[]
  methods := #[]
  instanceTypes := #[]
  staticTypes := #[]
  resolved := Array.replicate 12 none
  statics := none }

def pool4 : Array CpInfo := pool [(1, .class_ 2), (0, u "java/io/Serializable"), (0, .class_ 4), (0, u "java/lang/Object")] 2

/-- java/io/Serializable -/
def k4 : Class := { plain "java/io/Serializable" (some 0) with
  accessFlags := 1537
  interfaces := #[]
  cf := some (fileOf pool4 1 #[] #[] 1537 3 #[] #[])
  fields := #[]
  methods := #[]
  instanceTypes := #[]
  staticTypes := #[]
  resolved := Array.replicate 7 none
  statics := none }

def pool5 : Array CpInfo := pool [(2, .class_ 4), (1, u "java/lang/Enum"), (0, u "name"), (0, u "Ljava/lang/String;"), (2, u "ordinal"), (0, u "I"), (1, .class_ 14), (1, u "java/lang/Object"), (4, u "hash"), (86, .class_ 108), (1, u "java/lang/Enum$EnumDesc"), (2, .class_ 112), (0, u "java/lang/constant/Constable"), (0, .class_ 114), (0, u "java/lang/Comparable"), (0, .class_ 116), (0, u "java/io/Serializable")] 87

/-- java/lang/Enum -/
def k5 : Class := { plain "java/lang/Enum" (some 0) with
  accessFlags := 1057
  interfaces := #[2, 3, 4]
  cf := some (fileOf pool5 2 #[.nestMembers #[106]] #[] 1057 12 #[111, 113, 115] #[{ accessFlags := 18, nameIndex := 5, descriptorIndex := 6, attributes := #[] }, { accessFlags := 18, nameIndex := 9, descriptorIndex := 10, attributes := #[] }, { accessFlags := 2, nameIndex := 19, descriptorIndex := 10, attributes := #[] }])
  fields := #[{ name := "name", type := (.object "java/lang/String"), accessFlags := 18, slot := 0, constantValue := 0 }, { name := "ordinal", type := .int, accessFlags := 18, slot := 1, constantValue := 0 }, { name := "hash", type := .int, accessFlags := 2, slot := 2, constantValue := 0 }]
  methods := #[]
  instanceTypes := #[(.object "java/lang/String"), .int, .int]
  staticTypes := #[]
  resolved := Array.replicate 204 none
  statics := none }

def pool6 : Array CpInfo := pool [(1, .class_ 2), (0, u "com/example/role_rights/rolerights/policy/Effect"), (2, u "GRANT"), (0, u "Lcom/example/role_rights/rolerights/policy/Effect;"), (2, u "DENY"), (2, u "FORBID"), (2, u "$VALUES"), (0, u "[Lcom/example/role_rights/rolerights/policy/Effect;"), (6, .class_ 25), (1, u "java/lang/Enum"), (8, u "word"), (0, u "Ljava/lang/String;")] 39

/-- com/example/role_rights/rolerights/policy/Effect -/
def k6 : Class := { plain "com/example/role_rights/rolerights/policy/Effect" (some 5) with
  accessFlags := 16433
  interfaces := #[]
  cf := some (fileOf pool6 1 #[] #[] 16433 23 #[] #[{ accessFlags := 16409, nameIndex := 5, descriptorIndex := 6, attributes := #[] }, { accessFlags := 16409, nameIndex := 9, descriptorIndex := 6, attributes := #[] }, { accessFlags := 16409, nameIndex := 12, descriptorIndex := 6, attributes := #[] }, { accessFlags := 18, nameIndex := 34, descriptorIndex := 35, attributes := #[] }, { accessFlags := 4122, nameIndex := 15, descriptorIndex := 16, attributes := #[] }])
  fields := #[{ name := "GRANT", type := (.object "com/example/role_rights/rolerights/policy/Effect"), accessFlags := 16409, slot := 0, constantValue := 0 }, { name := "DENY", type := (.object "com/example/role_rights/rolerights/policy/Effect"), accessFlags := 16409, slot := 1, constantValue := 0 }, { name := "FORBID", type := (.object "com/example/role_rights/rolerights/policy/Effect"), accessFlags := 16409, slot := 2, constantValue := 0 }, { name := "word", type := (.object "java/lang/String"), accessFlags := 18, slot := 3, constantValue := 0 }, { name := "$VALUES", type := (.array (.object "com/example/role_rights/rolerights/policy/Effect")), accessFlags := 4122, slot := 3, constantValue := 0 }]
  methods := #[]
  instanceTypes := #[(.object "java/lang/String"), .int, .int, (.object "java/lang/String")]
  staticTypes := #[(.object "com/example/role_rights/rolerights/policy/Effect"), (.object "com/example/role_rights/rolerights/policy/Effect"), (.object "com/example/role_rights/rolerights/policy/Effect"), (.array (.object "com/example/role_rights/rolerights/policy/Effect"))]
  resolved := Array.replicate 75 none
  statics := some 0 }

def pool7 : Array CpInfo := pool [(1, .class_ 2), (0, u "com/example/role_rights/rolerights/policy/Statement"), (2, u "USER"), (0, u "Lcom/example/role_rights/rolerights/policy/Statement;"), (2, u "GROUP"), (2, u "ROLE"), (2, u "RIGHT"), (2, u "RIGHTGROUP"), (2, u "MEMBER"), (2, u "ASSIGN"), (2, u "INHERIT"), (2, u "INCLUDES"), (2, u "IMPLIES"), (2, u "CONTAINS"), (2, u "GRANT"), (2, u "DENY"), (2, u "FORBID"), (2, u "EXCLUSIVE"), (2, u "TIMEOUT"), (2, u "MAXACTIVE"), (2, u "ACTIVATIONS"), (0, .fieldref 1 59), (0, .nameAndType 60 61), (0, u "$VALUES"), (0, u "[Lcom/example/role_rights/rolerights/policy/Statement;"), (0, .methodref 63 64), (0, .class_ 61), (0, .nameAndType 65 66), (0, u "clone"), (0, u "()Ljava/lang/Object;"), (1, .class_ 70), (1, u "java/lang/Enum"), (8, .class_ 80), (0, u "com/example/role_rights/rolerights/policy/Statement$Slot"), (29, u "nameSlots"), (0, u "Ljava/util/List;"), (2, u "keyword"), (0, u "Ljava/lang/String;"), (2, u "declares"), (0, u "Lcom/example/role_rights/rolerights/policy/Kind;"), (0, .fieldref 1 121), (0, .nameAndType 122 123), (0, u "effect"), (0, u "Lcom/example/role_rights/rolerights/policy/Effect;"), (2, u "hierarchy"), (0, u "Lcom/example/role_rights/rolerights/policy/Hierarchy;"), (8, u "slots"), (2, u "repeatsLast"), (0, u "Z"), (10, u "BY_KEYWORD"), (0, u "Ljava/util/Map;"), (6, .methodref 1 160), (0, .nameAndType 161 162), (0, u "values"), (0, u "()[Lcom/example/role_rights/rolerights/policy/Statement;"), (204, u "stating"), (0, u "(Lcom/example/role_rights/rolerights/policy/Effect;)Lcom/example/role_rights/rolerights/policy/Statement;"), (2, u "()Lcom/example/role_rights/rolerights/policy/Effect;")] 40

def k7c0 : Code := { maxStack := 1, maxLocals := 0, code := prog_50_method_1_code, exceptionTable := #[], attributes := #[] }
def k7m0 : Method := { name := "values", desc := "()[Lcom/example/role_rights/rolerights/policy/Statement;", sig := { parameters := [], returnType := some (.array (.object "com/example/role_rights/rolerights/policy/Statement")) }, accessFlags := 9, code := some k7c0 }
def k7c1 : Code := { maxStack := 2, maxLocals := 6, code := prog_50_method_9_code, exceptionTable := #[], attributes := #[] }
def k7m1 : Method := { name := "stating", desc := "(Lcom/example/role_rights/rolerights/policy/Effect;)Lcom/example/role_rights/rolerights/policy/Statement;", sig := { parameters := [(.object "com/example/role_rights/rolerights/policy/Effect")], returnType := some (.object "com/example/role_rights/rolerights/policy/Statement") }, accessFlags := 8, code := some k7c1 }
def k7c2 : Code := { maxStack := 1, maxLocals := 1, code := prog_50_method_13_code, exceptionTable := #[], attributes := #[] }
def k7m2 : Method := { name := "effect", desc := "()Lcom/example/role_rights/rolerights/policy/Effect;", sig := { parameters := [], returnType := some (.object "com/example/role_rights/rolerights/policy/Effect") }, accessFlags := 0, code := some k7c2 }
/-- com/example/role_rights/rolerights/policy/Statement -/
def k7 : Class := { plain "com/example/role_rights/rolerights/policy/Statement" (some 5) with
  accessFlags := 16432
  interfaces := #[]
  cf := some (fileOf pool7 1 #[.nestMembers #[79]] #[{ accessFlags := 9, nameIndex := 161, descriptorIndex := 162, attributes := #[] }, { accessFlags := 8, nameIndex := 367, descriptorIndex := 368, attributes := #[] }, { accessFlags := 0, nameIndex := 122, descriptorIndex := 371, attributes := #[] }] 16432 68 #[] #[{ accessFlags := 16409, nameIndex := 5, descriptorIndex := 6, attributes := #[] }, { accessFlags := 16409, nameIndex := 9, descriptorIndex := 6, attributes := #[] }, { accessFlags := 16409, nameIndex := 12, descriptorIndex := 6, attributes := #[] }, { accessFlags := 16409, nameIndex := 15, descriptorIndex := 6, attributes := #[] }, { accessFlags := 16409, nameIndex := 18, descriptorIndex := 6, attributes := #[] }, { accessFlags := 16409, nameIndex := 21, descriptorIndex := 6, attributes := #[] }, { accessFlags := 16409, nameIndex := 24, descriptorIndex := 6, attributes := #[] }, { accessFlags := 16409, nameIndex := 27, descriptorIndex := 6, attributes := #[] }, { accessFlags := 16409, nameIndex := 30, descriptorIndex := 6, attributes := #[] }, { accessFlags := 16409, nameIndex := 33, descriptorIndex := 6, attributes := #[] }, { accessFlags := 16409, nameIndex := 36, descriptorIndex := 6, attributes := #[] }, { accessFlags := 16409, nameIndex := 39, descriptorIndex := 6, attributes := #[] }, { accessFlags := 16409, nameIndex := 42, descriptorIndex := 6, attributes := #[] }, { accessFlags := 16409, nameIndex := 45, descriptorIndex := 6, attributes := #[] }, { accessFlags := 16409, nameIndex := 48, descriptorIndex := 6, attributes := #[] }, { accessFlags := 16409, nameIndex := 51, descriptorIndex := 6, attributes := #[] }, { accessFlags := 16409, nameIndex := 54, descriptorIndex := 6, attributes := #[] }, { accessFlags := 16409, nameIndex := 57, descriptorIndex := 6, attributes := #[] }, { accessFlags := 26, nameIndex := 151, descriptorIndex := 152, attributes := #[] }, { accessFlags := 18, nameIndex := 114, descriptorIndex := 115, attributes := #[] }, { accessFlags := 18, nameIndex := 118, descriptorIndex := 119, attributes := #[] }, { accessFlags := 18, nameIndex := 122, descriptorIndex := 123, attributes := #[] }, { accessFlags := 18, nameIndex := 126, descriptorIndex := 127, attributes := #[] }, { accessFlags := 18, nameIndex := 136, descriptorIndex := 111, attributes := #[] }, { accessFlags := 18, nameIndex := 139, descriptorIndex := 140, attributes := #[] }, { accessFlags := 18, nameIndex := 110, descriptorIndex := 111, attributes := #[] }, { accessFlags := 4122, nameIndex := 60, descriptorIndex := 61, attributes := #[] }])
  fields := #[{ name := "USER", type := (.object "com/example/role_rights/rolerights/policy/Statement"), accessFlags := 16409, slot := 0, constantValue := 0 }, { name := "GROUP", type := (.object "com/example/role_rights/rolerights/policy/Statement"), accessFlags := 16409, slot := 1, constantValue := 0 }, { name := "ROLE", type := (.object "com/example/role_rights/rolerights/policy/Statement"), accessFlags := 16409, slot := 2, constantValue := 0 }, { name := "RIGHT", type := (.object "com/example/role_rights/rolerights/policy/Statement"), accessFlags := 16409, slot := 3, constantValue := 0 }, { name := "RIGHTGROUP", type := (.object "com/example/role_rights/rolerights/policy/Statement"), accessFlags := 16409, slot := 4, constantValue := 0 }, { name := "MEMBER", type := (.object "com/example/role_rights/rolerights/policy/Statement"), accessFlags := 16409, slot := 5, constantValue := 0 }, { name := "ASSIGN", type := (.object "com/example/role_rights/rolerights/policy/Statement"), accessFlags := 16409, slot := 6, constantValue := 0 }, { name := "INHERIT", type := (.object "com/example/role_rights/rolerights/policy/Statement"), accessFlags := 16409, slot := 7, constantValue := 0 }, { name := "INCLUDES", type := (.object "com/example/role_rights/rolerights/policy/Statement"), accessFlags := 16409, slot := 8, constantValue := 0 }, { name := "IMPLIES", type := (.object "com/example/role_rights/rolerights/policy/Statement"), accessFlags := 16409, slot := 9, constantValue := 0 }, { name := "CONTAINS", type := (.object "com/example/role_rights/rolerights/policy/Statement"), accessFlags := 16409, slot := 10, constantValue := 0 }, { name := "GRANT", type := (.object "com/example/role_rights/rolerights/policy/Statement"), accessFlags := 16409, slot := 11, constantValue := 0 }, { name := "DENY", type := (.object "com/example/role_rights/rolerights/policy/Statement"), accessFlags := 16409, slot := 12, constantValue := 0 }, { name := "FORBID", type := (.object "com/example/role_rights/rolerights/policy/Statement"), accessFlags := 16409, slot := 13, constantValue := 0 }, { name := "EXCLUSIVE", type := (.object "com/example/role_rights/rolerights/policy/Statement"), accessFlags := 16409, slot := 14, constantValue := 0 }, { name := "TIMEOUT", type := (.object "com/example/role_rights/rolerights/policy/Statement"), accessFlags := 16409, slot := 15, constantValue := 0 }, { name := "MAXACTIVE", type := (.object "com/example/role_rights/rolerights/policy/Statement"), accessFlags := 16409, slot := 16, constantValue := 0 }, { name := "ACTIVATIONS", type := (.object "com/example/role_rights/rolerights/policy/Statement"), accessFlags := 16409, slot := 17, constantValue := 0 }, { name := "BY_KEYWORD", type := (.object "java/util/Map"), accessFlags := 26, slot := 18, constantValue := 0 }, { name := "keyword", type := (.object "java/lang/String"), accessFlags := 18, slot := 3, constantValue := 0 }, { name := "declares", type := (.object "com/example/role_rights/rolerights/policy/Kind"), accessFlags := 18, slot := 4, constantValue := 0 }, { name := "effect", type := (.object "com/example/role_rights/rolerights/policy/Effect"), accessFlags := 18, slot := 5, constantValue := 0 }, { name := "hierarchy", type := (.object "com/example/role_rights/rolerights/policy/Hierarchy"), accessFlags := 18, slot := 6, constantValue := 0 }, { name := "slots", type := (.object "java/util/List"), accessFlags := 18, slot := 7, constantValue := 0 }, { name := "repeatsLast", type := .boolean, accessFlags := 18, slot := 8, constantValue := 0 }, { name := "nameSlots", type := (.object "java/util/List"), accessFlags := 18, slot := 9, constantValue := 0 }, { name := "$VALUES", type := (.array (.object "com/example/role_rights/rolerights/policy/Statement")), accessFlags := 4122, slot := 19, constantValue := 0 }]
  methods := #[k7m0, k7m1, k7m2]
  instanceTypes := #[(.object "java/lang/String"), .int, .int, (.object "java/lang/String"), (.object "com/example/role_rights/rolerights/policy/Kind"), (.object "com/example/role_rights/rolerights/policy/Effect"), (.object "com/example/role_rights/rolerights/policy/Hierarchy"), (.object "java/util/List"), .boolean, (.object "java/util/List")]
  staticTypes := #[(.object "com/example/role_rights/rolerights/policy/Statement"), (.object "com/example/role_rights/rolerights/policy/Statement"), (.object "com/example/role_rights/rolerights/policy/Statement"), (.object "com/example/role_rights/rolerights/policy/Statement"), (.object "com/example/role_rights/rolerights/policy/Statement"), (.object "com/example/role_rights/rolerights/policy/Statement"), (.object "com/example/role_rights/rolerights/policy/Statement"), (.object "com/example/role_rights/rolerights/policy/Statement"), (.object "com/example/role_rights/rolerights/policy/Statement"), (.object "com/example/role_rights/rolerights/policy/Statement"), (.object "com/example/role_rights/rolerights/policy/Statement"), (.object "com/example/role_rights/rolerights/policy/Statement"), (.object "com/example/role_rights/rolerights/policy/Statement"), (.object "com/example/role_rights/rolerights/policy/Statement"), (.object "com/example/role_rights/rolerights/policy/Statement"), (.object "com/example/role_rights/rolerights/policy/Statement"), (.object "com/example/role_rights/rolerights/policy/Statement"), (.object "com/example/role_rights/rolerights/policy/Statement"), (.object "java/util/Map"), (.array (.object "com/example/role_rights/rolerights/policy/Statement"))]
  resolved := Array.replicate 412 none
  statics := some 1 }

def pool8 : Array CpInfo := pool [(1, .class_ 2), (0, u "java/lang/Cloneable"), (0, .class_ 4), (0, u "java/lang/Object")] 2

/-- java/lang/Cloneable -/
def k8 : Class := { plain "java/lang/Cloneable" (some 0) with
  accessFlags := 1537
  interfaces := #[]
  cf := some (fileOf pool8 1 #[] #[] 1537 3 #[] #[])
  fields := #[]
  methods := #[]
  instanceTypes := #[]
  staticTypes := #[]
  resolved := Array.replicate 7 none
  statics := none }

/-- the primitive byte -/
def k9 : Class := { plain "byte" none with kind := .primitive 'B', accessFlags := 0x411 }
/-- [B -/
def k10 : Class := { plain "[B" (some 0) with kind := .array 9 .byte, interfaces := #[8, 4], accessFlags := 1041 }

/-- the primitive int -/
def k11 : Class := { plain "int" none with kind := .primitive 'I', accessFlags := 0x411 }
/-- [I -/
def k12 : Class := { plain "[I" (some 0) with kind := .array 11 .int, interfaces := #[8, 4], accessFlags := 1041 }

/-- [Lcom/example/role_rights/rolerights/policy/Statement; -/
def k13 : Class := { plain "[Lcom/example/role_rights/rolerights/policy/Statement;" (some 0) with kind := .array 7 (.object "com/example/role_rights/rolerights/policy/Statement"), interfaces := #[8, 4], accessFlags := 1041 }

def heap : Heap := #[{ cls := 6, slots := #[.ref 3, .ref 4, .ref 5, .null], vm := .statics 6 },
  { cls := 7, slots := #[.ref 6, .ref 7, .ref 8, .ref 9, .ref 10, .ref 11, .ref 12, .ref 13, .ref 14, .ref 15, .ref 16, .ref 17, .ref 18, .ref 19, .ref 20, .ref 21, .ref 22, .ref 23, .null, .ref 2], vm := .statics 7 },
  { cls := 13, slots := #[.ref 6, .ref 7, .ref 8, .ref 9, .ref 10, .ref 11, .ref 12, .ref 13, .ref 14, .ref 15, .ref 16, .ref 17, .ref 18, .ref 19, .ref 20, .ref 21, .ref 22, .ref 23], vm := .none },
  { cls := 6, slots := #[.null, .int 0, .int 0, .null], vm := .none },
  { cls := 6, slots := #[.null, .int 1, .int 0, .null], vm := .none },
  { cls := 6, slots := #[.null, .int 2, .int 0, .null], vm := .none },
  { cls := 7, slots := #[.null, .int 0, .int 0, .null, .null, .null, .null, .null, .int 0, .null], vm := .none },
  { cls := 7, slots := #[.null, .int 1, .int 0, .null, .null, .null, .null, .null, .int 0, .null], vm := .none },
  { cls := 7, slots := #[.null, .int 2, .int 0, .null, .null, .null, .null, .null, .int 0, .null], vm := .none },
  { cls := 7, slots := #[.null, .int 3, .int 0, .null, .null, .null, .null, .null, .int 0, .null], vm := .none },
  { cls := 7, slots := #[.null, .int 4, .int 0, .null, .null, .null, .null, .null, .int 0, .null], vm := .none },
  { cls := 7, slots := #[.null, .int 5, .int 0, .null, .null, .null, .null, .null, .int 0, .null], vm := .none },
  { cls := 7, slots := #[.null, .int 6, .int 0, .null, .null, .null, .null, .null, .int 0, .null], vm := .none },
  { cls := 7, slots := #[.null, .int 7, .int 0, .null, .null, .null, .null, .null, .int 0, .null], vm := .none },
  { cls := 7, slots := #[.null, .int 8, .int 0, .null, .null, .null, .null, .null, .int 0, .null], vm := .none },
  { cls := 7, slots := #[.null, .int 9, .int 0, .null, .null, .null, .null, .null, .int 0, .null], vm := .none },
  { cls := 7, slots := #[.null, .int 10, .int 0, .null, .null, .null, .null, .null, .int 0, .null], vm := .none },
  { cls := 7, slots := #[.null, .int 11, .int 0, .null, .null, .ref 3, .null, .null, .int 0, .null], vm := .none },
  { cls := 7, slots := #[.null, .int 12, .int 0, .null, .null, .ref 4, .null, .null, .int 0, .null], vm := .none },
  { cls := 7, slots := #[.null, .int 13, .int 0, .null, .null, .ref 5, .null, .null, .int 0, .null], vm := .none },
  { cls := 7, slots := #[.null, .int 14, .int 0, .null, .null, .null, .null, .null, .int 0, .null], vm := .none },
  { cls := 7, slots := #[.null, .int 15, .int 0, .null, .null, .null, .null, .null, .int 0, .null], vm := .none },
  { cls := 7, slots := #[.null, .int 16, .int 0, .null, .null, .null, .null, .null, .int 0, .null], vm := .none },
  { cls := 7, slots := #[.null, .int 17, .int 0, .null, .null, .null, .null, .null, .int 0, .null], vm := .none }]
def classes : Array Class := #[k0, k1, k2, k3, k4, k5, k6, k7, k8, k9, k10, k11, k12, k13]
def interned : List (Array UInt16 × Addr) := []
def slotsUsed : Nat := 234
def theMethod : MethodId := ⟨1, 1⟩
def args0 : Array Value := #[.int 5]
def aboutOver (below : List Frame) : State where
  vm := { classes := classes, interned := interned.toArray }
  heap := heap
  slotsUsed := slotsUsed
  threads := #[{ frames := .invoking theMethod args0 :: below }]
def below0 : List Frame := [.native { method := ⟨0, 0⟩, args := #[] }]
def about1 : State := aboutOver below0
def p0 : Program := .bare "" "" ""
def e0 : Env := launch0.env 0 0 0
theorem w_frames : about1.frames = Frame.invoking theMethod args0 :: below0 := rfl
set_option maxRecDepth 65536 in
theorem w_args : argsFit about1.vm theMethod args0 = true := by decide +kernel
set_option maxRecDepth 65536 in
theorem w_heap : heapFits about1 = true := by decide +kernel
set_option maxRecDepth 65536 in
theorem w_runnable : about1.curStatus? = some .runnable := by decide +kernel
set_option maxRecDepth 65536 in
theorem w_alone : about1.alone = true := by decide +kernel
set_option maxRecDepth 65536 in
theorem w_named : about1.methodNamed? x = some theMethod := by decide +kernel
set_option maxRecDepth 65536 in
theorem w_hears : about1.hears theMethod below0 = true := by decide +kernel
set_option maxRecDepth 65536 in
theorem w_ripe : about1.ripe theMethod args0 below0 = true := by decide +kernel
theorem w_running : about1.status = .running := rfl
set_option maxRecDepth 65536 in
theorem w_room : about1.hasRoom e0.platform room_1 = true :=
  launch0.hasRoom_least _ room_1 (by decide +kernel) (by decide +kernel) (by decide +kernel) (by decide +kernel) (by decide +kernel) (by decide +kernel)
theorem allAtoms_all (ts : List Jvm.Cond) (a : Array Jvm.Value) (st : Jvm.State) : (allAtoms ts).before a st = ts.all (fun c => c.before a st) := by
  induction ts with
  | nil => rfl
  | cons c t ih =>
    show (Jvm.Cond.and c (allAtoms t)).before a st = _
    rw [Jvm.Cond.before_and, ih, List.all_cons]
def words1 : List Jvm.Cond := Jvm.Cond.code x code maxLocals ret :: tables_1
/-- a 'code' word, met by the world's own term for the bytes: nothing is compared byte by byte -/
theorem code_word {y : MethodName} {bytes : ByteArray} {mx : Nat} {rt : Option FieldType} {a : Array Value} {s : State} {m : MethodId} {meth : Method} {c : Code} (h1 : s.methodNamed? y = some m) (h2 : s.vm.method? m = some meth) (h3 : meth.code = some c) (h4 : c.code = bytes)
    (h5 : (c.maxLocals == mx && c.exceptionTable.isEmpty && decide (c.maxStack ≤ mostOperands) && decide (meth.sig.returnType = rt) && !meth.locks && decide (parseMethodDescriptor y.desc = some meth.sig)) = true) : (Jvm.Cond.code y bytes mx rt).before a s = true := by
  simp only [Bool.and_eq_true, beq_iff_eq, Bool.not_eq_true', decide_eq_true_eq] at h5
  obtain ⟨⟨⟨⟨⟨g1, g2⟩, g3⟩, g4⟩, g5⟩, g6⟩ := h5
  simp [Cond.before, Cond.holds, Cond.value, h1, h2, h3, h4, g1, g2, g3, g4, g5, g6]
def isCode : Jvm.Cond → Bool
  | .code _ _ _ _ => true
  | _ => false
theorem all_split {L : List Jvm.Cond} {P : Jvm.Cond → Bool} (h1 : L.all (fun c => isCode c || P c) = true) (h2 : ∀ c ∈ L.filter isCode, P c = true) : L.all P = true := by
  refine List.all_eq_true.mpr fun c hc => ?_
  have h := List.all_eq_true.mp h1 c hc
  rcases Bool.eq_false_or_eq_true (isCode c) with hi | hi
  · exact h2 c (List.mem_filter.mpr ⟨hc, hi⟩)
  · simpa [hi] using h
set_option maxRecDepth 65536 in
theorem w_c0 : (Jvm.Cond.code x code maxLocals ret).before args0 about1 = true := code_word (m := ⟨1, 1⟩) (meth := k1m1) (c := k1c1) (by decide +kernel) rfl rfl rfl (by decide +kernel)
set_option maxRecDepth 65536 in
theorem w_c1 : (Jvm.Cond.code ({ cls := "com/example/role_rights/rolerights/policy/Statement", name := "stating", desc := "(Lcom/example/role_rights/rolerights/policy/Effect;)Lcom/example/role_rights/rolerights/policy/Statement;" } : Jvm.MethodName) prog_50_method_9_code (6 : Nat) (Option.some (Jvm.ClassFile.FieldType.object "com/example/role_rights/rolerights/policy/Statement"))).before args0 about1 = true := code_word (m := ⟨7, 1⟩) (meth := k7m1) (c := k7c1) (by decide +kernel) rfl rfl rfl (by decide +kernel)
set_option maxRecDepth 65536 in
theorem w_c2 : (Jvm.Cond.code ({ cls := "com/example/role_rights/rolerights/policy/Statement", name := "values", desc := "()[Lcom/example/role_rights/rolerights/policy/Statement;" } : Jvm.MethodName) prog_50_method_1_code (0 : Nat) (Option.some (Jvm.ClassFile.FieldType.array (Jvm.ClassFile.FieldType.object "com/example/role_rights/rolerights/policy/Statement")))).before args0 about1 = true := code_word (m := ⟨7, 0⟩) (meth := k7m0) (c := k7c0) (by decide +kernel) rfl rfl rfl (by decide +kernel)
set_option maxRecDepth 65536 in
theorem w_c3 : (Jvm.Cond.code ({ cls := "com/example/role_rights/rolerights/policy/Statement", name := "effect", desc := "()Lcom/example/role_rights/rolerights/policy/Effect;" } : Jvm.MethodName) prog_50_method_13_code (1 : Nat) (Option.some (Jvm.ClassFile.FieldType.object "com/example/role_rights/rolerights/policy/Effect"))).before args0 about1 = true := code_word (m := ⟨7, 2⟩) (meth := k7m2) (c := k7c2) (by decide +kernel) rfl rfl rfl (by decide +kernel)
def codes1 : List Jvm.Cond := [Jvm.Cond.code x code maxLocals ret, Jvm.Cond.code ({ cls := "com/example/role_rights/rolerights/policy/Statement", name := "stating", desc := "(Lcom/example/role_rights/rolerights/policy/Effect;)Lcom/example/role_rights/rolerights/policy/Statement;" } : Jvm.MethodName) prog_50_method_9_code (6 : Nat) (Option.some (Jvm.ClassFile.FieldType.object "com/example/role_rights/rolerights/policy/Statement")), Jvm.Cond.code ({ cls := "com/example/role_rights/rolerights/policy/Statement", name := "values", desc := "()[Lcom/example/role_rights/rolerights/policy/Statement;" } : Jvm.MethodName) prog_50_method_1_code (0 : Nat) (Option.some (Jvm.ClassFile.FieldType.array (Jvm.ClassFile.FieldType.object "com/example/role_rights/rolerights/policy/Statement"))), Jvm.Cond.code ({ cls := "com/example/role_rights/rolerights/policy/Statement", name := "effect", desc := "()Lcom/example/role_rights/rolerights/policy/Effect;" } : Jvm.MethodName) prog_50_method_13_code (1 : Nat) (Option.some (Jvm.ClassFile.FieldType.object "com/example/role_rights/rolerights/policy/Effect"))]
set_option maxRecDepth 65536 in
theorem codes_eq : words1.filter isCode = codes1 := rfl
theorem w_codes : ∀ c ∈ words1.filter isCode, c.before args0 about1 = true := by
  rw [codes_eq]
  intro c hc
  simp only [codes1, List.mem_cons, List.not_mem_nil, or_false] at hc
  rcases hc with rfl | rfl | rfl | rfl
  · exact w_c0
  · exact w_c1
  · exact w_c2
  · exact w_c3
set_option maxRecDepth 65536 in
theorem w_t1 : (words1.take 24).all (fun c => isCode c || c.before args0 about1) = true := by decide +kernel
set_option maxRecDepth 65536 in
theorem w_t2 : ((words1.drop 24).take 24).all (fun c => isCode c || c.before args0 about1) = true := by decide +kernel
set_option maxRecDepth 65536 in
theorem w_t3 : ((words1.drop 24).drop 24).all (fun c => isCode c || c.before args0 about1) = true := by decide +kernel
theorem w_tables : (allAtoms (Jvm.Cond.code x code maxLocals ret :: tables_1)).before args0 about1 = true := by
  rw [allAtoms_all]
  show words1.all (fun c => c.before args0 about1) = true
  refine all_split ?_ w_codes
  rw [← List.take_append_drop 24 words1, List.all_append, w_t1, ← List.take_append_drop 24 (words1.drop 24), List.all_append, w_t2, w_t3]
  rfl
set_option maxRecDepth 65536 in
theorem w_case : (Jvm.Cond.and given_1 narrow_1).before args0 about1 = true := by decide +kernel
theorem w_applies : (headSpec (Jvm.Cond.code x code maxLocals ret :: tables_1) room_1).applies x e0.platform about1 = true :=
  (Spec.applies_iff w_frames).mpr ⟨w_running, w_runnable, w_alone, w_named, w_hears, w_ripe, w_room, w_tables⟩
theorem atStart : AtStart classFile x code maxLocals ret World_1 tables_1 room_1 Calls_1 rest_1 Pre_1 launch0 p0 e0 about1 theMethod args0 below0 :=
  ⟨lists_1, trivial, launch0.admits_env _ _ _, launch0.least_env, fairChoices_fair.cas, fairChoices_fair.clock, w_frames, w_args, w_heap, w_applies, trivial, trivial, w_case⟩
end start1
theorem witness_1 : WitnessClaimed_1 := ⟨start1.p0, start1.e0, start1.about1, start1.theMethod, start1.args0, start1.below0, start1.atStart⟩
end Jvm.Pilot.@@N@@
