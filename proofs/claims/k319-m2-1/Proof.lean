import JvmDerived
import JvmDerived.Pilot.@@N@@Statement
import JvmDerived.Pilot.@@N@@Code
set_option linter.unusedVariables false
set_option linter.unusedSimpArgs false
namespace Jvm.Pilot.@@N@@
open Jvm Jvm.ClassFile Sem Op Lib Jvm.Free Jvm.Stand Jvm.LawKit Jvm.RoadKit Bundle Jvm.Pilot.@@N@@.Jvm.D
theorem own_lt {x y : Int32} (h : x < y) : if_icmp.holds .lt x y = true ∧ if_icmp.holds .ge x y = false := by simp [if_icmp.holds, h, Int32.not_le.mpr h]
def own_Goes (p : Program) (e : Env) (below : List Frame) (s : State) (Q : Option Value → Heap → List Loc → Prop) (kc ks : Nat) (U : State) : Prop :=
  ∃ t o, Steps p.tables e below U t ∧ t.status = .running ∧ Ended t below o ∧ ∃ v L, o = .returned v ∧ Q v t.heap L ∧ FrameEnd s o t L kc ks
theorem own_go {p : Program} {e : Env} {below : List Frame} {s : State} {Q : Option Value → Heap → List Loc → Prop} {kc ks : Nat} {U V : State} (h : ∀ t, Steps p.tables e below V t → Steps p.tables e below U t) (g : own_Goes p e below s Q kc ks V) : own_Goes p e below s Q kc ks U := by
  obtain ⟨t, o, h1, r⟩ := g
  exact ⟨t, o, h t h1, r⟩
theorem own_out {p : Program} {l : Launch} {e : Env} {R : Room} {s : State} {m : MethodId} {args : Array Value} {below : List Frame} {meth : Method} {c : Code} {T : State} {locs : List Loc} {cells slots : Nat} {h : Heap} {Q : Option Value → Heap → List Loc → Prop} {kc ks : Nat} {U : State} {v : Option Value}
    (X : Stand p l e R s m args below meth c T locs cells slots) (hlk : meth.locks = false) (hv : meth.sig.returnType = none → v = none)
    (hs : ∀ fs, (∀ (f : JFrame) (acts : List Action), f.method = m → f.locked = none → f.entered = [] → (doReturn e (T.setTop f) acts v).1 = T.setFrames fs) → Steps p.tables e below U (T.setFrames fs))
    (eT : T.heap = h) (hQ : Q v h locs) (hc : cells ≤ kc) (hsl : slots ≤ ks) : own_Goes p e below s Q kc ks U := by
  obtain ⟨fs, hr, hrun, hended, hW, hsame⟩ := X.leave hv hlk
  subst eT
  exact ⟨_, _, hs fs hr, hrun, hended, _, _, rfl, hQ, ⟨_, rfl⟩, hW, hsame.mono hc hsl⟩
theorem own_ks {h0 h : Heap} {ws : List Addr} (K : Keep h0 h ws) : h0.size ≤ h.size := K.1
theorem own_cmpL (x : Int64) : XT.cmpL x x = 0 := by simp [XT.cmpL]
theorem own_vne {a b : Int32} (h : a ≠ b) : Value.int a ≠ .int b := fun q => h (Value.int.inj q)
theorem own_nn (x : Int32) : ¬ (x &&& 2147483647) < 0 := fun h => absurd ((XT.and_neg32 x 2147483647).mp h).2 (by decide)
theorem own_lk {p : Program} {l : Launch} {x : MethodName} {S : Spec} {code : ByteArray} {maxLocals : Nat} {ret : Option FieldType} {e : Env} {s : State} {m : MethodId} {args : Array Value} {below : List Frame} {meth : Method} {c : Code} {s₁ : State} (B : BodyLoose p l x S code maxLocals ret e s m args below meth c s₁) : meth.locks = false := B.notSynchronized
theorem own_if (cd : ClassFile.Cond) {x : Int32} {b : Bool} (h : if_icmp.holds cd x 0 = b) : ifCond.holds cd x = b := by rw [if0]; exact h
theorem own_aeq {a b : Addr} (h : a = b) : XT.acmp .eq (.ref a) (.ref b) = true ∧ XT.acmp .ne (.ref a) (.ref b) = false := by subst h; exact ⟨XT.aa_eq_t rfl, XT.aa_ne_f rfl⟩
theorem own_ane {a b : Addr} (h : ¬ a = b) : XT.acmp .eq (.ref a) (.ref b) = false ∧ XT.acmp .ne (.ref a) (.ref b) = true := ⟨XT.aa_eq_f (fun q => h (Value.ref.inj q)), XT.aa_ne_t (fun q => h (Value.ref.inj q))⟩
theorem own_eqI {args : Array Value} {s : State} {u : Term} {k : Int32} (h : (Jvm.Cond.eq u (.int k)).value args s none s [] = some true) : u.eval args s none [] s = some (.int k) := by
  simp only [Jvm.Cond.value] at h
  cases hf : u.eval args s none [] s with
  | none => simp [hf] at h
  | some v => cases v <;> simp [hf, Term.eval] at h; subst h; rfl
theorem own_eqJ {args : Array Value} {s : State} {u : Term} {k : Int64} (h : (Jvm.Cond.eq u (.long k)).value args s none s [] = some true) : u.eval args s none [] s = some (.long k) := by
  simp only [Jvm.Cond.value] at h
  cases hf : u.eval args s none [] s with
  | none => simp [hf] at h
  | some v => cases v <;> simp [hf, Term.eval] at h; subst h; rfl
theorem own_cl_gt (x y : Int64) : 0 < XT.cmpL x y ↔ y < x := by
  unfold XT.cmpL
  by_cases h : y < x
  · simp [h]
  · by_cases g : x = y
    · subst g; simp [h]
    · simp [h, g]
theorem own_cl_lt (x y : Int64) : XT.cmpL x y < 0 ↔ x < y := by
  unfold XT.cmpL
  by_cases h : y < x
  · have : ¬ x < y := fun q => by rw [Int64.lt_iff_toInt_lt] at h q; omega
    simp [h, this]
  · by_cases g : x = y
    · subst g; simp [h]
    · have : x < y := by
        rw [Int64.lt_iff_toInt_lt] at h ⊢
        have ne : x.toInt ≠ y.toInt := fun q => g (Int64.toInt_inj.mp q)
        omega
      simp [h, g, this]
theorem own_privateBack {p : Program} {l : Launch} {e : Env} {R : Room} {s : State} {m : MethodId} {args : Array Value} {below : List Frame} {meth : Method} {c : Code} {T : State} {locs : List Loc} {cells slots : Nat}
    (X : Stand p l e R s m args below meth c T locs cells slots) (hexec : p.tables.exec = Jvm.exec) {own : String} {index k : Nat} {y : MethodName} {bytes : ByteArray} {maxL : Nat} {ret : Option FieldType}
    (hown : s.vm.findClass own = some m.cls) (hlink : (Jvm.Cond.methodLink own index y).before args s = true) (hinst : (Jvm.Cond.instanceMethod y).before args s = true) (hmk : (Jvm.Cond.instantiable y.cls k).before args s = true)
    (hpriv : s.PrivateAt y) (hcode : (Jvm.Cond.code y bytes maxL ret).before args s = true) (hy : y.cls ≠ "java/lang/invoke/MethodHandle" ∧ y.cls ≠ "java/lang/invoke/VarHandle")
    {W : Nat} {Pre : Free.Pt → Array Value → Prop} {Post : Free.Pt → Array Value → Option Value → Free.Pt → Prop} (hK : Free.Back l R p e below s args y 3 W Pre Post)
    {g : JFrame} (hg : g.method = m) (hsize : g.locals.size = c.maxLocals) {s₀ : State} (hcome : Steps p.tables e below s₀ (T.setTop g)) {a : Addr} {cell : Cell} (hcell : T.heap[a]? = some cell) (hobj : ∀ q, cell.vm ≠ .statics q)
    {argsL rest : List Value} (hlen : ∀ sig, parseMethodDescriptor y.desc = some sig → argsL.length = sig.parameters.length)
    (hstack : g.stack = argsL.reverse ++ .ref a :: rest) (hW : 2 * g.monitorRoom + (rest.map fun v => v.category).sum ≤ W) (hdg : decode c.code g.pc = .ok (.invokevirtual index, 3))
    (hpre : ∀ vm₁, s.WarmedH vm₁ → Pre ⟨T.setVm vm₁, locs, cells, slots⟩ (.ref a :: argsL).toArray) :
    ∃ (v : Option Value) (vm₁ : Vm) (B : Free.Pt), s.WarmedH vm₁ ∧ Stand p l e R s m args below meth c B.U B.locs B.cells B.slots ∧ Post ⟨T.setVm vm₁, locs, cells, slots⟩ (.ref a :: argsL).toArray v B ∧
      Steps p.tables e below s₀ (B.U.setTop { g with pc := g.pc + 3, stack := v.toList ++ rest }) := by
  obtain ⟨mk, r, named, found, inst, abs⟩ := Cond.instanceMethod_spec hinst
  obtain ⟨r', cM, found', -, -, -, -, -, -, sig⟩ := Cond.code_spec named hcode
  cases found.symm.trans found'
  obtain ⟨cC, kC, k1, k2, -, k4, -⟩ := Cond.instantiable_spec hmk
  cases (findClass_of_methodNamed named).symm.trans k1
  have face : kC.isInterface = false := (Bool.or_eq_false_iff.mp k4).1
  have sel : selectMethod e.platform s.vm cell.cls mk = .method mk := selectMethod_private found (hpriv mk r named found)
  obtain ⟨vm₁, X₁, go⟩ := X.invokevirtual hexec hown hlink named found inst k2 face hy (a := a) (cell := cell) hcell hobj sel found abs k2 face (g := g) hg (argsL := argsL) (rest := rest) (hlen _ sig) hstack hdg
  obtain ⟨v, B, X', post, back⟩ := hK m meth c ⟨T.setVm vm₁, locs, cells, slots⟩ { g with stack := rest } (.invokevirtual index) mk (.ref a :: argsL).toArray X₁ hg hsize hdg hW (X₁.named named) (hpre vm₁ X₁.warmed)
  exact ⟨v, vm₁, B, X₁.warmed, X', post, (hcome.trans (go _ fun acts => by rw [doInvoke_state]; exact Steps.refl _)).trans back⟩
theorem own_fitR {C : String} {v : Value} (h : v.isRef = true) : fits (.object C) v = true := by rcases ref_cases h with rfl | ⟨a, rfl⟩ <;> rfl
theorem own_fI {args : Array Value} {s : State} {t : Term} {a : Addr} {O n d : String} {k : Int32} (ev : t.eval args s none [] s = some (.ref a)) (h : (Jvm.Cond.eq (.field t O n d) (.int k)).value args s none s [] = some true) : Fld s s.heap a O n d (.int k) := by
  refine Fld.start ?_
  simp only [Jvm.Cond.value, fld_at ev] at h
  cases hf : s.fieldOf? a O n d with
  | none => simp [hf] at h
  | some v => cases v <;> simp [hf, Term.eval] at h; subst h; rfl
theorem own_fJ {args : Array Value} {s : State} {t : Term} {a : Addr} {O n d : String} {k : Int64} (ev : t.eval args s none [] s = some (.ref a)) (h : (Jvm.Cond.eq (.field t O n d) (.long k)).value args s none s [] = some true) : Fld s s.heap a O n d (.long k) := by
  refine Fld.start ?_
  simp only [Jvm.Cond.value, fld_at ev] at h
  cases hf : s.fieldOf? a O n d with
  | none => simp [hf] at h
  | some v => cases v <;> simp [hf, Term.eval] at h; subst h; rfl
theorem own_fN {args : Array Value} {s : State} {t : Term} {a : Addr} {O n d : String} (ev : t.eval args s none [] s = some (.ref a)) (h : (Jvm.Cond.eq (.field t O n d) .null).value args s none s [] = some true) : Fld s s.heap a O n d .null := Fld.start ((fld_at ev).symm.trans (null_v h))
theorem pn_0 : plainName "com/example/navlint/navlint/model/Value" = true := by first | (simp [plainName, overriddenIn]; done) | decide +kernel
theorem pn_1 : plainName "com/example/navlint/navlint/model/Value$BooleanValue" = true := by first | (simp [plainName, overriddenIn]; done) | decide +kernel
theorem pn_2 : plainName "com/example/navlint/navlint/model/ValueOfPinLaw" = true := by first | (simp [plainName, overriddenIn]; done) | decide +kernel
theorem pd_0 : parseMethodDescriptor "(Z)Lcom/example/navlint/navlint/model/Value;" = some ⟨[.boolean], some (.object "com/example/navlint/navlint/model/Value")⟩ := by decide +kernel
theorem pd_1 : parseMethodDescriptor "()Z" = some ⟨[], some .boolean⟩ := by decide +kernel
theorem d1_0 : decode prog_125_method_1_code 0 = .ok (.iload_n 0, 1) := by decide +kernel
theorem d1_1 : decode prog_125_method_1_code 1 = .ok (.ifCond .eq 9, 3) := by decide +kernel
theorem d1_4 : decode prog_125_method_1_code 4 = .ok (.getstatic 1, 3) := by decide +kernel
theorem d1_7 : decode prog_125_method_1_code 7 = .ok (.goto 6, 3) := by decide +kernel
theorem d1_13 : decode prog_125_method_1_code 13 = .ok (.areturn, 1) := by decide +kernel
theorem ef_of1 (m : MethodId) (a : Addr) : entryFrame m #[(.int (1 : Int32))] 1 = mkF m 0 #[.val (.int (1 : Int32))] [] := by first | (simp [entryFrame, mkF, argsToLocals, Value.category]; done) | rfl
def Q_of1 (Z : State) (a : Addr) (h0 : Heap) (n0 : Nat) (v : Option Value) (h : Heap) (L : List Loc) : Prop := v = some (.ref a) ∧ Fr n0 L ∧ h = h0
set_option maxRecDepth 65536 in
set_option maxHeartbeats 40000000 in
theorem rm_of1 (l : Launch) (Z : State) (a0 : Array Value) (hw : ∀ d ∈ tables_1, d.before a0 Z = true) (ws : List Jvm.Cond) (a : Addr) (h0 : Heap) (n0 : Nat) (O0 : Old Z n0 h0) (S_TRUE : Sta Z Z.heap "com/example/navlint/navlint/model/Value" "TRUE" "Lcom/example/navlint/navlint/model/Value;" (.ref a)) :
    MetFree l (⟨"com/example/navlint/navlint/model/Value", "of", "(Z)Lcom/example/navlint/navlint/model/Value;"⟩ : MethodName) (head1 (Jvm.Cond.code (⟨"com/example/navlint/navlint/model/Value", "of", "(Z)Lcom/example/navlint/navlint/model/Value;"⟩ : MethodName) prog_125_method_1_code 1 (some (.object "com/example/navlint/navlint/model/Value")) :: ws) ({ frames := 0, cells := 0, slots := 0, locals := 0 } : Room)) (fun av_ U => av_ = #[(.int (1 : Int32))] ∧ Z.Warmed39 U.vm ∧ U.heap = h0) (fun _ _ _ _ _ => True) (fun _ U o_ U' => ∃ v L, o_ = .returned v ∧ Q_of1 Z a h0 n0 v U'.heap L ∧ FrameEnd U o_ U' L ({ frames := 0, cells := 0, slots := 0, locals := 0 } : Room).cells ({ frames := 0, cells := 0, slots := 0, locals := 0 } : Room).slots) := by
  refine MetFree.of_bodySF (plainFor_of_name pn_0) hisR ?_
  intro p e s m args below meth c s₁ Bd hml0 hP hK
  obtain ⟨rfl, hZ, hh⟩ := hP
  have hx := Bd.exec
  have hby := Bd.bytes
  have hml : c.maxLocals = 1 := hml0
  have hown : s.vm.findClass "com/example/navlint/navlint/model/Value" = some m.cls := findClass_of_methodNamed Bd.named
  have hnm := (name_of_methodNamed Bd.named Bd.method).1
  have hlk := own_lk Bd
  have hret := Bd.returns
  have X0 : Stand p l e ({ frames := 0, cells := 0, slots := 0, locals := 0 } : Room) s m #[(.int (1 : Int32))] below meth c s₁ [] 0 0 := Stand.of_body Bd
  have e0 : s₁.heap = h0 := by rw [← hh, Bd.state]; rfl
  have N0 := Fr.nil n0
  show own_Goes p e below s (Q_of1 Z a h0 n0) ({ frames := 0, cells := 0, slots := 0, locals := 0 } : Room).cells ({ frames := 0, cells := 0, slots := 0, locals := 0 } : Room).slots (s₁.setTop (entryFrame m #[(.int (1 : Int32))] 1))
  refine own_go (fun _ ww => castTop (ef_of1 m a) ww) ?_
  show own_Goes _ _ _ _ _ _ _ (s₁.setTop (mkF m 0 #[.val (.int (1 : Int32))] []))
  refine own_go (fun _ ww => XS.iloadN X0.here hx rfl (hb hby d1_0) rfl  ww) ?_
  show own_Goes _ _ _ _ _ _ _ (s₁.setTop (mkF m 1 #[.val (.int (1 : Int32))] [(.int (1 : Int32))]))
  refine own_go (fun _ ww => XS.ifNo X0.here hx rfl (hb hby d1_1) rfl (own_if .eq (feq (by decide : ¬ ((1 : Int32) = (0 : Int32)))).1) ww) ?_
  show own_Goes _ _ _ _ _ _ _ (s₁.setTop (mkF m 4 #[.val (.int (1 : Int32))] []))
  obtain ⟨T1, X1, e1, st1⟩ := getS X0 hx hZ hown (host := "") (hw _ (List.mem_of_getElem? (i := 16) rfl)) Via.refl e0 (S_TRUE.ext O0.2) (g := (mkF m 4 #[.val (.int (1 : Int32))] [])) rfl (hb hby d1_4)
  refine own_go st1 ?_
  show own_Goes _ _ _ _ _ _ _ (T1.setTop (mkF m 7 #[.val (.int (1 : Int32))] [(.ref a)]))
  refine own_go (fun _ ww => XS.goto X1.here hx rfl (pc0 := 7) (pc' := 13) rfl (hb hby d1_7) (by decide) (by decide) ww) ?_
  show own_Goes _ _ _ _ _ _ _ (T1.setTop (mkF m 13 #[.val (.int (1 : Int32))] [(.ref a)]))
  exact own_out X1 hlk (v := some (.ref a)) (fun h => by rw [hret] at h; cases h) (fun fs hr => retOut X1 hx (t := (.object "com/example/navlint/navlint/model/Value")) hret rfl (Or.inr (Or.inr (Or.inr (Or.inr ⟨rfl, rfl, rfl⟩)))) (hb hby d1_13) hr) e1 ⟨rfl, N0, rfl⟩ (by decide) (by decide)
theorem d2_0 : decode prog_126_method_5_code 0 = .ok (.aload_n 0, 1) := by decide +kernel
theorem d2_1 : decode prog_126_method_5_code 1 = .ok (.getfield 7, 3) := by decide +kernel
theorem d2_4 : decode prog_126_method_5_code 4 = .ok (.ireturn, 1) := by decide +kernel
theorem ef_value1 (m : MethodId) (a : Addr) : entryFrame m #[(.ref a)] 1 = mkF m 0 #[.val (.ref a)] [] := by first | (simp [entryFrame, mkF, argsToLocals, Value.category]; done) | rfl
def Q_value1 (Z : State) (a : Addr) (h0 : Heap) (n0 : Nat) (v : Option Value) (h : Heap) (L : List Loc) : Prop := v = some (.int (1 : Int32)) ∧ Fr n0 L ∧ h = h0
set_option maxRecDepth 65536 in
set_option maxHeartbeats 40000000 in
theorem rm_value1 (l : Launch) (Z : State) (a0 : Array Value) (hw : ∀ d ∈ tables_1, d.before a0 Z = true) (ws : List Jvm.Cond) (a : Addr) (h0 : Heap) (n0 : Nat) (O0 : Old Z n0 h0) (F_a : Fld Z h0 a "com/example/navlint/navlint/model/Value$BooleanValue" "value" "Z" (.int (1 : Int32))) :
    MetFree l (⟨"com/example/navlint/navlint/model/Value$BooleanValue", "value", "()Z"⟩ : MethodName) (head1 (Jvm.Cond.code (⟨"com/example/navlint/navlint/model/Value$BooleanValue", "value", "()Z"⟩ : MethodName) prog_126_method_5_code 1 (some .boolean) :: ws) ({ frames := 0, cells := 0, slots := 0, locals := 0 } : Room)) (fun av_ U => av_ = #[(.ref a)] ∧ Z.Warmed39 U.vm ∧ U.heap = h0) (fun _ _ _ _ _ => True) (fun _ U o_ U' => ∃ v L, o_ = .returned v ∧ Q_value1 Z a h0 n0 v U'.heap L ∧ FrameEnd U o_ U' L ({ frames := 0, cells := 0, slots := 0, locals := 0 } : Room).cells ({ frames := 0, cells := 0, slots := 0, locals := 0 } : Room).slots) := by
  refine MetFree.of_bodySF (plainFor_of_name pn_1) hisR ?_
  intro p e s m args below meth c s₁ Bd hml0 hP hK
  obtain ⟨rfl, hZ, hh⟩ := hP
  have hx := Bd.exec
  have hby := Bd.bytes
  have hml : c.maxLocals = 1 := hml0
  have hown : s.vm.findClass "com/example/navlint/navlint/model/Value$BooleanValue" = some m.cls := findClass_of_methodNamed Bd.named
  have hnm := (name_of_methodNamed Bd.named Bd.method).1
  have hlk := own_lk Bd
  have hret := Bd.returns
  have X0 : Stand p l e ({ frames := 0, cells := 0, slots := 0, locals := 0 } : Room) s m #[(.ref a)] below meth c s₁ [] 0 0 := Stand.of_body Bd
  have e0 : s₁.heap = h0 := by rw [← hh, Bd.state]; rfl
  have N0 := Fr.nil n0
  show own_Goes p e below s (Q_value1 Z a h0 n0) ({ frames := 0, cells := 0, slots := 0, locals := 0 } : Room).cells ({ frames := 0, cells := 0, slots := 0, locals := 0 } : Room).slots (s₁.setTop (entryFrame m #[(.ref a)] 1))
  refine own_go (fun _ ww => castTop (ef_value1 m a) ww) ?_
  show own_Goes _ _ _ _ _ _ _ (s₁.setTop (mkF m 0 #[.val (.ref a)] []))
  refine own_go (fun _ ww => XS.aloadN X0.here hx rfl (hb hby d2_0) rfl rfl ww) ?_
  show own_Goes _ _ _ _ _ _ _ (s₁.setTop (mkF m 1 #[.val (.ref a)] [(.ref a)]))
  obtain ⟨T2, X2, e2, st2⟩ := getF X0 hx hZ hown (host := "") (Or.inl (hw _ (List.mem_of_getElem? (i := 14) rfl))) Via.refl e0 F_a (g := (mkF m 1 #[.val (.ref a)] [(.ref a)])) rfl rfl (hb hby d2_1)
  refine own_go st2 ?_
  show own_Goes _ _ _ _ _ _ _ (T2.setTop (mkF m 4 #[.val (.ref a)] [(.int (1 : Int32))]))
  exact own_out X2 hlk (v := some (.int (1 : Int32))) (fun h => by rw [hret] at h; cases h) (fun fs hr => retOut X2 hx (t := .boolean) hret (by decide) (Or.inl ⟨rfl, by simp, _, rfl⟩) (hb hby d2_4) hr) e2 ⟨rfl, N0, rfl⟩ (by decide) (by decide)
theorem d1_10 : decode prog_125_method_1_code 10 = .ok (.getstatic 7, 3) := by decide +kernel
theorem ef_of0 (m : MethodId) (a : Addr) : entryFrame m #[(.int (0 : Int32))] 1 = mkF m 0 #[.val (.int (0 : Int32))] [] := by first | (simp [entryFrame, mkF, argsToLocals, Value.category]; done) | rfl
def Q_of0 (Z : State) (a : Addr) (h0 : Heap) (n0 : Nat) (v : Option Value) (h : Heap) (L : List Loc) : Prop := v = some (.ref a) ∧ Fr n0 L ∧ h = h0
set_option maxRecDepth 65536 in
set_option maxHeartbeats 40000000 in
theorem rm_of0 (l : Launch) (Z : State) (a0 : Array Value) (hw : ∀ d ∈ tables_1, d.before a0 Z = true) (ws : List Jvm.Cond) (a : Addr) (h0 : Heap) (n0 : Nat) (O0 : Old Z n0 h0) (S_FALSE : Sta Z Z.heap "com/example/navlint/navlint/model/Value" "FALSE" "Lcom/example/navlint/navlint/model/Value;" (.ref a)) :
    MetFree l (⟨"com/example/navlint/navlint/model/Value", "of", "(Z)Lcom/example/navlint/navlint/model/Value;"⟩ : MethodName) (head1 (Jvm.Cond.code (⟨"com/example/navlint/navlint/model/Value", "of", "(Z)Lcom/example/navlint/navlint/model/Value;"⟩ : MethodName) prog_125_method_1_code 1 (some (.object "com/example/navlint/navlint/model/Value")) :: ws) ({ frames := 0, cells := 0, slots := 0, locals := 0 } : Room)) (fun av_ U => av_ = #[(.int (0 : Int32))] ∧ Z.Warmed39 U.vm ∧ U.heap = h0) (fun _ _ _ _ _ => True) (fun _ U o_ U' => ∃ v L, o_ = .returned v ∧ Q_of0 Z a h0 n0 v U'.heap L ∧ FrameEnd U o_ U' L ({ frames := 0, cells := 0, slots := 0, locals := 0 } : Room).cells ({ frames := 0, cells := 0, slots := 0, locals := 0 } : Room).slots) := by
  refine MetFree.of_bodySF (plainFor_of_name pn_0) hisR ?_
  intro p e s m args below meth c s₁ Bd hml0 hP hK
  obtain ⟨rfl, hZ, hh⟩ := hP
  have hx := Bd.exec
  have hby := Bd.bytes
  have hml : c.maxLocals = 1 := hml0
  have hown : s.vm.findClass "com/example/navlint/navlint/model/Value" = some m.cls := findClass_of_methodNamed Bd.named
  have hnm := (name_of_methodNamed Bd.named Bd.method).1
  have hlk := own_lk Bd
  have hret := Bd.returns
  have X0 : Stand p l e ({ frames := 0, cells := 0, slots := 0, locals := 0 } : Room) s m #[(.int (0 : Int32))] below meth c s₁ [] 0 0 := Stand.of_body Bd
  have e0 : s₁.heap = h0 := by rw [← hh, Bd.state]; rfl
  have N0 := Fr.nil n0
  show own_Goes p e below s (Q_of0 Z a h0 n0) ({ frames := 0, cells := 0, slots := 0, locals := 0 } : Room).cells ({ frames := 0, cells := 0, slots := 0, locals := 0 } : Room).slots (s₁.setTop (entryFrame m #[(.int (0 : Int32))] 1))
  refine own_go (fun _ ww => castTop (ef_of0 m a) ww) ?_
  show own_Goes _ _ _ _ _ _ _ (s₁.setTop (mkF m 0 #[.val (.int (0 : Int32))] []))
  refine own_go (fun _ ww => XS.iloadN X0.here hx rfl (hb hby d1_0) rfl  ww) ?_
  show own_Goes _ _ _ _ _ _ _ (s₁.setTop (mkF m 1 #[.val (.int (0 : Int32))] [(.int (0 : Int32))]))
  refine own_go (fun _ ww => XS.ifYes X0.here hx rfl (pc0 := 1) (pc' := 10) rfl (hb hby d1_1) rfl (own_if .eq (teq (by decide : (0 : Int32) = (0 : Int32))).1) (by decide) (by decide) ww) ?_
  show own_Goes _ _ _ _ _ _ _ (s₁.setTop (mkF m 10 #[.val (.int (0 : Int32))] []))
  obtain ⟨T3, X3, e3, st3⟩ := getS X0 hx hZ hown (host := "") (hw _ (List.mem_of_getElem? (i := 4) rfl)) Via.refl e0 (S_FALSE.ext O0.2) (g := (mkF m 10 #[.val (.int (0 : Int32))] [])) rfl (hb hby d1_10)
  refine own_go st3 ?_
  show own_Goes _ _ _ _ _ _ _ (T3.setTop (mkF m 13 #[.val (.int (0 : Int32))] [(.ref a)]))
  exact own_out X3 hlk (v := some (.ref a)) (fun h => by rw [hret] at h; cases h) (fun fs hr => retOut X3 hx (t := (.object "com/example/navlint/navlint/model/Value")) hret rfl (Or.inr (Or.inr (Or.inr (Or.inr ⟨rfl, rfl, rfl⟩)))) (hb hby d1_13) hr) e3 ⟨rfl, N0, rfl⟩ (by decide) (by decide)
theorem ef_value0 (m : MethodId) (a : Addr) : entryFrame m #[(.ref a)] 1 = mkF m 0 #[.val (.ref a)] [] := by first | (simp [entryFrame, mkF, argsToLocals, Value.category]; done) | rfl
def Q_value0 (Z : State) (a : Addr) (h0 : Heap) (n0 : Nat) (v : Option Value) (h : Heap) (L : List Loc) : Prop := v = some (.int (0 : Int32)) ∧ Fr n0 L ∧ h = h0
set_option maxRecDepth 65536 in
set_option maxHeartbeats 40000000 in
theorem rm_value0 (l : Launch) (Z : State) (a0 : Array Value) (hw : ∀ d ∈ tables_1, d.before a0 Z = true) (ws : List Jvm.Cond) (a : Addr) (h0 : Heap) (n0 : Nat) (O0 : Old Z n0 h0) (F_a : Fld Z h0 a "com/example/navlint/navlint/model/Value$BooleanValue" "value" "Z" (.int (0 : Int32))) :
    MetFree l (⟨"com/example/navlint/navlint/model/Value$BooleanValue", "value", "()Z"⟩ : MethodName) (head1 (Jvm.Cond.code (⟨"com/example/navlint/navlint/model/Value$BooleanValue", "value", "()Z"⟩ : MethodName) prog_126_method_5_code 1 (some .boolean) :: ws) ({ frames := 0, cells := 0, slots := 0, locals := 0 } : Room)) (fun av_ U => av_ = #[(.ref a)] ∧ Z.Warmed39 U.vm ∧ U.heap = h0) (fun _ _ _ _ _ => True) (fun _ U o_ U' => ∃ v L, o_ = .returned v ∧ Q_value0 Z a h0 n0 v U'.heap L ∧ FrameEnd U o_ U' L ({ frames := 0, cells := 0, slots := 0, locals := 0 } : Room).cells ({ frames := 0, cells := 0, slots := 0, locals := 0 } : Room).slots) := by
  refine MetFree.of_bodySF (plainFor_of_name pn_1) hisR ?_
  intro p e s m args below meth c s₁ Bd hml0 hP hK
  obtain ⟨rfl, hZ, hh⟩ := hP
  have hx := Bd.exec
  have hby := Bd.bytes
  have hml : c.maxLocals = 1 := hml0
  have hown : s.vm.findClass "com/example/navlint/navlint/model/Value$BooleanValue" = some m.cls := findClass_of_methodNamed Bd.named
  have hnm := (name_of_methodNamed Bd.named Bd.method).1
  have hlk := own_lk Bd
  have hret := Bd.returns
  have X0 : Stand p l e ({ frames := 0, cells := 0, slots := 0, locals := 0 } : Room) s m #[(.ref a)] below meth c s₁ [] 0 0 := Stand.of_body Bd
  have e0 : s₁.heap = h0 := by rw [← hh, Bd.state]; rfl
  have N0 := Fr.nil n0
  show own_Goes p e below s (Q_value0 Z a h0 n0) ({ frames := 0, cells := 0, slots := 0, locals := 0 } : Room).cells ({ frames := 0, cells := 0, slots := 0, locals := 0 } : Room).slots (s₁.setTop (entryFrame m #[(.ref a)] 1))
  refine own_go (fun _ ww => castTop (ef_value0 m a) ww) ?_
  show own_Goes _ _ _ _ _ _ _ (s₁.setTop (mkF m 0 #[.val (.ref a)] []))
  refine own_go (fun _ ww => XS.aloadN X0.here hx rfl (hb hby d2_0) rfl rfl ww) ?_
  show own_Goes _ _ _ _ _ _ _ (s₁.setTop (mkF m 1 #[.val (.ref a)] [(.ref a)]))
  obtain ⟨T4, X4, e4, st4⟩ := getF X0 hx hZ hown (host := "") (Or.inl (hw _ (List.mem_of_getElem? (i := 14) rfl))) Via.refl e0 F_a (g := (mkF m 1 #[.val (.ref a)] [(.ref a)])) rfl rfl (hb hby d2_1)
  refine own_go st4 ?_
  show own_Goes _ _ _ _ _ _ _ (T4.setTop (mkF m 4 #[.val (.ref a)] [(.int (0 : Int32))]))
  exact own_out X4 hlk (v := some (.int (0 : Int32))) (fun h => by rw [hret] at h; cases h) (fun fs hr => retOut X4 hx (t := .boolean) hret (by decide) (Or.inl ⟨rfl, by simp, _, rfl⟩) (hb hby d2_4) hr) e4 ⟨rfl, N0, rfl⟩ (by decide) (by decide)
theorem ef_law (m : MethodId) (x0 : Int32) (aT : Addr) (aF : Addr) : entryFrame m #[(.int x0)] maxLocals = mkF m 0 #[.val (.int x0), .unset, .unset, .unset] [] := by first | (simp [entryFrame, mkF, argsToLocals, Value.category, maxLocals]; done) | rfl
def Q_law (Z : State) (x0 : Int32) (aT : Addr) (aF : Addr) (h0 : Heap) (n0 : Nat) (v : Option Value) (h : Heap) (L : List Loc) : Prop := v = some (.int 1) ∧ Fr n0 L
set_option maxRecDepth 65536 in
set_option maxHeartbeats 40000000 in
theorem rm_law (l : Launch) (Z : State) (a0 : Array Value) (hw : ∀ d ∈ tables_1, d.before a0 Z = true) (ws : List Jvm.Cond) (x0 : Int32) (aT : Addr) (aF : Addr) (h0 : Heap) (n0 : Nat) (O0 : Old Z n0 h0) (S_TRUE : Sta Z Z.heap "com/example/navlint/navlint/model/Value" "TRUE" "Lcom/example/navlint/navlint/model/Value;" (.ref aT)) (S_FALSE : Sta Z Z.heap "com/example/navlint/navlint/model/Value" "FALSE" "Lcom/example/navlint/navlint/model/Value;" (.ref aF)) (E_T : Exa Z Z.heap aT "com/example/navlint/navlint/model/Value$BooleanValue") (E_F : Exa Z Z.heap aF "com/example/navlint/navlint/model/Value$BooleanValue") (F_T : Fld Z Z.heap aT "com/example/navlint/navlint/model/Value$BooleanValue" "value" "Z" (.int (1 : Int32))) (F_F : Fld Z Z.heap aF "com/example/navlint/navlint/model/Value$BooleanValue" "value" "Z" (.int (0 : Int32))) :
    MetFree l x (head1 (Jvm.Cond.code x code maxLocals ret :: ws) room_1) (fun av_ U => av_ = #[(.int x0)] ∧ Z.Warmed39 U.vm ∧ U.heap = h0) (fun _ _ _ _ _ => True) (fun _ U o_ U' => ∃ v L, o_ = .returned v ∧ Q_law Z x0 aT aF h0 n0 v U'.heap L ∧ FrameEnd U o_ U' L room_1.cells room_1.slots) := by
  refine MetFree.of_bodySF (plainFor_of_name pn_2) hisR ?_
  intro p e s m args below meth c s₁ Bd hml0 hP hK
  obtain ⟨rfl, hZ, hh⟩ := hP
  have hx := Bd.exec
  have hby := Bd.bytes
  have hml : c.maxLocals = 4 := hml0
  have hown : s.vm.findClass "com/example/navlint/navlint/model/ValueOfPinLaw" = some m.cls := findClass_of_methodNamed Bd.named
  have hnm := (name_of_methodNamed Bd.named Bd.method).1
  have hlk := own_lk Bd
  have hret := Bd.returns
  have X0 : Stand p l e room_1 s m #[(.int x0)] below meth c s₁ [] 0 0 := Stand.of_body Bd
  have e0 : s₁.heap = h0 := by rw [← hh, Bd.state]; rfl
  have N0 := Fr.nil n0
  show own_Goes p e below s (Q_law Z x0 aT aF h0 n0) room_1.cells room_1.slots (s₁.setTop (entryFrame m #[(.int x0)] maxLocals))
  refine own_go (fun _ ww => castTop (ef_law m x0 aT aF) ww) ?_
  show own_Goes _ _ _ _ _ _ _ (s₁.setTop (mkF m 0 #[.val (.int x0), .unset, .unset, .unset] []))
  refine own_go (fun _ ww => XS.iloadN X0.here hx rfl (hb hby at_0) rfl  ww) ?_
  show own_Goes _ _ _ _ _ _ _ (s₁.setTop (mkF m 1 #[.val (.int x0), .unset, .unset, .unset] [(.int x0)]))
  refine own_go (fun _ ww => XS.iconst X0.here hx rfl (hb hby at_1) ww) ?_
  show own_Goes _ _ _ _ _ _ _ (s₁.setTop (mkF m 2 #[.val (.int x0), .unset, .unset, .unset] [(.int (1 : Int32)), (.int x0)]))
  refine own_go (fun _ ww => XS.iand X0.here hx rfl (hb hby at_2) rfl ww) ?_
  show own_Goes _ _ _ _ _ _ _ (s₁.setTop (mkF m 3 #[.val (.int x0), .unset, .unset, .unset] [(.int (x0 &&& (1 : Int32)))]))
  by_cases hc5 : (x0 &&& (1 : Int32)) = (0 : Int32)
  ·
    refine own_go (fun _ ww => XS.ifYes X0.here hx rfl (pc0 := 3) (pc' := 10) rfl (hb hby at_3) rfl (own_if .eq (teq hc5).1) (by decide) (by decide) ww) ?_
    show own_Goes _ _ _ _ _ _ _ (s₁.setTop (mkF m 10 #[.val (.int x0), .unset, .unset, .unset] []))
    refine own_go (fun _ ww => XS.iconst X0.here hx rfl (hb hby at_10) ww) ?_
    show own_Goes _ _ _ _ _ _ _ (s₁.setTop (mkF m 11 #[.val (.int x0), .unset, .unset, .unset] [(.int (0 : Int32))]))
    refine own_go (fun _ ww => XS.istoreN X0.here hx rfl (hb hby at_11) rfl (l' := #[.val (.int x0), .val (.int (0 : Int32)), .unset, .unset]) rfl ww) ?_
    show own_Goes _ _ _ _ _ _ _ (s₁.setTop (mkF m 12 #[.val (.int x0), .val (.int (0 : Int32)), .unset, .unset] []))
    refine own_go (fun _ ww => XS.iloadN X0.here hx rfl (hb hby at_12) rfl  ww) ?_
    show own_Goes _ _ _ _ _ _ _ (s₁.setTop (mkF m 13 #[.val (.int x0), .val (.int (0 : Int32)), .unset, .unset] [(.int (0 : Int32))]))
    obtain ⟨_, _, ⟨T6, L6, k6, n6⟩, -, X6, ⟨Lc6, hQ6, l6, y6, z6⟩, st6⟩ := Jvm.LawKit.callS X0 hx (y := (⟨"com/example/navlint/navlint/model/Value", "of", "(Z)Lcom/example/navlint/navlint/model/Value;"⟩ : MethodName)) hown (mvT hZ (hw _ (List.mem_of_getElem? (i := 0) rfl))) (mvT hZ (hw _ (List.mem_of_getElem? (i := 1) rfl))) (mvT hZ (hw _ (List.mem_of_getElem? (i := 2) rfl))) (mvT hZ (hw _ (List.mem_of_getElem? (i := 3) rfl))) (by decide) (backOf (W := 0) (rm_of0 l Z a0 hw [] aF h0 n0 O0 S_FALSE) hZ (hw _ (List.mem_of_getElem? (i := 3) rfl)) (hw _ (List.mem_of_getElem? (i := 2) rfl)) (by decide) (by decide)) (g := (mkF m 13 #[.val (.int x0), .val (.int (0 : Int32)), .unset, .unset] [(.int (0 : Int32))])) rfl (by rw [hml]; rfl) (argsL := [(.int (0 : Int32))]) (rest := []) (lenOf pd_0 rfl) rfl (by show 2 * 0 + _ ≤ _; exact Nat.le_of_eq rfl) (hb hby at_13) (fun _ _ => ⟨rfl, e0, (by decide : 0 + 0 ≤ _), (by decide : 0 + 0 ≤ _)⟩)
    dsimp only [Pt.U, Pt.locs, Pt.cells, Pt.slots] at X6 l6 y6 z6 st6 hQ6
    subst l6 y6 z6
    obtain ⟨rfl, N6q, e6⟩ := hQ6
    have N6 := Fr.app N0 N6q
    refine own_go st6 ?_
    show own_Goes _ _ _ _ _ _ _ (T6.setTop (mkF m 16 #[.val (.int x0), .val (.int (0 : Int32)), .unset, .unset] [(.ref aF)]))
    refine own_go (fun _ ww => XS.astoreN X6.here hx rfl (hb hby at_16) rfl rfl (l' := #[.val (.int x0), .val (.int (0 : Int32)), .val (.ref aF), .unset]) rfl ww) ?_
    show own_Goes _ _ _ _ _ _ _ (T6.setTop (mkF m 17 #[.val (.int x0), .val (.int (0 : Int32)), .val (.ref aF), .unset] []))
    refine own_go (fun _ ww => XS.aloadN X6.here hx rfl (hb hby at_17) rfl rfl ww) ?_
    show own_Goes _ _ _ _ _ _ _ (T6.setTop (mkF m 18 #[.val (.int x0), .val (.int (0 : Int32)), .val (.ref aF), .unset] [(.ref aF)]))
    obtain ⟨T7, X7, e7, st7⟩ := instY X6 hx hZ hown (hw _ (List.mem_of_getElem? (i := 6) rfl)) e6 (Ins.self (E_F.ext O0.2)) (g := (mkF m 18 #[.val (.int x0), .val (.int (0 : Int32)), .val (.ref aF), .unset] [(.ref aF)])) rfl rfl (hb hby at_18)
    refine own_go st7 ?_
    show own_Goes _ _ _ _ _ _ _ (T7.setTop (mkF m 21 #[.val (.int x0), .val (.int (0 : Int32)), .val (.ref aF), .unset] [(.int (1 : Int32))]))
    refine own_go (fun _ ww => XS.ifYes X7.here hx rfl (pc0 := 21) (pc' := 26) rfl (hb hby at_21) rfl (own_if .ne (feq (by decide : ¬ ((1 : Int32) = (0 : Int32)))).2) (by decide) (by decide) ww) ?_
    show own_Goes _ _ _ _ _ _ _ (T7.setTop (mkF m 26 #[.val (.int x0), .val (.int (0 : Int32)), .val (.ref aF), .unset] []))
    refine own_go (fun _ ww => XS.aloadN X7.here hx rfl (hb hby at_26) rfl rfl ww) ?_
    show own_Goes _ _ _ _ _ _ _ (T7.setTop (mkF m 27 #[.val (.int x0), .val (.int (0 : Int32)), .val (.ref aF), .unset] [(.ref aF)]))
    obtain ⟨T8, X8, e8, st8⟩ := castY X7 hx hZ hown (hw _ (List.mem_of_getElem? (i := 6) rfl)) e7 (Ins.self (E_F.ext O0.2)) (g := (mkF m 27 #[.val (.int x0), .val (.int (0 : Int32)), .val (.ref aF), .unset] [(.ref aF)])) rfl rfl (hb hby at_27)
    refine own_go st8 ?_
    show own_Goes _ _ _ _ _ _ _ (T8.setTop (mkF m 30 #[.val (.int x0), .val (.int (0 : Int32)), .val (.ref aF), .unset] [(.ref aF)]))
    refine own_go (fun _ ww => XS.astoreN X8.here hx rfl (hb hby at_30) rfl rfl (l' := #[.val (.int x0), .val (.int (0 : Int32)), .val (.ref aF), .val (.ref aF)]) rfl ww) ?_
    show own_Goes _ _ _ _ _ _ _ (T8.setTop (mkF m 31 #[.val (.int x0), .val (.int (0 : Int32)), .val (.ref aF), .val (.ref aF)] []))
    refine own_go (fun _ ww => XS.aloadN X8.here hx rfl (hb hby at_31) rfl rfl ww) ?_
    show own_Goes _ _ _ _ _ _ _ (T8.setTop (mkF m 32 #[.val (.int x0), .val (.int (0 : Int32)), .val (.ref aF), .val (.ref aF)] [(.ref aF)]))
    obtain ⟨cq9, kq9, q9a, q9b, q9c⟩ := isOf hZ e8 (E_F.ext O0.2)
    obtain ⟨_, _, ⟨T9, L9, k9, n9⟩, -, X9, ⟨Lc9, hQ9, l9, y9, z9⟩, st9⟩ := X8.virtualBack hx (y := (⟨"com/example/navlint/navlint/model/Value$BooleanValue", "value", "()Z"⟩ : MethodName)) (z := (⟨"com/example/navlint/navlint/model/Value$BooleanValue", "value", "()Z"⟩ : MethodName)) hown (mvT hZ (hw _ (List.mem_of_getElem? (i := 8) rfl))) (mvT hZ (hw _ (List.mem_of_getElem? (i := 9) rfl))) (notFace_of_selects (args := #[]) (mvT hZ (hw _ (List.mem_of_getElem? (i := 11) rfl)))) (mvT hZ (hw _ (List.mem_of_getElem? (i := 11) rfl))) (mvT hZ (hw _ (List.mem_of_getElem? (i := 10) rfl))) (by decide) (backOf (W := 0) (rm_value0 l Z a0 hw [] aF h0 n0 O0 (F_F.ext O0.2)) hZ (hw _ (List.mem_of_getElem? (i := 13) rfl)) (hw _ (List.mem_of_getElem? (i := 12) rfl)) (by decide) (by decide)) q9a q9c (g := (mkF m 32 #[.val (.int x0), .val (.int (0 : Int32)), .val (.ref aF), .val (.ref aF)] [(.ref aF)])) rfl (by rw [hml]; rfl) (Steps.refl _) (argsL := []) (rest := []) (lenOf pd_1 rfl) rfl (by show 2 * 0 + _ ≤ _; exact Nat.le_of_eq rfl) (hb hby at_32) (fun _ _ => ⟨rfl, e8, (by decide : 0 + 0 ≤ _), (by decide : 0 + 0 ≤ _)⟩)
    dsimp only [Pt.U, Pt.locs, Pt.cells, Pt.slots] at X9 l9 y9 z9 st9 hQ9
    subst l9 y9 z9
    obtain ⟨rfl, N9q, e9⟩ := hQ9
    have N9 := Fr.app N6 N9q
    refine own_go (fun _ ww => Steps.trans st9 ww) ?_
    show own_Goes _ _ _ _ _ _ _ (T9.setTop (mkF m 35 #[.val (.int x0), .val (.int (0 : Int32)), .val (.ref aF), .val (.ref aF)] [(.int (0 : Int32))]))
    refine own_go (fun _ ww => XS.iloadN X9.here hx rfl (hb hby at_35) rfl  ww) ?_
    show own_Goes _ _ _ _ _ _ _ (T9.setTop (mkF m 36 #[.val (.int x0), .val (.int (0 : Int32)), .val (.ref aF), .val (.ref aF)] [(.int (0 : Int32)), (.int (0 : Int32))]))
    refine own_go (fun _ ww => XS.icmpNo X9.here hx rfl (hb hby at_36) rfl (teq (by decide : (0 : Int32) = (0 : Int32))).2 ww) ?_
    show own_Goes _ _ _ _ _ _ _ (T9.setTop (mkF m 39 #[.val (.int x0), .val (.int (0 : Int32)), .val (.ref aF), .val (.ref aF)] []))
    refine own_go (fun _ ww => XS.iconst X9.here hx rfl (hb hby at_39) ww) ?_
    show own_Goes _ _ _ _ _ _ _ (T9.setTop (mkF m 40 #[.val (.int x0), .val (.int (0 : Int32)), .val (.ref aF), .val (.ref aF)] [(.int (1 : Int32))]))
    refine own_go (fun _ ww => XS.goto X9.here hx rfl (pc0 := 40) (pc' := 44) rfl (hb hby at_40) (by decide) (by decide) ww) ?_
    show own_Goes _ _ _ _ _ _ _ (T9.setTop (mkF m 44 #[.val (.int x0), .val (.int (0 : Int32)), .val (.ref aF), .val (.ref aF)] [(.int (1 : Int32))]))
    exact own_out X9 hlk (v := some (.int (1 : Int32))) (fun h => by rw [hret] at h; cases h) (fun fs hr => retOut X9 hx (t := .boolean) hret (by decide) (Or.inl ⟨rfl, by simp, _, rfl⟩) (hb hby at_44) hr) e9 ⟨rfl, N9⟩ (by decide) (by decide)
  ·
    refine own_go (fun _ ww => XS.ifNo X0.here hx rfl (hb hby at_3) rfl (own_if .eq (feq hc5).1) ww) ?_
    show own_Goes _ _ _ _ _ _ _ (s₁.setTop (mkF m 6 #[.val (.int x0), .unset, .unset, .unset] []))
    refine own_go (fun _ ww => XS.iconst X0.here hx rfl (hb hby at_6) ww) ?_
    show own_Goes _ _ _ _ _ _ _ (s₁.setTop (mkF m 7 #[.val (.int x0), .unset, .unset, .unset] [(.int (1 : Int32))]))
    refine own_go (fun _ ww => XS.goto X0.here hx rfl (pc0 := 7) (pc' := 11) rfl (hb hby at_7) (by decide) (by decide) ww) ?_
    show own_Goes _ _ _ _ _ _ _ (s₁.setTop (mkF m 11 #[.val (.int x0), .unset, .unset, .unset] [(.int (1 : Int32))]))
    refine own_go (fun _ ww => XS.istoreN X0.here hx rfl (hb hby at_11) rfl (l' := #[.val (.int x0), .val (.int (1 : Int32)), .unset, .unset]) rfl ww) ?_
    show own_Goes _ _ _ _ _ _ _ (s₁.setTop (mkF m 12 #[.val (.int x0), .val (.int (1 : Int32)), .unset, .unset] []))
    refine own_go (fun _ ww => XS.iloadN X0.here hx rfl (hb hby at_12) rfl  ww) ?_
    show own_Goes _ _ _ _ _ _ _ (s₁.setTop (mkF m 13 #[.val (.int x0), .val (.int (1 : Int32)), .unset, .unset] [(.int (1 : Int32))]))
    obtain ⟨_, _, ⟨T10, L10, k10, n10⟩, -, X10, ⟨Lc10, hQ10, l10, y10, z10⟩, st10⟩ := Jvm.LawKit.callS X0 hx (y := (⟨"com/example/navlint/navlint/model/Value", "of", "(Z)Lcom/example/navlint/navlint/model/Value;"⟩ : MethodName)) hown (mvT hZ (hw _ (List.mem_of_getElem? (i := 0) rfl))) (mvT hZ (hw _ (List.mem_of_getElem? (i := 1) rfl))) (mvT hZ (hw _ (List.mem_of_getElem? (i := 2) rfl))) (mvT hZ (hw _ (List.mem_of_getElem? (i := 3) rfl))) (by decide) (backOf (W := 0) (rm_of1 l Z a0 hw [] aT h0 n0 O0 S_TRUE) hZ (hw _ (List.mem_of_getElem? (i := 3) rfl)) (hw _ (List.mem_of_getElem? (i := 2) rfl)) (by decide) (by decide)) (g := (mkF m 13 #[.val (.int x0), .val (.int (1 : Int32)), .unset, .unset] [(.int (1 : Int32))])) rfl (by rw [hml]; rfl) (argsL := [(.int (1 : Int32))]) (rest := []) (lenOf pd_0 rfl) rfl (by show 2 * 0 + _ ≤ _; exact Nat.le_of_eq rfl) (hb hby at_13) (fun _ _ => ⟨rfl, e0, (by decide : 0 + 0 ≤ _), (by decide : 0 + 0 ≤ _)⟩)
    dsimp only [Pt.U, Pt.locs, Pt.cells, Pt.slots] at X10 l10 y10 z10 st10 hQ10
    subst l10 y10 z10
    obtain ⟨rfl, N10q, e10⟩ := hQ10
    have N10 := Fr.app N0 N10q
    refine own_go st10 ?_
    show own_Goes _ _ _ _ _ _ _ (T10.setTop (mkF m 16 #[.val (.int x0), .val (.int (1 : Int32)), .unset, .unset] [(.ref aT)]))
    refine own_go (fun _ ww => XS.astoreN X10.here hx rfl (hb hby at_16) rfl rfl (l' := #[.val (.int x0), .val (.int (1 : Int32)), .val (.ref aT), .unset]) rfl ww) ?_
    show own_Goes _ _ _ _ _ _ _ (T10.setTop (mkF m 17 #[.val (.int x0), .val (.int (1 : Int32)), .val (.ref aT), .unset] []))
    refine own_go (fun _ ww => XS.aloadN X10.here hx rfl (hb hby at_17) rfl rfl ww) ?_
    show own_Goes _ _ _ _ _ _ _ (T10.setTop (mkF m 18 #[.val (.int x0), .val (.int (1 : Int32)), .val (.ref aT), .unset] [(.ref aT)]))
    obtain ⟨T11, X11, e11, st11⟩ := instY X10 hx hZ hown (hw _ (List.mem_of_getElem? (i := 6) rfl)) e10 (Ins.self (E_T.ext O0.2)) (g := (mkF m 18 #[.val (.int x0), .val (.int (1 : Int32)), .val (.ref aT), .unset] [(.ref aT)])) rfl rfl (hb hby at_18)
    refine own_go st11 ?_
    show own_Goes _ _ _ _ _ _ _ (T11.setTop (mkF m 21 #[.val (.int x0), .val (.int (1 : Int32)), .val (.ref aT), .unset] [(.int (1 : Int32))]))
    refine own_go (fun _ ww => XS.ifYes X11.here hx rfl (pc0 := 21) (pc' := 26) rfl (hb hby at_21) rfl (own_if .ne (feq (by decide : ¬ ((1 : Int32) = (0 : Int32)))).2) (by decide) (by decide) ww) ?_
    show own_Goes _ _ _ _ _ _ _ (T11.setTop (mkF m 26 #[.val (.int x0), .val (.int (1 : Int32)), .val (.ref aT), .unset] []))
    refine own_go (fun _ ww => XS.aloadN X11.here hx rfl (hb hby at_26) rfl rfl ww) ?_
    show own_Goes _ _ _ _ _ _ _ (T11.setTop (mkF m 27 #[.val (.int x0), .val (.int (1 : Int32)), .val (.ref aT), .unset] [(.ref aT)]))
    obtain ⟨T12, X12, e12, st12⟩ := castY X11 hx hZ hown (hw _ (List.mem_of_getElem? (i := 6) rfl)) e11 (Ins.self (E_T.ext O0.2)) (g := (mkF m 27 #[.val (.int x0), .val (.int (1 : Int32)), .val (.ref aT), .unset] [(.ref aT)])) rfl rfl (hb hby at_27)
    refine own_go st12 ?_
    show own_Goes _ _ _ _ _ _ _ (T12.setTop (mkF m 30 #[.val (.int x0), .val (.int (1 : Int32)), .val (.ref aT), .unset] [(.ref aT)]))
    refine own_go (fun _ ww => XS.astoreN X12.here hx rfl (hb hby at_30) rfl rfl (l' := #[.val (.int x0), .val (.int (1 : Int32)), .val (.ref aT), .val (.ref aT)]) rfl ww) ?_
    show own_Goes _ _ _ _ _ _ _ (T12.setTop (mkF m 31 #[.val (.int x0), .val (.int (1 : Int32)), .val (.ref aT), .val (.ref aT)] []))
    refine own_go (fun _ ww => XS.aloadN X12.here hx rfl (hb hby at_31) rfl rfl ww) ?_
    show own_Goes _ _ _ _ _ _ _ (T12.setTop (mkF m 32 #[.val (.int x0), .val (.int (1 : Int32)), .val (.ref aT), .val (.ref aT)] [(.ref aT)]))
    obtain ⟨cq13, kq13, q13a, q13b, q13c⟩ := isOf hZ e12 (E_T.ext O0.2)
    obtain ⟨_, _, ⟨T13, L13, k13, n13⟩, -, X13, ⟨Lc13, hQ13, l13, y13, z13⟩, st13⟩ := X12.virtualBack hx (y := (⟨"com/example/navlint/navlint/model/Value$BooleanValue", "value", "()Z"⟩ : MethodName)) (z := (⟨"com/example/navlint/navlint/model/Value$BooleanValue", "value", "()Z"⟩ : MethodName)) hown (mvT hZ (hw _ (List.mem_of_getElem? (i := 8) rfl))) (mvT hZ (hw _ (List.mem_of_getElem? (i := 9) rfl))) (notFace_of_selects (args := #[]) (mvT hZ (hw _ (List.mem_of_getElem? (i := 11) rfl)))) (mvT hZ (hw _ (List.mem_of_getElem? (i := 11) rfl))) (mvT hZ (hw _ (List.mem_of_getElem? (i := 10) rfl))) (by decide) (backOf (W := 0) (rm_value1 l Z a0 hw [] aT h0 n0 O0 (F_T.ext O0.2)) hZ (hw _ (List.mem_of_getElem? (i := 13) rfl)) (hw _ (List.mem_of_getElem? (i := 12) rfl)) (by decide) (by decide)) q13a q13c (g := (mkF m 32 #[.val (.int x0), .val (.int (1 : Int32)), .val (.ref aT), .val (.ref aT)] [(.ref aT)])) rfl (by rw [hml]; rfl) (Steps.refl _) (argsL := []) (rest := []) (lenOf pd_1 rfl) rfl (by show 2 * 0 + _ ≤ _; exact Nat.le_of_eq rfl) (hb hby at_32) (fun _ _ => ⟨rfl, e12, (by decide : 0 + 0 ≤ _), (by decide : 0 + 0 ≤ _)⟩)
    dsimp only [Pt.U, Pt.locs, Pt.cells, Pt.slots] at X13 l13 y13 z13 st13 hQ13
    subst l13 y13 z13
    obtain ⟨rfl, N13q, e13⟩ := hQ13
    have N13 := Fr.app N10 N13q
    refine own_go (fun _ ww => Steps.trans st13 ww) ?_
    show own_Goes _ _ _ _ _ _ _ (T13.setTop (mkF m 35 #[.val (.int x0), .val (.int (1 : Int32)), .val (.ref aT), .val (.ref aT)] [(.int (1 : Int32))]))
    refine own_go (fun _ ww => XS.iloadN X13.here hx rfl (hb hby at_35) rfl  ww) ?_
    show own_Goes _ _ _ _ _ _ _ (T13.setTop (mkF m 36 #[.val (.int x0), .val (.int (1 : Int32)), .val (.ref aT), .val (.ref aT)] [(.int (1 : Int32)), (.int (1 : Int32))]))
    refine own_go (fun _ ww => XS.icmpNo X13.here hx rfl (hb hby at_36) rfl (teq (by decide : (1 : Int32) = (1 : Int32))).2 ww) ?_
    show own_Goes _ _ _ _ _ _ _ (T13.setTop (mkF m 39 #[.val (.int x0), .val (.int (1 : Int32)), .val (.ref aT), .val (.ref aT)] []))
    refine own_go (fun _ ww => XS.iconst X13.here hx rfl (hb hby at_39) ww) ?_
    show own_Goes _ _ _ _ _ _ _ (T13.setTop (mkF m 40 #[.val (.int x0), .val (.int (1 : Int32)), .val (.ref aT), .val (.ref aT)] [(.int (1 : Int32))]))
    refine own_go (fun _ ww => XS.goto X13.here hx rfl (pc0 := 40) (pc' := 44) rfl (hb hby at_40) (by decide) (by decide) ww) ?_
    show own_Goes _ _ _ _ _ _ _ (T13.setTop (mkF m 44 #[.val (.int x0), .val (.int (1 : Int32)), .val (.ref aT), .val (.ref aT)] [(.int (1 : Int32))]))
    exact own_out X13 hlk (v := some (.int (1 : Int32))) (fun h => by rw [hret] at h; cases h) (fun fs hr => retOut X13 hx (t := .boolean) hret (by decide) (Or.inl ⟨rfl, by simp, _, rfl⟩) (hb hby at_44) hr) e13 ⟨rfl, N13⟩ (by decide) (by decide)
set_option maxRecDepth 65536 in
set_option maxHeartbeats 40000000 in
theorem comes_1 {Post : Tables → Env → Array Value → State → Outcome → State → Prop} (hpost : ∀ tb e args s v u, (limb_1_1.after args s (.returned v) u = true ∧ limb_1_2.after args s (.returned v) u = true ∧ True) → FrameEnd s (.returned v) u (Jvm.fieldLocs frame_1_writes args s ++ Jvm.arrayLocs frame_1_arrays args s ++ Jvm.staticLocs frame_1_statics s) 0 0 → Post tb e args s (.returned v) u) :
    ArmFor flags0 classFile x code maxLocals ret World_1 tables_1 room_1 Calls_1 rest_1 Pre_1 Post := by
  intro l hfl _ _ p e ha hc hk s m args below hf hA hF happ hP
  obtain ⟨hcalls, hrest, hpre⟩ := hP
  obtain ⟨-, -, -, hnamed, -, -, -, hat⟩ := (Spec.applies_iff hf).mp happ
  obtain ⟨hg, hn⟩ := and_e (Cond.before_iff.mp (show (Jvm.Cond.and given_1 narrow_1).before args s = true from hpre))
  obtain ⟨q1, q2⟩ := and_e hg
  obtain ⟨q3, q4⟩ := and_e hn
  obtain ⟨q5, q6⟩ := and_e q4
  obtain ⟨q7, q8⟩ := and_e q6
  obtain ⟨w0, rfl⟩ : ∃ w0 : Value, args = #[w0] := by
    have hs : args.size = 1 := by simpa [Cond.value, given_1] using q1
    obtain ⟨L⟩ := args
    match L, hs with
    | [w0], _ => exact ⟨w0, rfl⟩
  have hw := fun d (hd : d ∈ tables_1) => atoms_spec (ws := Jvm.Cond.code x code maxLocals ret :: tables_1) hat d (List.mem_cons_of_mem _ hd)
  have hfit : Fit s := fun {y c} hc i hi => by
    obtain ⟨ha, rfl⟩ := Array.getElem?_eq_some_iff.mp hc
    have q := List.all_eq_true.mp ((Array.all_eq_true_iff_forall_mem.mp hF) _ (Array.getElem_mem ha)) i (List.mem_range.mpr hi)
    simpa [Array.getElem?_eq_getElem hi] using q
  obtain ⟨i0, ei0⟩ := is_v q2
  obtain rfl : w0 = (.int i0) := Option.some.inj ei0
  obtain ⟨a_Value_FALSE, ev_Value_FALSE⟩ := exa_v q3
  have E_Value_FALSE : Exa s s.heap a_Value_FALSE "com/example/navlint/navlint/model/Value$BooleanValue" := Exa.start ev_Value_FALSE q3
  have S_Value_FALSE : Sta s s.heap "com/example/navlint/navlint/model/Value" "FALSE" "Lcom/example/navlint/navlint/model/Value;" (.ref a_Value_FALSE) := Sta.start ev_Value_FALSE (Or.inr ⟨(hw _ (List.mem_of_getElem? (i := 2) rfl)), (hw _ (List.mem_of_getElem? (i := 5) rfl))⟩)
  obtain ⟨a_Value_TRUE, ev_Value_TRUE⟩ := exa_v q7
  have E_Value_TRUE : Exa s s.heap a_Value_TRUE "com/example/navlint/navlint/model/Value$BooleanValue" := Exa.start ev_Value_TRUE q7
  have S_Value_TRUE : Sta s s.heap "com/example/navlint/navlint/model/Value" "TRUE" "Lcom/example/navlint/navlint/model/Value;" (.ref a_Value_TRUE) := Sta.start ev_Value_TRUE (Or.inr ⟨(hw _ (List.mem_of_getElem? (i := 2) rfl)), (hw _ (List.mem_of_getElem? (i := 17) rfl))⟩)
  have F_Value_FALSE_value := own_fI ev_Value_FALSE q5
  have F_Value_TRUE_value := own_fI ev_Value_TRUE q8
  obtain ⟨n, o, h1, h2, h3, _, L, rfl, ⟨rfl, N⟩, hq⟩ := rm_law l s _ hw tables_1 i0 a_Value_TRUE a_Value_FALSE s.heap s.heap.size (Old.start s) S_Value_TRUE S_Value_FALSE E_Value_TRUE E_Value_FALSE F_Value_TRUE_value F_Value_FALSE_value p e ha hc hk s m _ below hf ((Spec.applies_iff_loose hf).mp happ).1 ⟨rfl, State.Warmed39.refl s, rfl⟩ trivial
  refine ⟨n, _, h1, h2, h3, hpost _ _ _ _ _ _ ⟨Cond.after_iff.mpr rfl, Cond.after_iff.mpr (eq_i res_at (Term.int_eval (1)) rfl), trivial⟩ ⟨hq.1, hq.2.1, (hq.2.2.sift fun y hy => Or.inr (N y hy)).mono (by decide) (by decide)⟩⟩
theorem main_1_1 : Claimed_1_1 := comes_1 fun _ _ _ _ _ _ h hF => ⟨h.1, hF⟩
theorem main_1_2 : Claimed_1_2 := comes_1 fun _ _ _ _ _ _ h hF => ⟨h.2.1, hF⟩
end Jvm.Pilot.@@N@@
namespace Jvm.Pilot.@@N@@
open Jvm Jvm.ClassFile Sem Op Lib Jvm.Free Jvm.Stand Jvm.Pilot.@@N@@.Jvm.D
/-! MADE BY PROGRAM (witnessworld.py) out of the Statement's table words and the real class files: 11 classes; the members and pool entries that the words name. The judged class is class 1, her method 1. -/
namespace start1
open Jvm.ClassFile
def u (s : String) : CpInfo := .utf8 (stringToUtf16 s)
/-- a pool by its gaps: so many unusable entries, then the entry; so many at the end -/
def gap : Nat → List CpInfo → List CpInfo
  | 0, r => r
  | n + 1, r => .unusable :: gap n r
def poolList (es : List (Nat × CpInfo)) (last : Nat) : List CpInfo := es.foldr (fun e r => gap e.1 (e.2 :: r)) (gap last [])
def pool (es : List (Nat × CpInfo)) (last : Nat) : Array CpInfo := ⟨poolList es last⟩
def fileOf (pool : Array CpInfo) (this : Nat) (attrs : Array Attribute := #[]) (ms : Array MethodInfo := #[]) (fl : Nat := 33) (sup : Nat := 0) (ifs : Array Nat := #[]) (fds : Array FieldInfo := #[]) : ClassFile where
  minorVersion := 0
  majorVersion := 65
  constantPool := pool
  accessFlags := fl
  thisClass := this
  superClass := sup
  interfaces := ifs
  fields := fds
  methods := ms
  attributes := attrs
def plain (name : String) (sup : Option ClassId) : Class where
  name := name
  kind := .ordinary
  loader := none
  accessFlags := 33
  super := sup
  interfaces := #[]
  cf := none
  fields := #[]
  methods := #[]
  instanceTypes := #[]
  staticTypes := #[]
  resolved := #[]
  callSites := []
  init := .initialized
  statics := none
  mirror := none

def pool0 : Array CpInfo := pool [(5, u "<init>"), (0, u "()V"), (1, .class_ 10), (1, u "java/lang/Object")] 113

def k0m0 : Method := { name := "<init>", desc := "()V", sig := { parameters := [], returnType := none }, accessFlags := 1, code := none }
/-- java/lang/Object -/
def k0 : Class := { plain "java/lang/Object" none with
  accessFlags := 33
  interfaces := #[]
  cf := some (fileOf pool0 8 #[] #[{ accessFlags := 1, nameIndex := 5, descriptorIndex := 6, attributes := #[] }] 33 0 #[] #[])
  fields := #[]
  methods := #[k0m0]
  instanceTypes := #[]
  staticTypes := #[]
  resolved := Array.replicate 124 none
  statics := none }

def pool1 : Array CpInfo := pool [(2, .class_ 4), (1, u "java/lang/Object"), (0, u "<init>"), (0, u "()V"), (0, .interfaceMethodref 8 9), (0, .class_ 10), (0, .nameAndType 11 12), (0, u "com/example/navlint/navlint/model/Value"), (0, u "of"), (0, u "(Z)Lcom/example/navlint/navlint/model/Value;"), (0, .class_ 14), (0, u "com/example/navlint/navlint/model/Value$BooleanValue"), (0, .methodref 13 16), (0, .nameAndType 17 18), (0, u "value"), (0, u "()Z"), (0, .class_ 20), (0, u "com/example/navlint/navlint/model/ValueOfPinLaw"), (2, u "law"), (0, u "(I)Z")] 5

def k1m0 : Method := { name := "<init>", desc := "()V", sig := { parameters := [], returnType := none }, accessFlags := 2, code := none }
def k1c1 : Code := { maxStack := 2, maxLocals := 4, code := code, exceptionTable := #[], attributes := #[] }
def k1m1 : Method := { name := "law", desc := "(I)Z", sig := { parameters := [.int], returnType := some .boolean }, accessFlags := 9, code := some k1c1 }
/-- com/example/navlint/navlint/model/ValueOfPinLaw -/
def k1 : Class := { plain "com/example/navlint/navlint/model/ValueOfPinLaw" (some 0) with
  accessFlags := 49
  interfaces := #[]
  cf := some (fileOf pool1 19 #[] #[{ accessFlags := 2, nameIndex := 5, descriptorIndex := 6, attributes := #[] }, { accessFlags := 9, nameIndex := 23, descriptorIndex := 24, attributes := #[] }] 49 2 #[] #[])
  fields := #[]
  methods := #[k1m0, k1m1]
  instanceTypes := #[]
  staticTypes := #[]
  resolved := Array.replicate 30 none
  statics := none }

def pool2 : Array CpInfo := pool [(1, .fieldref 2 3), (0, .class_ 4), (0, .nameAndType 5 6), (0, u "com/example/navlint/navlint/model/Value"), (0, u "TRUE"), (0, u "Lcom/example/navlint/navlint/model/Value;"), (0, .fieldref 2 8), (0, .nameAndType 9 6), (0, u "FALSE"), (0, .class_ 11), (0, u "com/example/navlint/navlint/model/Value$IntegerValue"), (4, .class_ 17), (0, u "com/example/navlint/navlint/model/Value$StringValue"), (3, .class_ 22), (0, u "com/example/navlint/navlint/model/Value$BooleanValue"), (24, u "of"), (0, u "(Z)Lcom/example/navlint/navlint/model/Value;"), (88, .class_ 138), (0, u "com/example/navlint/navlint/model/Value$NullValue"), (5, u "NULL"), (3, .class_ 149), (0, u "java/lang/Object")] 69

def k2c0 : Code := { maxStack := 1, maxLocals := 1, code := prog_125_method_1_code, exceptionTable := #[], attributes := #[] }
def k2m0 : Method := { name := "of", desc := "(Z)Lcom/example/navlint/navlint/model/Value;", sig := { parameters := [.boolean], returnType := some (.object "com/example/navlint/navlint/model/Value") }, accessFlags := 9, code := some k2c0 }
/-- com/example/navlint/navlint/model/Value -/
def k2 : Class := { plain "com/example/navlint/navlint/model/Value" (some 0) with
  accessFlags := 1537
  interfaces := #[]
  cf := some (fileOf pool2 2 #[.nestMembers #[16, 10, 21, 137]] #[{ accessFlags := 9, nameIndex := 47, descriptorIndex := 48, attributes := #[] }] 1537 148 #[] #[{ accessFlags := 25, nameIndex := 144, descriptorIndex := 6, attributes := #[] }, { accessFlags := 25, nameIndex := 5, descriptorIndex := 6, attributes := #[] }, { accessFlags := 25, nameIndex := 9, descriptorIndex := 6, attributes := #[] }])
  fields := #[{ name := "NULL", type := (.object "com/example/navlint/navlint/model/Value"), accessFlags := 25, slot := 0, constantValue := 0 }, { name := "TRUE", type := (.object "com/example/navlint/navlint/model/Value"), accessFlags := 25, slot := 1, constantValue := 0 }, { name := "FALSE", type := (.object "com/example/navlint/navlint/model/Value"), accessFlags := 25, slot := 2, constantValue := 0 }]
  methods := #[k2m0]
  instanceTypes := #[]
  staticTypes := #[(.object "com/example/navlint/navlint/model/Value"), (.object "com/example/navlint/navlint/model/Value"), (.object "com/example/navlint/navlint/model/Value")]
  resolved := Array.replicate 219 none
  statics := some 0 }

def pool3 : Array CpInfo := pool [(2, .class_ 4), (1, u "java/lang/Object"), (0, u "<init>"), (0, u "()V"), (0, .class_ 8), (0, u "java/lang/Record")] 13

def k3m0 : Method := { name := "<init>", desc := "()V", sig := { parameters := [], returnType := none }, accessFlags := 4, code := none }
/-- java/lang/Record -/
def k3 : Class := { plain "java/lang/Record" (some 0) with
  accessFlags := 1057
  interfaces := #[]
  cf := some (fileOf pool3 7 #[] #[{ accessFlags := 4, nameIndex := 5, descriptorIndex := 6, attributes := #[] }] 1057 2 #[] #[])
  fields := #[]
  methods := #[k3m0]
  instanceTypes := #[]
  staticTypes := #[]
  resolved := Array.replicate 22 none
  statics := none }

def pool4 : Array CpInfo := pool [(2, .class_ 4), (1, u "java/lang/Record"), (2, .fieldref 8 9), (0, .class_ 10), (0, .nameAndType 11 12), (0, u "com/example/navlint/navlint/model/Value$BooleanValue"), (0, u "value"), (0, u "Z"), (14, .class_ 28), (0, u "com/example/navlint/navlint/model/Value"), (7, u "()Z")] 21

def k4c0 : Code := { maxStack := 1, maxLocals := 1, code := prog_126_method_5_code, exceptionTable := #[], attributes := #[] }
def k4m0 : Method := { name := "value", desc := "()Z", sig := { parameters := [], returnType := some .boolean }, accessFlags := 1, code := some k4c0 }
/-- com/example/navlint/navlint/model/Value$BooleanValue -/
def k4 : Class := { plain "com/example/navlint/navlint/model/Value$BooleanValue" (some 3) with
  accessFlags := 49
  interfaces := #[2]
  cf := some (fileOf pool4 8 #[.nestHost 27] #[{ accessFlags := 1, nameIndex := 11, descriptorIndex := 36, attributes := #[] }] 49 2 #[27] #[{ accessFlags := 18, nameIndex := 11, descriptorIndex := 12, attributes := #[] }])
  fields := #[{ name := "value", type := .boolean, accessFlags := 18, slot := 0, constantValue := 0 }]
  methods := #[k4m0]
  instanceTypes := #[.boolean]
  staticTypes := #[]
  resolved := Array.replicate 58 none
  statics := none }

def pool5 : Array CpInfo := pool [(1, u "java/lang/Cloneable"), (0, .class_ 1), (0, u "java/lang/Object"), (0, .class_ 3)] 3

/-- java/lang/Cloneable -/
def k5 : Class := { plain "java/lang/Cloneable" (some 0) with
  accessFlags := 1537
  interfaces := #[]
  cf := some (fileOf pool5 2 #[] #[] 1537 4 #[] #[])
  fields := #[]
  methods := #[]
  instanceTypes := #[]
  staticTypes := #[]
  resolved := Array.replicate 8 none
  statics := none }

def pool6 : Array CpInfo := pool [(1, u "java/io/Serializable"), (0, .class_ 1), (0, u "java/lang/Object"), (0, .class_ 3)] 3

/-- java/io/Serializable -/
def k6 : Class := { plain "java/io/Serializable" (some 0) with
  accessFlags := 1537
  interfaces := #[]
  cf := some (fileOf pool6 2 #[] #[] 1537 4 #[] #[])
  fields := #[]
  methods := #[]
  instanceTypes := #[]
  staticTypes := #[]
  resolved := Array.replicate 8 none
  statics := none }

/-- the primitive byte -/
def k7 : Class := { plain "byte" none with kind := .primitive 'B', accessFlags := 0x411 }
/-- [B -/
def k8 : Class := { plain "[B" (some 0) with kind := .array 7 .byte, interfaces := #[5, 6], accessFlags := 1041 }

/-- the primitive int -/
def k9 : Class := { plain "int" none with kind := .primitive 'I', accessFlags := 0x411 }
/-- [I -/
def k10 : Class := { plain "[I" (some 0) with kind := .array 9 .int, interfaces := #[5, 6], accessFlags := 1041 }

def heap : Heap := #[{ cls := 2, slots := #[.null, .ref 2, .ref 1], vm := .statics 2 },
  { cls := 4, slots := #[.int 0], vm := .none },
  { cls := 4, slots := #[.int 1], vm := .none }]
def classes : Array Class := #[k0, k1, k2, k3, k4, k5, k6, k7, k8, k9, k10]
def interned : List (Array UInt16 × Addr) := []
def slotsUsed : Nat := 5
def theMethod : MethodId := ⟨1, 1⟩
def args0 : Array Value := #[.int 5]
def aboutOver (below : List Frame) : State where
  vm := { classes := classes, interned := interned.toArray }
  heap := heap
  slotsUsed := slotsUsed
  threads := #[{ frames := .invoking theMethod args0 :: below }]
def below0 : List Frame := [.native { method := ⟨0, 0⟩, args := #[] }]
def about1 : State := aboutOver below0
def p0 : Program := .bare "" "" ""
def e0 : Env := launch0.env 0 0 0
theorem w_frames : about1.frames = Frame.invoking theMethod args0 :: below0 := rfl
set_option maxRecDepth 65536 in
theorem w_args : argsFit about1.vm theMethod args0 = true := by decide +kernel
set_option maxRecDepth 65536 in
theorem w_heap : heapFits about1 = true := by decide +kernel
set_option maxRecDepth 65536 in
theorem w_runnable : about1.curStatus? = some .runnable := by decide +kernel
set_option maxRecDepth 65536 in
theorem w_alone : about1.alone = true := by decide +kernel
set_option maxRecDepth 65536 in
theorem w_named : about1.methodNamed? x = some theMethod := by decide +kernel
set_option maxRecDepth 65536 in
theorem w_hears : about1.hears theMethod below0 = true := by decide +kernel
set_option maxRecDepth 65536 in
theorem w_ripe : about1.ripe theMethod args0 below0 = true := by decide +kernel
theorem w_running : about1.status = .running := rfl
set_option maxRecDepth 65536 in
theorem w_room : about1.hasRoom e0.platform room_1 = true :=
  launch0.hasRoom_least _ room_1 (by decide +kernel) (by decide +kernel) (by decide +kernel) (by decide +kernel) (by decide +kernel) (by decide +kernel)
theorem allAtoms_all (ts : List Jvm.Cond) (a : Array Jvm.Value) (st : Jvm.State) : (allAtoms ts).before a st = ts.all (fun c => c.before a st) := by
  induction ts with
  | nil => rfl
  | cons c t ih =>
    show (Jvm.Cond.and c (allAtoms t)).before a st = _
    rw [Jvm.Cond.before_and, ih, List.all_cons]
def words1 : List Jvm.Cond := Jvm.Cond.code x code maxLocals ret :: tables_1
/-- a 'code' word, met by the world's own term for the bytes: nothing is compared byte by byte -/
theorem code_word {y : MethodName} {bytes : ByteArray} {mx : Nat} {rt : Option FieldType} {a : Array Value} {s : State} {m : MethodId} {meth : Method} {c : Code} (h1 : s.methodNamed? y = some m) (h2 : s.vm.method? m = some meth) (h3 : meth.code = some c) (h4 : c.code = bytes)
    (h5 : (c.maxLocals == mx && c.exceptionTable.isEmpty && decide (c.maxStack ≤ mostOperands) && decide (meth.sig.returnType = rt) && !meth.locks && decide (parseMethodDescriptor y.desc = some meth.sig)) = true) : (Jvm.Cond.code y bytes mx rt).before a s = true := by
  simp only [Bool.and_eq_true, beq_iff_eq, Bool.not_eq_true', decide_eq_true_eq] at h5
  obtain ⟨⟨⟨⟨⟨g1, g2⟩, g3⟩, g4⟩, g5⟩, g6⟩ := h5
  simp [Cond.before, Cond.holds, Cond.value, h1, h2, h3, h4, g1, g2, g3, g4, g5, g6]
def isCode : Jvm.Cond → Bool
  | .code _ _ _ _ => true
  | _ => false
theorem all_split {L : List Jvm.Cond} {P : Jvm.Cond → Bool} (h1 : L.all (fun c => isCode c || P c) = true) (h2 : ∀ c ∈ L.filter isCode, P c = true) : L.all P = true := by
  refine List.all_eq_true.mpr fun c hc => ?_
  have h := List.all_eq_true.mp h1 c hc
  rcases Bool.eq_false_or_eq_true (isCode c) with hi | hi
  · exact h2 c (List.mem_filter.mpr ⟨hc, hi⟩)
  · simpa [hi] using h
set_option maxRecDepth 65536 in
theorem w_c0 : (Jvm.Cond.code x code maxLocals ret).before args0 about1 = true := code_word (m := ⟨1, 1⟩) (meth := k1m1) (c := k1c1) (by decide +kernel) rfl rfl rfl (by decide +kernel)
set_option maxRecDepth 65536 in
theorem w_c1 : (Jvm.Cond.code ({ cls := "com/example/navlint/navlint/model/Value", name := "of", desc := "(Z)Lcom/example/navlint/navlint/model/Value;" } : Jvm.MethodName) prog_125_method_1_code (1 : Nat) (Option.some (Jvm.ClassFile.FieldType.object "com/example/navlint/navlint/model/Value"))).before args0 about1 = true := code_word (m := ⟨2, 0⟩) (meth := k2m0) (c := k2c0) (by decide +kernel) rfl rfl rfl (by decide +kernel)
set_option maxRecDepth 65536 in
theorem w_c2 : (Jvm.Cond.code ({ cls := "com/example/navlint/navlint/model/Value$BooleanValue", name := "value", desc := "()Z" } : Jvm.MethodName) prog_126_method_5_code (1 : Nat) (Option.some Jvm.ClassFile.FieldType.boolean)).before args0 about1 = true := code_word (m := ⟨4, 0⟩) (meth := k4m0) (c := k4c0) (by decide +kernel) rfl rfl rfl (by decide +kernel)
def codes1 : List Jvm.Cond := [Jvm.Cond.code x code maxLocals ret, Jvm.Cond.code ({ cls := "com/example/navlint/navlint/model/Value", name := "of", desc := "(Z)Lcom/example/navlint/navlint/model/Value;" } : Jvm.MethodName) prog_125_method_1_code (1 : Nat) (Option.some (Jvm.ClassFile.FieldType.object "com/example/navlint/navlint/model/Value")), Jvm.Cond.code ({ cls := "com/example/navlint/navlint/model/Value$BooleanValue", name := "value", desc := "()Z" } : Jvm.MethodName) prog_126_method_5_code (1 : Nat) (Option.some Jvm.ClassFile.FieldType.boolean)]
set_option maxRecDepth 65536 in
theorem codes_eq : words1.filter isCode = codes1 := rfl
theorem w_codes : ∀ c ∈ words1.filter isCode, c.before args0 about1 = true := by
  rw [codes_eq]
  intro c hc
  simp only [codes1, List.mem_cons, List.not_mem_nil, or_false] at hc
  rcases hc with rfl | rfl | rfl
  · exact w_c0
  · exact w_c1
  · exact w_c2
set_option maxRecDepth 65536 in
theorem w_t1 : words1.all (fun c => isCode c || c.before args0 about1) = true := by decide +kernel
theorem w_tables : (allAtoms (Jvm.Cond.code x code maxLocals ret :: tables_1)).before args0 about1 = true := by
  rw [allAtoms_all]
  show words1.all (fun c => c.before args0 about1) = true
  refine all_split ?_ w_codes
  rw [w_t1]
set_option maxRecDepth 65536 in
theorem w_case : (Jvm.Cond.and given_1 narrow_1).before args0 about1 = true := by decide +kernel
theorem w_applies : (headSpec (Jvm.Cond.code x code maxLocals ret :: tables_1) room_1).applies x e0.platform about1 = true :=
  (Spec.applies_iff w_frames).mpr ⟨w_running, w_runnable, w_alone, w_named, w_hears, w_ripe, w_room, w_tables⟩
theorem atStart : AtStart classFile x code maxLocals ret World_1 tables_1 room_1 Calls_1 rest_1 Pre_1 launch0 p0 e0 about1 theMethod args0 below0 :=
  ⟨lists_1, trivial, launch0.admits_env _ _ _, launch0.least_env, fairChoices_fair.cas, fairChoices_fair.clock, w_frames, w_args, w_heap, w_applies, trivial, trivial, w_case⟩
end start1
theorem witness_1 : WitnessClaimed_1 := ⟨start1.p0, start1.e0, start1.about1, start1.theMethod, start1.args0, start1.below0, start1.atStart⟩
end Jvm.Pilot.@@N@@
