import JvmDerived
import JvmDerived.Pilot.@@N@@Statement
import JvmDerived.Pilot.@@N@@Code
set_option linter.unusedVariables false
set_option linter.unusedSimpArgs false
namespace Jvm.Pilot.@@N@@
open Jvm Jvm.ClassFile Sem Op Lib Jvm.Free Jvm.Stand Jvm.LawKit Jvm.RoadKit Bundle Jvm.Pilot.@@N@@.Jvm.D
theorem own_lt {x y : Int32} (h : x < y) : if_icmp.holds .lt x y = true ∧ if_icmp.holds .ge x y = false := by simp [if_icmp.holds, h, Int32.not_le.mpr h]
def own_Goes (p : Program) (e : Env) (below : List Frame) (s : State) (Q : Option Value → Heap → List Loc → Prop) (kc ks : Nat) (U : State) : Prop :=
  ∃ t o, Steps p.tables e below U t ∧ t.status = .running ∧ Ended t below o ∧ ∃ v L, o = .returned v ∧ Q v t.heap L ∧ FrameEnd s o t L kc ks
theorem own_go {p : Program} {e : Env} {below : List Frame} {s : State} {Q : Option Value → Heap → List Loc → Prop} {kc ks : Nat} {U V : State} (h : ∀ t, Steps p.tables e below V t → Steps p.tables e below U t) (g : own_Goes p e below s Q kc ks V) : own_Goes p e below s Q kc ks U := by
  obtain ⟨t, o, h1, r⟩ := g
  exact ⟨t, o, h t h1, r⟩
theorem own_out {p : Program} {l : Launch} {e : Env} {R : Room} {s : State} {m : MethodId} {args : Array Value} {below : List Frame} {meth : Method} {c : Code} {T : State} {locs : List Loc} {cells slots : Nat} {h : Heap} {Q : Option Value → Heap → List Loc → Prop} {kc ks : Nat} {U : State} {v : Option Value}
    (X : Stand p l e R s m args below meth c T locs cells slots) (hlk : meth.locks = false) (hv : meth.sig.returnType = none → v = none)
    (hs : ∀ fs, (∀ (f : JFrame) (acts : List Action), f.method = m → f.locked = none → f.entered = [] → (doReturn e (T.setTop f) acts v).1 = T.setFrames fs) → Steps p.tables e below U (T.setFrames fs))
    (eT : T.heap = h) (hQ : Q v h locs) (hc : cells ≤ kc) (hsl : slots ≤ ks) : own_Goes p e below s Q kc ks U := by
  obtain ⟨fs, hr, hrun, hended, hW, hsame⟩ := X.leave hv hlk
  subst eT
  exact ⟨_, _, hs fs hr, hrun, hended, _, _, rfl, hQ, ⟨_, rfl⟩, hW, hsame.mono hc hsl⟩
theorem own_ks {h0 h : Heap} {ws : List Addr} (K : Keep h0 h ws) : h0.size ≤ h.size := K.1
theorem own_cmpL (x : Int64) : XT.cmpL x x = 0 := by simp [XT.cmpL]
theorem own_vne {a b : Int32} (h : a ≠ b) : Value.int a ≠ .int b := fun q => h (Value.int.inj q)
theorem own_nn (x : Int32) : ¬ (x &&& 2147483647) < 0 := fun h => absurd ((XT.and_neg32 x 2147483647).mp h).2 (by decide)
theorem own_lk {p : Program} {l : Launch} {x : MethodName} {S : Spec} {code : ByteArray} {maxLocals : Nat} {ret : Option FieldType} {e : Env} {s : State} {m : MethodId} {args : Array Value} {below : List Frame} {meth : Method} {c : Code} {s₁ : State} (B : BodyLoose p l x S code maxLocals ret e s m args below meth c s₁) : meth.locks = false := B.notSynchronized
theorem own_if (cd : ClassFile.Cond) {x : Int32} {b : Bool} (h : if_icmp.holds cd x 0 = b) : ifCond.holds cd x = b := by rw [if0]; exact h
theorem own_aeq {a b : Addr} (h : a = b) : XT.acmp .eq (.ref a) (.ref b) = true ∧ XT.acmp .ne (.ref a) (.ref b) = false := by subst h; exact ⟨XT.aa_eq_t rfl, XT.aa_ne_f rfl⟩
theorem own_ane {a b : Addr} (h : ¬ a = b) : XT.acmp .eq (.ref a) (.ref b) = false ∧ XT.acmp .ne (.ref a) (.ref b) = true := ⟨XT.aa_eq_f (fun q => h (Value.ref.inj q)), XT.aa_ne_t (fun q => h (Value.ref.inj q))⟩
theorem own_eqI {args : Array Value} {s : State} {u : Term} {k : Int32} (h : (Jvm.Cond.eq u (.int k)).value args s none s [] = some true) : u.eval args s none [] s = some (.int k) := by
  simp only [Jvm.Cond.value] at h
  cases hf : u.eval args s none [] s with
  | none => simp [hf] at h
  | some v => cases v <;> simp [hf, Term.eval] at h; subst h; rfl
theorem own_eqJ {args : Array Value} {s : State} {u : Term} {k : Int64} (h : (Jvm.Cond.eq u (.long k)).value args s none s [] = some true) : u.eval args s none [] s = some (.long k) := by
  simp only [Jvm.Cond.value] at h
  cases hf : u.eval args s none [] s with
  | none => simp [hf] at h
  | some v => cases v <;> simp [hf, Term.eval] at h; subst h; rfl
theorem own_cl_gt (x y : Int64) : 0 < XT.cmpL x y ↔ y < x := by
  unfold XT.cmpL
  by_cases h : y < x
  · simp [h]
  · by_cases g : x = y
    · subst g; simp [h]
    · simp [h, g]
theorem own_cl_lt (x y : Int64) : XT.cmpL x y < 0 ↔ x < y := by
  unfold XT.cmpL
  by_cases h : y < x
  · have : ¬ x < y := fun q => by rw [Int64.lt_iff_toInt_lt] at h q; omega
    simp [h, this]
  · by_cases g : x = y
    · subst g; simp [h]
    · have : x < y := by
        rw [Int64.lt_iff_toInt_lt] at h ⊢
        have ne : x.toInt ≠ y.toInt := fun q => g (Int64.toInt_inj.mp q)
        omega
      simp [h, g, this]
theorem own_privateBack {p : Program} {l : Launch} {e : Env} {R : Room} {s : State} {m : MethodId} {args : Array Value} {below : List Frame} {meth : Method} {c : Code} {T : State} {locs : List Loc} {cells slots : Nat}
    (X : Stand p l e R s m args below meth c T locs cells slots) (hexec : p.tables.exec = Jvm.exec) {own : String} {index k : Nat} {y : MethodName} {bytes : ByteArray} {maxL : Nat} {ret : Option FieldType}
    (hown : s.vm.findClass own = some m.cls) (hlink : (Jvm.Cond.methodLink own index y).before args s = true) (hinst : (Jvm.Cond.instanceMethod y).before args s = true) (hmk : (Jvm.Cond.instantiable y.cls k).before args s = true)
    (hpriv : s.PrivateAt y) (hcode : (Jvm.Cond.code y bytes maxL ret).before args s = true) (hy : y.cls ≠ "java/lang/invoke/MethodHandle" ∧ y.cls ≠ "java/lang/invoke/VarHandle")
    {W : Nat} {Pre : Free.Pt → Array Value → Prop} {Post : Free.Pt → Array Value → Option Value → Free.Pt → Prop} (hK : Free.Back l R p e below s args y 3 W Pre Post)
    {g : JFrame} (hg : g.method = m) (hsize : g.locals.size = c.maxLocals) {s₀ : State} (hcome : Steps p.tables e below s₀ (T.setTop g)) {a : Addr} {cell : Cell} (hcell : T.heap[a]? = some cell) (hobj : ∀ q, cell.vm ≠ .statics q)
    {argsL rest : List Value} (hlen : ∀ sig, parseMethodDescriptor y.desc = some sig → argsL.length = sig.parameters.length)
    (hstack : g.stack = argsL.reverse ++ .ref a :: rest) (hW : 2 * g.monitorRoom + (rest.map fun v => v.category).sum ≤ W) (hdg : decode c.code g.pc = .ok (.invokevirtual index, 3))
    (hpre : ∀ vm₁, s.WarmedH vm₁ → Pre ⟨T.setVm vm₁, locs, cells, slots⟩ (.ref a :: argsL).toArray) :
    ∃ (v : Option Value) (vm₁ : Vm) (B : Free.Pt), s.WarmedH vm₁ ∧ Stand p l e R s m args below meth c B.U B.locs B.cells B.slots ∧ Post ⟨T.setVm vm₁, locs, cells, slots⟩ (.ref a :: argsL).toArray v B ∧
      Steps p.tables e below s₀ (B.U.setTop { g with pc := g.pc + 3, stack := v.toList ++ rest }) := by
  obtain ⟨mk, r, named, found, inst, abs⟩ := Cond.instanceMethod_spec hinst
  obtain ⟨r', cM, found', -, -, -, -, -, -, sig⟩ := Cond.code_spec named hcode
  cases found.symm.trans found'
  obtain ⟨cC, kC, k1, k2, -, k4, -⟩ := Cond.instantiable_spec hmk
  cases (findClass_of_methodNamed named).symm.trans k1
  have face : kC.isInterface = false := (Bool.or_eq_false_iff.mp k4).1
  have sel : selectMethod e.platform s.vm cell.cls mk = .method mk := selectMethod_private found (hpriv mk r named found)
  obtain ⟨vm₁, X₁, go⟩ := X.invokevirtual hexec hown hlink named found inst k2 face hy (a := a) (cell := cell) hcell hobj sel found abs k2 face (g := g) hg (argsL := argsL) (rest := rest) (hlen _ sig) hstack hdg
  obtain ⟨v, B, X', post, back⟩ := hK m meth c ⟨T.setVm vm₁, locs, cells, slots⟩ { g with stack := rest } (.invokevirtual index) mk (.ref a :: argsL).toArray X₁ hg hsize hdg hW (X₁.named named) (hpre vm₁ X₁.warmed)
  exact ⟨v, vm₁, B, X₁.warmed, X', post, (hcome.trans (go _ fun acts => by rw [doInvoke_state]; exact Steps.refl _)).trans back⟩
theorem own_fitR {C : String} {v : Value} (h : v.isRef = true) : fits (.object C) v = true := by rcases ref_cases h with rfl | ⟨a, rfl⟩ <;> rfl
theorem own_fI {args : Array Value} {s : State} {t : Term} {a : Addr} {O n d : String} {k : Int32} (ev : t.eval args s none [] s = some (.ref a)) (h : (Jvm.Cond.eq (.field t O n d) (.int k)).value args s none s [] = some true) : Fld s s.heap a O n d (.int k) := by
  refine Fld.start ?_
  simp only [Jvm.Cond.value, fld_at ev] at h
  cases hf : s.fieldOf? a O n d with
  | none => simp [hf] at h
  | some v => cases v <;> simp [hf, Term.eval] at h; subst h; rfl
theorem own_fJ {args : Array Value} {s : State} {t : Term} {a : Addr} {O n d : String} {k : Int64} (ev : t.eval args s none [] s = some (.ref a)) (h : (Jvm.Cond.eq (.field t O n d) (.long k)).value args s none s [] = some true) : Fld s s.heap a O n d (.long k) := by
  refine Fld.start ?_
  simp only [Jvm.Cond.value, fld_at ev] at h
  cases hf : s.fieldOf? a O n d with
  | none => simp [hf] at h
  | some v => cases v <;> simp [hf, Term.eval] at h; subst h; rfl
theorem own_fN {args : Array Value} {s : State} {t : Term} {a : Addr} {O n d : String} (ev : t.eval args s none [] s = some (.ref a)) (h : (Jvm.Cond.eq (.field t O n d) .null).value args s none s [] = some true) : Fld s s.heap a O n d .null := Fld.start ((fld_at ev).symm.trans (null_v h))
theorem pn_0 : plainName "java/lang/Record" = true := by first | (simp [plainName, overriddenIn]; done) | decide +kernel
theorem pn_1 : plainName "com/example/izin/izin/Headcount" = true := by first | (simp [plainName, overriddenIn]; done) | decide +kernel
theorem pn_2 : plainName "java/lang/Enum" = true := by first | (simp [plainName, overriddenIn]; done) | decide +kernel
theorem pn_3 : plainName "com/example/izin/izin/Headcount$Count" = true := by first | (simp [plainName, overriddenIn]; done) | decide +kernel
theorem pn_4 : plainName "com/example/izin/izin/CountOfPinLaw" = true := by first | (simp [plainName, overriddenIn]; done) | decide +kernel
theorem pd_0 : parseMethodDescriptor "()V" = some ⟨[], none⟩ := by decide +kernel
theorem pd_1 : parseMethodDescriptor "()I" = some ⟨[], some .int⟩ := by decide +kernel
theorem pd_2 : parseMethodDescriptor "(JJ)V" = some ⟨[.long, .long], none⟩ := by decide +kernel
theorem pd_3 : parseMethodDescriptor "(Lcom/example/izin/izin/Headcount;)J" = some ⟨[(.object "com/example/izin/izin/Headcount")], some .long⟩ := by decide +kernel
theorem d2_0 : decode jdk_30_method_1_code 0 = .ok (.aload_n 0, 1) := by decide +kernel
theorem d2_1 : decode jdk_30_method_1_code 1 = .ok (.invokespecial 1, 3) := by decide +kernel
theorem d2_4 : decode jdk_30_method_1_code 4 = .ok (.return_, 1) := by decide +kernel
theorem ef_recinit (m : MethodId) (a : Addr) : entryFrame m #[(.ref a)] 1 = mkF m 0 #[.val (.ref a)] [] := by first | (simp [entryFrame, mkF, argsToLocals, Value.category]; done) | rfl
def Q_recinit (Z : State) (a : Addr) (h0 : Heap) (n0 : Nat) (v : Option Value) (h : Heap) (L : List Loc) : Prop := v = none ∧ Fr n0 L ∧ h = h0
set_option maxRecDepth 65536 in
set_option maxHeartbeats 40000000 in
theorem rm_recinit (l : Launch) (Z : State) (a0 : Array Value) (hw : ∀ d ∈ tables_1, d.before a0 Z = true) (ws : List Jvm.Cond) (a : Addr) (h0 : Heap) (n0 : Nat) (O0 : Old Z n0 h0) :
    MetFree l (⟨"java/lang/Record", "<init>", "()V"⟩ : MethodName) (head1 (Jvm.Cond.code (⟨"java/lang/Record", "<init>", "()V"⟩ : MethodName) jdk_30_method_1_code 1 none :: ws) ({ frames := 1, cells := 0, slots := 0, locals := 12 } : Room)) (fun av_ U => av_ = #[(.ref a)] ∧ Z.Warmed39 U.vm ∧ U.heap = h0) (fun _ _ _ _ _ => True) (fun _ U o_ U' => ∃ v L, o_ = .returned v ∧ Q_recinit Z a h0 n0 v U'.heap L ∧ FrameEnd U o_ U' L ({ frames := 1, cells := 0, slots := 0, locals := 12 } : Room).cells ({ frames := 1, cells := 0, slots := 0, locals := 12 } : Room).slots) := by
  refine MetFree.of_bodySF (plainFor_of_name pn_0) hisR ?_
  intro p e s m args below meth c s₁ Bd hml0 hP hK
  obtain ⟨rfl, hZ, hh⟩ := hP
  have hx := Bd.exec
  have hby := Bd.bytes
  have hml : c.maxLocals = 1 := hml0
  have hown : s.vm.findClass "java/lang/Record" = some m.cls := findClass_of_methodNamed Bd.named
  have hnm := (name_of_methodNamed Bd.named Bd.method).1
  have hlk := own_lk Bd
  have hret := Bd.returns
  have X0 : Stand p l e ({ frames := 1, cells := 0, slots := 0, locals := 12 } : Room) s m #[(.ref a)] below meth c s₁ [] 0 0 := Stand.of_body Bd
  have e0 : s₁.heap = h0 := by rw [← hh, Bd.state]; rfl
  have N0 := Fr.nil n0
  show own_Goes p e below s (Q_recinit Z a h0 n0) ({ frames := 1, cells := 0, slots := 0, locals := 12 } : Room).cells ({ frames := 1, cells := 0, slots := 0, locals := 12 } : Room).slots (s₁.setTop (entryFrame m #[(.ref a)] 1))
  refine own_go (fun _ ww => castTop (ef_recinit m a) ww) ?_
  show own_Goes _ _ _ _ _ _ _ (s₁.setTop (mkF m 0 #[.val (.ref a)] []))
  refine own_go (fun _ ww => XS.aloadN X0.here hx rfl (hb hby d2_0) rfl rfl ww) ?_
  show own_Goes _ _ _ _ _ _ _ (s₁.setTop (mkF m 1 #[.val (.ref a)] [(.ref a)]))
  obtain ⟨T1, X1, e1, st1⟩ := initO X0 hx hZ hown (hw _ (List.mem_of_getElem? (i := 11) rfl)) (hw _ (List.mem_of_getElem? (i := 12) rfl)) (hw _ (List.mem_of_getElem? (i := 13) rfl)) e0 (g := (mkF m 1 #[.val (.ref a)] [(.ref a)])) rfl (by rw [hml]; rfl) rfl (hb hby d2_1) (by decide) (W := 0) (by show 2 * 0 + _ ≤ _; exact Nat.le_of_eq rfl) (by decide)
  refine own_go st1 ?_
  show own_Goes _ _ _ _ _ _ _ (T1.setTop (mkF m 4 #[.val (.ref a)] []))
  exact own_out X1 hlk (v := none) (fun _ => rfl) (fun fs hr => X1.returnOut hx hret (hb hby d2_4) hr) e1 ⟨rfl, N0, rfl⟩ (by decide) (by decide)
theorem d1_0 : decode prog_15_method_1_code 0 = .ok (.aload_n 0, 1) := by decide +kernel
theorem d1_1 : decode prog_15_method_1_code 1 = .ok (.invokespecial 1, 3) := by decide +kernel
theorem d1_4 : decode prog_15_method_1_code 4 = .ok (.aload_n 0, 1) := by decide +kernel
theorem d1_5 : decode prog_15_method_1_code 5 = .ok (.lload_n 1, 1) := by decide +kernel
theorem d1_6 : decode prog_15_method_1_code 6 = .ok (.putfield 7, 3) := by decide +kernel
theorem d1_9 : decode prog_15_method_1_code 9 = .ok (.aload_n 0, 1) := by decide +kernel
theorem d1_10 : decode prog_15_method_1_code 10 = .ok (.lload_n 3, 1) := by decide +kernel
theorem d1_11 : decode prog_15_method_1_code 11 = .ok (.putfield 13, 3) := by decide +kernel
theorem d1_14 : decode prog_15_method_1_code 14 = .ok (.return_, 1) := by decide +kernel
theorem ef_init (m : MethodId) (a : Addr) (x1 : Int64) (x2 : Int64) : entryFrame m #[(.ref a), (.long x1), (.long x2)] 5 = mkF m 0 #[.val (.ref a), .val (.long x1), .second, .val (.long x2), .second] [] := by first | (simp [entryFrame, mkF, argsToLocals, Value.category]; done) | rfl
def Q_init (Z : State) (a : Addr) (x1 : Int64) (x2 : Int64) (h0 : Heap) (n0 : Nat) (v : Option Value) (h : Heap) (L : List Loc) : Prop := v = none ∧ Fr n0 L ∧ Keep h0 h [a] ∧ Fld Z h a "com/example/izin/izin/Headcount" "participants" "J" (.long x1) ∧ Fld Z h a "com/example/izin/izin/Headcount" "active" "J" (.long x2)
set_option maxRecDepth 65536 in
set_option maxHeartbeats 40000000 in
theorem rm_init (l : Launch) (Z : State) (a0 : Array Value) (hw : ∀ d ∈ tables_1, d.before a0 Z = true) (ws : List Jvm.Cond) (a : Addr) (x1 : Int64) (x2 : Int64) (h0 : Heap) (n0 : Nat) (O0 : Old Z n0 h0) (F1 : Fld Z h0 a "com/example/izin/izin/Headcount" "participants" "J" (.long (0 : Int64))) (F2 : Fld Z h0 a "com/example/izin/izin/Headcount" "active" "J" (.long (0 : Int64))) (Ea : Exa Z h0 a "com/example/izin/izin/Headcount") (g_a : n0 ≤ a) :
    MetFree l (⟨"com/example/izin/izin/Headcount", "<init>", "(JJ)V"⟩ : MethodName) (head1 (Jvm.Cond.code (⟨"com/example/izin/izin/Headcount", "<init>", "(JJ)V"⟩ : MethodName) prog_15_method_1_code 5 none :: ws) ({ frames := 2, cells := 0, slots := 0, locals := 24 } : Room)) (fun av_ U => av_ = #[(.ref a), (.long x1), (.long x2)] ∧ Z.Warmed39 U.vm ∧ U.heap = h0) (fun _ _ _ _ _ => True) (fun _ U o_ U' => ∃ v L, o_ = .returned v ∧ Q_init Z a x1 x2 h0 n0 v U'.heap L ∧ FrameEnd U o_ U' L ({ frames := 2, cells := 0, slots := 0, locals := 24 } : Room).cells ({ frames := 2, cells := 0, slots := 0, locals := 24 } : Room).slots) := by
  refine MetFree.of_bodySF (plainFor_of_name pn_1) hisR ?_
  intro p e s m args below meth c s₁ Bd hml0 hP hK
  obtain ⟨rfl, hZ, hh⟩ := hP
  have hx := Bd.exec
  have hby := Bd.bytes
  have hml : c.maxLocals = 5 := hml0
  have hown : s.vm.findClass "com/example/izin/izin/Headcount" = some m.cls := findClass_of_methodNamed Bd.named
  have hnm := (name_of_methodNamed Bd.named Bd.method).1
  have hlk := own_lk Bd
  have hret := Bd.returns
  have X0 : Stand p l e ({ frames := 2, cells := 0, slots := 0, locals := 24 } : Room) s m #[(.ref a), (.long x1), (.long x2)] below meth c s₁ [] 0 0 := Stand.of_body Bd
  have e0 : s₁.heap = h0 := by rw [← hh, Bd.state]; rfl
  have N0 := Fr.nil n0
  show own_Goes p e below s (Q_init Z a x1 x2 h0 n0) ({ frames := 2, cells := 0, slots := 0, locals := 24 } : Room).cells ({ frames := 2, cells := 0, slots := 0, locals := 24 } : Room).slots (s₁.setTop (entryFrame m #[(.ref a), (.long x1), (.long x2)] 5))
  refine own_go (fun _ ww => castTop (ef_init m a x1 x2) ww) ?_
  show own_Goes _ _ _ _ _ _ _ (s₁.setTop (mkF m 0 #[.val (.ref a), .val (.long x1), .second, .val (.long x2), .second] []))
  refine own_go (fun _ ww => XS.aloadN X0.here hx rfl (hb hby d1_0) rfl rfl ww) ?_
  show own_Goes _ _ _ _ _ _ _ (s₁.setTop (mkF m 1 #[.val (.ref a), .val (.long x1), .second, .val (.long x2), .second] [(.ref a)]))
  obtain ⟨_, _, ⟨T2, L2, k2, n2⟩, -, X2, ⟨Lc2, hQ2, l2, y2, z2⟩, st2⟩ := X0.specialBack hx (y := (⟨"java/lang/Record", "<init>", "()V"⟩ : MethodName)) rfl hown (mvT hZ (hw _ (List.mem_of_getElem? (i := 6) rfl))) (mvT hZ (hw _ (List.mem_of_getElem? (i := 7) rfl))) (mvT hZ (hw _ (List.mem_of_getElem? (i := 10) rfl))) (by decide) (backOf (W := 0) (rm_recinit l Z a0 hw [] a h0 n0 O0 ) hZ (hw _ (List.mem_of_getElem? (i := 10) rfl)) (hw _ (List.mem_of_getElem? (i := 9) rfl)) (by decide) (by decide)) (g := (mkF m 1 #[.val (.ref a), .val (.long x1), .second, .val (.long x2), .second] [(.ref a)])) rfl (by rw [hml]; rfl) (Steps.refl _) (a := a) (argsL := []) (rest := []) (lenOf pd_0 rfl) rfl (by show 2 * 0 + _ ≤ _; exact Nat.le_of_eq rfl) (hb hby d1_1) (fun _ _ => ⟨rfl, e0, (by decide : 0 + 0 ≤ _), (by decide : 0 + 0 ≤ _)⟩)
  dsimp only [Pt.U, Pt.locs, Pt.cells, Pt.slots] at X2 l2 y2 z2 st2 hQ2
  subst l2 y2 z2
  obtain ⟨rfl, N2q, e2⟩ := hQ2
  have N2 := Fr.app N0 N2q
  refine own_go (fun _ ww => Steps.trans st2 ww) ?_
  show own_Goes _ _ _ _ _ _ _ (T2.setTop (mkF m 4 #[.val (.ref a), .val (.long x1), .second, .val (.long x2), .second] []))
  refine own_go (fun _ ww => XS.aloadN X2.here hx rfl (hb hby d1_4) rfl rfl ww) ?_
  show own_Goes _ _ _ _ _ _ _ (T2.setTop (mkF m 5 #[.val (.ref a), .val (.long x1), .second, .val (.long x2), .second] [(.ref a)]))
  refine own_go (fun _ ww => XT.lloadN X2.here hx rfl (hb hby d1_5) rfl  ww) ?_
  show own_Goes _ _ _ _ _ _ _ (T2.setTop (mkF m 6 #[.val (.ref a), .val (.long x1), .second, .val (.long x2), .second] [(.long x1), (.ref a)]))
  obtain ⟨T3, h3, X3, e3, W3, st3⟩ := putF X2 hx hZ hown (host := "") (Or.inl (hw _ (List.mem_of_getElem? (i := 14) rfl))) Via.refl e2 F1 Ea (Or.inr ⟨(hw _ (List.mem_of_getElem? (i := 15) rfl)), rfl, hnm⟩) (hw _ (List.mem_of_getElem? (i := 1) rfl)) (ty := .long) (by decide) rfl rfl (g := (mkF m 6 #[.val (.ref a), .val (.long x1), .second, .val (.long x2), .second] [(.long x1), (.ref a)])) rfl rfl (hb hby d1_6)
  have f4 : Fld Z h3 a "com/example/izin/izin/Headcount" "participants" "J" (.long x1) := (F1.same W3)
  have f5 : Fld Z h3 a "com/example/izin/izin/Headcount" "active" "J" (.long (0 : Int64)) := (F2.other W3 (Or.inr (slot_ne (Or.inr (hw _ (List.mem_of_getElem? (i := 17) rfl))) (Or.inr (hw _ (List.mem_of_getElem? (i := 15) rfl))) (by decide) (t := .long) (t' := .long) (by decide) (by decide))))
  have f6 : Exa Z h3 a "com/example/izin/izin/Headcount" := (Ea.wr W3)
  have N3 := Fr.snoc X3 N2 g_a
  have O3 := O0.wr W3 g_a
  have K3 := (Keep.refl h0 [a]).wr W3 (Or.inl (List.mem_of_getElem? (i := 0) rfl))
  refine own_go st3 ?_
  show own_Goes _ _ _ _ _ _ _ (T3.setTop (mkF m 9 #[.val (.ref a), .val (.long x1), .second, .val (.long x2), .second] []))
  refine own_go (fun _ ww => XS.aloadN X3.here hx rfl (hb hby d1_9) rfl rfl ww) ?_
  show own_Goes _ _ _ _ _ _ _ (T3.setTop (mkF m 10 #[.val (.ref a), .val (.long x1), .second, .val (.long x2), .second] [(.ref a)]))
  refine own_go (fun _ ww => XT.lloadN X3.here hx rfl (hb hby d1_10) rfl  ww) ?_
  show own_Goes _ _ _ _ _ _ _ (T3.setTop (mkF m 11 #[.val (.ref a), .val (.long x1), .second, .val (.long x2), .second] [(.long x2), (.ref a)]))
  obtain ⟨T7, h7, X7, e7, W7, st7⟩ := putF X3 hx hZ hown (host := "") (Or.inl (hw _ (List.mem_of_getElem? (i := 16) rfl))) Via.refl e3 f5 f6 (Or.inr ⟨(hw _ (List.mem_of_getElem? (i := 17) rfl)), rfl, hnm⟩) (hw _ (List.mem_of_getElem? (i := 1) rfl)) (ty := .long) (by decide) rfl rfl (g := (mkF m 11 #[.val (.ref a), .val (.long x1), .second, .val (.long x2), .second] [(.long x2), (.ref a)])) rfl rfl (hb hby d1_11)
  have f8 : Fld Z h7 a "com/example/izin/izin/Headcount" "participants" "J" (.long x1) := (f4.other W7 (Or.inr (slot_ne (Or.inr (hw _ (List.mem_of_getElem? (i := 15) rfl))) (Or.inr (hw _ (List.mem_of_getElem? (i := 17) rfl))) (by decide) (t := .long) (t' := .long) (by decide) (by decide))))
  have f9 : Fld Z h7 a "com/example/izin/izin/Headcount" "active" "J" (.long x2) := (f5.same W7)
  have f10 : Exa Z h7 a "com/example/izin/izin/Headcount" := (f6.wr W7)
  have N7 := Fr.snoc X7 N3 g_a
  have O7 := O3.wr W7 g_a
  have K7 := K3.wr W7 (Or.inl (List.mem_of_getElem? (i := 0) rfl))
  refine own_go st7 ?_
  show own_Goes _ _ _ _ _ _ _ (T7.setTop (mkF m 14 #[.val (.ref a), .val (.long x1), .second, .val (.long x2), .second] []))
  exact own_out X7 hlk (v := none) (fun _ => rfl) (fun fs hr => X7.returnOut hx hret (hb hby d1_14) hr) e7 ⟨rfl, N7, K7, f8, f9⟩ (by decide) (by decide)
theorem d5_0 : decode jdk_37_method_2_code 0 = .ok (.aload_n 0, 1) := by decide +kernel
theorem d5_1 : decode jdk_37_method_2_code 1 = .ok (.getfield 7, 3) := by decide +kernel
theorem d5_4 : decode jdk_37_method_2_code 4 = .ok (.ireturn, 1) := by decide +kernel
theorem ef_ord0 (m : MethodId) (k : Addr) : entryFrame m #[(.ref k)] 1 = mkF m 0 #[.val (.ref k)] [] := by first | (simp [entryFrame, mkF, argsToLocals, Value.category]; done) | rfl
def Q_ord0 (Z : State) (k : Addr) (h0 : Heap) (n0 : Nat) (v : Option Value) (h : Heap) (L : List Loc) : Prop := v = some (.int (0 : Int32)) ∧ Fr n0 L ∧ h = h0
set_option maxRecDepth 65536 in
set_option maxHeartbeats 40000000 in
theorem rm_ord0 (l : Launch) (Z : State) (a0 : Array Value) (hw : ∀ d ∈ tables_1, d.before a0 Z = true) (ws : List Jvm.Cond) (k : Addr) (h0 : Heap) (n0 : Nat) (O0 : Old Z n0 h0) (Fk : Fld Z h0 k "java/lang/Enum" "ordinal" "I" (.int (0 : Int32))) :
    MetFree l (⟨"java/lang/Enum", "ordinal", "()I"⟩ : MethodName) (head1 (Jvm.Cond.code (⟨"java/lang/Enum", "ordinal", "()I"⟩ : MethodName) jdk_37_method_2_code 1 (some .int) :: ws) ({ frames := 0, cells := 0, slots := 0, locals := 0 } : Room)) (fun av_ U => av_ = #[(.ref k)] ∧ Z.Warmed39 U.vm ∧ U.heap = h0) (fun _ _ _ _ _ => True) (fun _ U o_ U' => ∃ v L, o_ = .returned v ∧ Q_ord0 Z k h0 n0 v U'.heap L ∧ FrameEnd U o_ U' L ({ frames := 0, cells := 0, slots := 0, locals := 0 } : Room).cells ({ frames := 0, cells := 0, slots := 0, locals := 0 } : Room).slots) := by
  refine MetFree.of_bodySF (plainFor_of_name pn_2) hisR ?_
  intro p e s m args below meth c s₁ Bd hml0 hP hK
  obtain ⟨rfl, hZ, hh⟩ := hP
  have hx := Bd.exec
  have hby := Bd.bytes
  have hml : c.maxLocals = 1 := hml0
  have hown : s.vm.findClass "java/lang/Enum" = some m.cls := findClass_of_methodNamed Bd.named
  have hnm := (name_of_methodNamed Bd.named Bd.method).1
  have hlk := own_lk Bd
  have hret := Bd.returns
  have X0 : Stand p l e ({ frames := 0, cells := 0, slots := 0, locals := 0 } : Room) s m #[(.ref k)] below meth c s₁ [] 0 0 := Stand.of_body Bd
  have e0 : s₁.heap = h0 := by rw [← hh, Bd.state]; rfl
  have N0 := Fr.nil n0
  show own_Goes p e below s (Q_ord0 Z k h0 n0) ({ frames := 0, cells := 0, slots := 0, locals := 0 } : Room).cells ({ frames := 0, cells := 0, slots := 0, locals := 0 } : Room).slots (s₁.setTop (entryFrame m #[(.ref k)] 1))
  refine own_go (fun _ ww => castTop (ef_ord0 m k) ww) ?_
  show own_Goes _ _ _ _ _ _ _ (s₁.setTop (mkF m 0 #[.val (.ref k)] []))
  refine own_go (fun _ ww => XS.aloadN X0.here hx rfl (hb hby d5_0) rfl rfl ww) ?_
  show own_Goes _ _ _ _ _ _ _ (s₁.setTop (mkF m 1 #[.val (.ref k)] [(.ref k)]))
  obtain ⟨T11, X11, e11, st11⟩ := getF X0 hx hZ hown (host := "") (Or.inl (hw _ (List.mem_of_getElem? (i := 33) rfl))) Via.refl e0 Fk (g := (mkF m 1 #[.val (.ref k)] [(.ref k)])) rfl rfl (hb hby d5_1)
  refine own_go st11 ?_
  show own_Goes _ _ _ _ _ _ _ (T11.setTop (mkF m 4 #[.val (.ref k)] [(.int (0 : Int32))]))
  exact own_out X11 hlk (v := some (.int (0 : Int32))) (fun h => by rw [hret] at h; cases h) (fun fs hr => retOut X11 hx (t := .int) hret rfl (Or.inl ⟨rfl, by simp, _, rfl⟩) (hb hby d5_4) hr) e11 ⟨rfl, N0, rfl⟩ (by decide) (by decide)
theorem d4_0 : decode prog_16_method_4_code 0 = .ok (.aload_n 0, 1) := by decide +kernel
theorem d4_1 : decode prog_16_method_4_code 1 = .ok (.invokevirtual 33, 3) := by decide +kernel
theorem d4_4 : decode prog_16_method_4_code 4 = .ok (.lookupswitch 28 #[(0, 38), (1, 45)], 28) := by decide +kernel
theorem d4_42 : decode prog_16_method_4_code 42 = .ok (.aload_n 1, 1) := by decide +kernel
theorem d4_43 : decode prog_16_method_4_code 43 = .ok (.getfield 42, 3) := by decide +kernel
theorem d4_46 : decode prog_16_method_4_code 46 = .ok (.goto 7, 3) := by decide +kernel
theorem d4_53 : decode prog_16_method_4_code 53 = .ok (.lreturn, 1) := by decide +kernel
theorem ef_of0 (m : MethodId) (k : Addr) (o : Addr) (x1 : Int64) : entryFrame m #[(.ref k), (.ref o)] 2 = mkF m 0 #[.val (.ref k), .val (.ref o)] [] := by first | (simp [entryFrame, mkF, argsToLocals, Value.category]; done) | rfl
def Q_of0 (Z : State) (k : Addr) (o : Addr) (x1 : Int64) (h0 : Heap) (n0 : Nat) (v : Option Value) (h : Heap) (L : List Loc) : Prop := v = some (.long x1) ∧ Fr n0 L ∧ h = h0
set_option maxRecDepth 65536 in
set_option maxHeartbeats 40000000 in
theorem rm_of0 (l : Launch) (Z : State) (a0 : Array Value) (hw : ∀ d ∈ tables_1, d.before a0 Z = true) (ws : List Jvm.Cond) (k : Addr) (o : Addr) (x1 : Int64) (h0 : Heap) (n0 : Nat) (O0 : Old Z n0 h0) (Fk : Fld Z h0 k "java/lang/Enum" "ordinal" "I" (.int (0 : Int32))) (Ek : Exa Z h0 k "com/example/izin/izin/Headcount$Count") (Fo : Fld Z h0 o "com/example/izin/izin/Headcount" "participants" "J" (.long x1)) :
    MetFree l (⟨"com/example/izin/izin/Headcount$Count", "of", "(Lcom/example/izin/izin/Headcount;)J"⟩ : MethodName) (head1 (Jvm.Cond.code (⟨"com/example/izin/izin/Headcount$Count", "of", "(Lcom/example/izin/izin/Headcount;)J"⟩ : MethodName) prog_16_method_4_code 2 (some .long) :: ws) ({ frames := 1, cells := 0, slots := 0, locals := 12 } : Room)) (fun av_ U => av_ = #[(.ref k), (.ref o)] ∧ Z.Warmed39 U.vm ∧ U.heap = h0) (fun _ _ _ _ _ => True) (fun _ U o_ U' => ∃ v L, o_ = .returned v ∧ Q_of0 Z k o x1 h0 n0 v U'.heap L ∧ FrameEnd U o_ U' L ({ frames := 1, cells := 0, slots := 0, locals := 12 } : Room).cells ({ frames := 1, cells := 0, slots := 0, locals := 12 } : Room).slots) := by
  refine MetFree.of_bodySF (plainFor_of_name pn_3) hisR ?_
  intro p e s m args below meth c s₁ Bd hml0 hP hK
  obtain ⟨rfl, hZ, hh⟩ := hP
  have hx := Bd.exec
  have hby := Bd.bytes
  have hml : c.maxLocals = 2 := hml0
  have hown : s.vm.findClass "com/example/izin/izin/Headcount$Count" = some m.cls := findClass_of_methodNamed Bd.named
  have hnm := (name_of_methodNamed Bd.named Bd.method).1
  have hlk := own_lk Bd
  have hret := Bd.returns
  have X0 : Stand p l e ({ frames := 1, cells := 0, slots := 0, locals := 12 } : Room) s m #[(.ref k), (.ref o)] below meth c s₁ [] 0 0 := Stand.of_body Bd
  have e0 : s₁.heap = h0 := by rw [← hh, Bd.state]; rfl
  have N0 := Fr.nil n0
  show own_Goes p e below s (Q_of0 Z k o x1 h0 n0) ({ frames := 1, cells := 0, slots := 0, locals := 12 } : Room).cells ({ frames := 1, cells := 0, slots := 0, locals := 12 } : Room).slots (s₁.setTop (entryFrame m #[(.ref k), (.ref o)] 2))
  refine own_go (fun _ ww => castTop (ef_of0 m k o x1) ww) ?_
  show own_Goes _ _ _ _ _ _ _ (s₁.setTop (mkF m 0 #[.val (.ref k), .val (.ref o)] []))
  refine own_go (fun _ ww => XS.aloadN X0.here hx rfl (hb hby d4_0) rfl rfl ww) ?_
  show own_Goes _ _ _ _ _ _ _ (s₁.setTop (mkF m 1 #[.val (.ref k), .val (.ref o)] [(.ref k)]))
  obtain ⟨cq12, kq12, q12a, q12b, q12c⟩ := isOf hZ e0 Ek
  obtain ⟨_, _, ⟨T12, L12, k12, n12⟩, -, X12, ⟨Lc12, hQ12, l12, y12, z12⟩, st12⟩ := X0.virtualBackUp hx (x := (⟨"com/example/izin/izin/Headcount$Count", "ordinal", "()I"⟩ : MethodName)) (y := (⟨"java/lang/Enum", "ordinal", "()I"⟩ : MethodName)) hown (mvT hZ (hw _ (List.mem_of_getElem? (i := 26) rfl))) (mvT hZ (hw _ (List.mem_of_getElem? (i := 27) rfl))) (mvT hZ (hw _ (List.mem_of_getElem? (i := 28) rfl))) (by decide) (mvT hZ (hw _ (List.mem_of_getElem? (i := 30) rfl))) (mvT hZ (hw _ (List.mem_of_getElem? (i := 29) rfl))) (backOf (W := 0) (rm_ord0 l Z a0 hw [] k h0 n0 O0 Fk) hZ (hw _ (List.mem_of_getElem? (i := 32) rfl)) (hw _ (List.mem_of_getElem? (i := 31) rfl)) (by decide) (by decide)) q12a q12c (g := (mkF m 1 #[.val (.ref k), .val (.ref o)] [(.ref k)])) rfl (by rw [hml]; rfl) (Steps.refl _) (argsL := []) (rest := []) (lenOf pd_1 rfl) rfl (by show 2 * 0 + _ ≤ _; exact Nat.le_of_eq rfl) (hb hby d4_1) (fun _ _ => ⟨rfl, e0, (by decide : 0 + 0 ≤ _), (by decide : 0 + 0 ≤ _)⟩)
  dsimp only [Pt.U, Pt.locs, Pt.cells, Pt.slots] at X12 l12 y12 z12 st12 hQ12
  subst l12 y12 z12
  obtain ⟨rfl, N12q, e12⟩ := hQ12
  have N12 := Fr.app N0 N12q
  refine own_go (fun _ ww => Steps.trans st12 ww) ?_
  show own_Goes _ _ _ _ _ _ _ (T12.setTop (mkF m 4 #[.val (.ref k), .val (.ref o)] [(.int (0 : Int32))]))
  refine own_go (fun _ ww => X12.lookupswitchHit hx (g := (mkF m 4 #[.val (.ref k), .val (.ref o)] [(.int (0 : Int32))])) rfl rfl (hb hby d4_4) (by decide) (a := 0) (off := 38) (by decide) (by show (0 : Int) ≤ ((4 : Nat) : Int) + (38); decide) _ ww) ?_
  show own_Goes _ _ _ _ _ _ _ (T12.setTop (mkF m 42 #[.val (.ref k), .val (.ref o)] []))
  refine own_go (fun _ ww => XS.aloadN X12.here hx rfl (hb hby d4_42) rfl rfl ww) ?_
  show own_Goes _ _ _ _ _ _ _ (T12.setTop (mkF m 43 #[.val (.ref k), .val (.ref o)] [(.ref o)]))
  obtain ⟨T13, X13, e13, st13⟩ := getF X12 hx hZ hown (Or.inr (hw _ (List.mem_of_getElem? (i := 35) rfl))) Via.refl e12 Fo (g := (mkF m 43 #[.val (.ref k), .val (.ref o)] [(.ref o)])) rfl rfl (hb hby d4_43)
  refine own_go st13 ?_
  show own_Goes _ _ _ _ _ _ _ (T13.setTop (mkF m 46 #[.val (.ref k), .val (.ref o)] [(.long x1)]))
  refine own_go (fun _ ww => XS.goto X13.here hx rfl (pc0 := 46) (pc' := 53) rfl (hb hby d4_46) (by decide) (by decide) ww) ?_
  show own_Goes _ _ _ _ _ _ _ (T13.setTop (mkF m 53 #[.val (.ref k), .val (.ref o)] [(.long x1)]))
  exact own_out X13 hlk (v := some (.long x1)) (fun h => by rw [hret] at h; cases h) (fun fs hr => retOut X13 hx (t := .long) hret rfl (Or.inr (Or.inl ⟨rfl, rfl, _, rfl⟩)) (hb hby d4_53) hr) e13 ⟨rfl, N12, rfl⟩ (by decide) (by decide)
theorem ef_ord1 (m : MethodId) (k : Addr) : entryFrame m #[(.ref k)] 1 = mkF m 0 #[.val (.ref k)] [] := by first | (simp [entryFrame, mkF, argsToLocals, Value.category]; done) | rfl
def Q_ord1 (Z : State) (k : Addr) (h0 : Heap) (n0 : Nat) (v : Option Value) (h : Heap) (L : List Loc) : Prop := v = some (.int (1 : Int32)) ∧ Fr n0 L ∧ h = h0
set_option maxRecDepth 65536 in
set_option maxHeartbeats 40000000 in
theorem rm_ord1 (l : Launch) (Z : State) (a0 : Array Value) (hw : ∀ d ∈ tables_1, d.before a0 Z = true) (ws : List Jvm.Cond) (k : Addr) (h0 : Heap) (n0 : Nat) (O0 : Old Z n0 h0) (Fk : Fld Z h0 k "java/lang/Enum" "ordinal" "I" (.int (1 : Int32))) :
    MetFree l (⟨"java/lang/Enum", "ordinal", "()I"⟩ : MethodName) (head1 (Jvm.Cond.code (⟨"java/lang/Enum", "ordinal", "()I"⟩ : MethodName) jdk_37_method_2_code 1 (some .int) :: ws) ({ frames := 0, cells := 0, slots := 0, locals := 0 } : Room)) (fun av_ U => av_ = #[(.ref k)] ∧ Z.Warmed39 U.vm ∧ U.heap = h0) (fun _ _ _ _ _ => True) (fun _ U o_ U' => ∃ v L, o_ = .returned v ∧ Q_ord1 Z k h0 n0 v U'.heap L ∧ FrameEnd U o_ U' L ({ frames := 0, cells := 0, slots := 0, locals := 0 } : Room).cells ({ frames := 0, cells := 0, slots := 0, locals := 0 } : Room).slots) := by
  refine MetFree.of_bodySF (plainFor_of_name pn_2) hisR ?_
  intro p e s m args below meth c s₁ Bd hml0 hP hK
  obtain ⟨rfl, hZ, hh⟩ := hP
  have hx := Bd.exec
  have hby := Bd.bytes
  have hml : c.maxLocals = 1 := hml0
  have hown : s.vm.findClass "java/lang/Enum" = some m.cls := findClass_of_methodNamed Bd.named
  have hnm := (name_of_methodNamed Bd.named Bd.method).1
  have hlk := own_lk Bd
  have hret := Bd.returns
  have X0 : Stand p l e ({ frames := 0, cells := 0, slots := 0, locals := 0 } : Room) s m #[(.ref k)] below meth c s₁ [] 0 0 := Stand.of_body Bd
  have e0 : s₁.heap = h0 := by rw [← hh, Bd.state]; rfl
  have N0 := Fr.nil n0
  show own_Goes p e below s (Q_ord1 Z k h0 n0) ({ frames := 0, cells := 0, slots := 0, locals := 0 } : Room).cells ({ frames := 0, cells := 0, slots := 0, locals := 0 } : Room).slots (s₁.setTop (entryFrame m #[(.ref k)] 1))
  refine own_go (fun _ ww => castTop (ef_ord1 m k) ww) ?_
  show own_Goes _ _ _ _ _ _ _ (s₁.setTop (mkF m 0 #[.val (.ref k)] []))
  refine own_go (fun _ ww => XS.aloadN X0.here hx rfl (hb hby d5_0) rfl rfl ww) ?_
  show own_Goes _ _ _ _ _ _ _ (s₁.setTop (mkF m 1 #[.val (.ref k)] [(.ref k)]))
  obtain ⟨T14, X14, e14, st14⟩ := getF X0 hx hZ hown (host := "") (Or.inl (hw _ (List.mem_of_getElem? (i := 33) rfl))) Via.refl e0 Fk (g := (mkF m 1 #[.val (.ref k)] [(.ref k)])) rfl rfl (hb hby d5_1)
  refine own_go st14 ?_
  show own_Goes _ _ _ _ _ _ _ (T14.setTop (mkF m 4 #[.val (.ref k)] [(.int (1 : Int32))]))
  exact own_out X14 hlk (v := some (.int (1 : Int32))) (fun h => by rw [hret] at h; cases h) (fun fs hr => retOut X14 hx (t := .int) hret rfl (Or.inl ⟨rfl, by simp, _, rfl⟩) (hb hby d5_4) hr) e14 ⟨rfl, N0, rfl⟩ (by decide) (by decide)
theorem d4_49 : decode prog_16_method_4_code 49 = .ok (.aload_n 1, 1) := by decide +kernel
theorem d4_50 : decode prog_16_method_4_code 50 = .ok (.getfield 48, 3) := by decide +kernel
theorem ef_of1 (m : MethodId) (k : Addr) (o : Addr) (x1 : Int64) : entryFrame m #[(.ref k), (.ref o)] 2 = mkF m 0 #[.val (.ref k), .val (.ref o)] [] := by first | (simp [entryFrame, mkF, argsToLocals, Value.category]; done) | rfl
def Q_of1 (Z : State) (k : Addr) (o : Addr) (x1 : Int64) (h0 : Heap) (n0 : Nat) (v : Option Value) (h : Heap) (L : List Loc) : Prop := v = some (.long x1) ∧ Fr n0 L ∧ h = h0
set_option maxRecDepth 65536 in
set_option maxHeartbeats 40000000 in
theorem rm_of1 (l : Launch) (Z : State) (a0 : Array Value) (hw : ∀ d ∈ tables_1, d.before a0 Z = true) (ws : List Jvm.Cond) (k : Addr) (o : Addr) (x1 : Int64) (h0 : Heap) (n0 : Nat) (O0 : Old Z n0 h0) (Fk : Fld Z h0 k "java/lang/Enum" "ordinal" "I" (.int (1 : Int32))) (Ek : Exa Z h0 k "com/example/izin/izin/Headcount$Count") (Fo : Fld Z h0 o "com/example/izin/izin/Headcount" "active" "J" (.long x1)) :
    MetFree l (⟨"com/example/izin/izin/Headcount$Count", "of", "(Lcom/example/izin/izin/Headcount;)J"⟩ : MethodName) (head1 (Jvm.Cond.code (⟨"com/example/izin/izin/Headcount$Count", "of", "(Lcom/example/izin/izin/Headcount;)J"⟩ : MethodName) prog_16_method_4_code 2 (some .long) :: ws) ({ frames := 1, cells := 0, slots := 0, locals := 12 } : Room)) (fun av_ U => av_ = #[(.ref k), (.ref o)] ∧ Z.Warmed39 U.vm ∧ U.heap = h0) (fun _ _ _ _ _ => True) (fun _ U o_ U' => ∃ v L, o_ = .returned v ∧ Q_of1 Z k o x1 h0 n0 v U'.heap L ∧ FrameEnd U o_ U' L ({ frames := 1, cells := 0, slots := 0, locals := 12 } : Room).cells ({ frames := 1, cells := 0, slots := 0, locals := 12 } : Room).slots) := by
  refine MetFree.of_bodySF (plainFor_of_name pn_3) hisR ?_
  intro p e s m args below meth c s₁ Bd hml0 hP hK
  obtain ⟨rfl, hZ, hh⟩ := hP
  have hx := Bd.exec
  have hby := Bd.bytes
  have hml : c.maxLocals = 2 := hml0
  have hown : s.vm.findClass "com/example/izin/izin/Headcount$Count" = some m.cls := findClass_of_methodNamed Bd.named
  have hnm := (name_of_methodNamed Bd.named Bd.method).1
  have hlk := own_lk Bd
  have hret := Bd.returns
  have X0 : Stand p l e ({ frames := 1, cells := 0, slots := 0, locals := 12 } : Room) s m #[(.ref k), (.ref o)] below meth c s₁ [] 0 0 := Stand.of_body Bd
  have e0 : s₁.heap = h0 := by rw [← hh, Bd.state]; rfl
  have N0 := Fr.nil n0
  show own_Goes p e below s (Q_of1 Z k o x1 h0 n0) ({ frames := 1, cells := 0, slots := 0, locals := 12 } : Room).cells ({ frames := 1, cells := 0, slots := 0, locals := 12 } : Room).slots (s₁.setTop (entryFrame m #[(.ref k), (.ref o)] 2))
  refine own_go (fun _ ww => castTop (ef_of1 m k o x1) ww) ?_
  show own_Goes _ _ _ _ _ _ _ (s₁.setTop (mkF m 0 #[.val (.ref k), .val (.ref o)] []))
  refine own_go (fun _ ww => XS.aloadN X0.here hx rfl (hb hby d4_0) rfl rfl ww) ?_
  show own_Goes _ _ _ _ _ _ _ (s₁.setTop (mkF m 1 #[.val (.ref k), .val (.ref o)] [(.ref k)]))
  obtain ⟨cq15, kq15, q15a, q15b, q15c⟩ := isOf hZ e0 Ek
  obtain ⟨_, _, ⟨T15, L15, k15, n15⟩, -, X15, ⟨Lc15, hQ15, l15, y15, z15⟩, st15⟩ := X0.virtualBackUp hx (x := (⟨"com/example/izin/izin/Headcount$Count", "ordinal", "()I"⟩ : MethodName)) (y := (⟨"java/lang/Enum", "ordinal", "()I"⟩ : MethodName)) hown (mvT hZ (hw _ (List.mem_of_getElem? (i := 26) rfl))) (mvT hZ (hw _ (List.mem_of_getElem? (i := 27) rfl))) (mvT hZ (hw _ (List.mem_of_getElem? (i := 28) rfl))) (by decide) (mvT hZ (hw _ (List.mem_of_getElem? (i := 30) rfl))) (mvT hZ (hw _ (List.mem_of_getElem? (i := 29) rfl))) (backOf (W := 0) (rm_ord1 l Z a0 hw [] k h0 n0 O0 Fk) hZ (hw _ (List.mem_of_getElem? (i := 32) rfl)) (hw _ (List.mem_of_getElem? (i := 31) rfl)) (by decide) (by decide)) q15a q15c (g := (mkF m 1 #[.val (.ref k), .val (.ref o)] [(.ref k)])) rfl (by rw [hml]; rfl) (Steps.refl _) (argsL := []) (rest := []) (lenOf pd_1 rfl) rfl (by show 2 * 0 + _ ≤ _; exact Nat.le_of_eq rfl) (hb hby d4_1) (fun _ _ => ⟨rfl, e0, (by decide : 0 + 0 ≤ _), (by decide : 0 + 0 ≤ _)⟩)
  dsimp only [Pt.U, Pt.locs, Pt.cells, Pt.slots] at X15 l15 y15 z15 st15 hQ15
  subst l15 y15 z15
  obtain ⟨rfl, N15q, e15⟩ := hQ15
  have N15 := Fr.app N0 N15q
  refine own_go (fun _ ww => Steps.trans st15 ww) ?_
  show own_Goes _ _ _ _ _ _ _ (T15.setTop (mkF m 4 #[.val (.ref k), .val (.ref o)] [(.int (1 : Int32))]))
  refine own_go (fun _ ww => X15.lookupswitchHit hx (g := (mkF m 4 #[.val (.ref k), .val (.ref o)] [(.int (1 : Int32))])) rfl rfl (hb hby d4_4) (by decide) (a := 1) (off := 45) (by decide) (by show (0 : Int) ≤ ((4 : Nat) : Int) + (45); decide) _ ww) ?_
  show own_Goes _ _ _ _ _ _ _ (T15.setTop (mkF m 49 #[.val (.ref k), .val (.ref o)] []))
  refine own_go (fun _ ww => XS.aloadN X15.here hx rfl (hb hby d4_49) rfl rfl ww) ?_
  show own_Goes _ _ _ _ _ _ _ (T15.setTop (mkF m 50 #[.val (.ref k), .val (.ref o)] [(.ref o)]))
  obtain ⟨T16, X16, e16, st16⟩ := getF X15 hx hZ hown (Or.inr (hw _ (List.mem_of_getElem? (i := 38) rfl))) Via.refl e15 Fo (g := (mkF m 50 #[.val (.ref k), .val (.ref o)] [(.ref o)])) rfl rfl (hb hby d4_50)
  refine own_go st16 ?_
  show own_Goes _ _ _ _ _ _ _ (T16.setTop (mkF m 53 #[.val (.ref k), .val (.ref o)] [(.long x1)]))
  exact own_out X16 hlk (v := some (.long x1)) (fun h => by rw [hret] at h; cases h) (fun fs hr => retOut X16 hx (t := .long) hret rfl (Or.inr (Or.inl ⟨rfl, rfl, _, rfl⟩)) (hb hby d4_53) hr) e16 ⟨rfl, N15, rfl⟩ (by decide) (by decide)
theorem ef_law (m : MethodId) (x1 : Int64) (x2 : Int64) (kP : Addr) (kA : Addr) : entryFrame m #[(.long x1), (.long x2)] maxLocals = mkF m 0 #[.val (.long x1), .second, .val (.long x2), .second, .unset, .unset, .unset, .unset, .unset] [] := by first | (simp [entryFrame, mkF, argsToLocals, Value.category, maxLocals]; done) | rfl
def Q_law (Z : State) (x1 : Int64) (x2 : Int64) (kP : Addr) (kA : Addr) (h0 : Heap) (n0 : Nat) (v : Option Value) (h : Heap) (L : List Loc) : Prop := v = some (.int 1) ∧ Fr n0 L
set_option maxRecDepth 65536 in
set_option maxHeartbeats 40000000 in
theorem rm_law (l : Launch) (Z : State) (a0 : Array Value) (hw : ∀ d ∈ tables_1, d.before a0 Z = true) (ws : List Jvm.Cond) (x1 : Int64) (x2 : Int64) (kP : Addr) (kA : Addr) (h0 : Heap) (n0 : Nat) (O0 : Old Z n0 h0) (SkP : Sta Z Z.heap "com/example/izin/izin/Headcount$Count" "PARTICIPANTS" "Lcom/example/izin/izin/Headcount$Count;" (.ref kP)) (EkP : Exa Z Z.heap kP "com/example/izin/izin/Headcount$Count") (FkP : Fld Z Z.heap kP "java/lang/Enum" "ordinal" "I" (.int (0 : Int32))) (SkA : Sta Z Z.heap "com/example/izin/izin/Headcount$Count" "ACTIVE" "Lcom/example/izin/izin/Headcount$Count;" (.ref kA)) (EkA : Exa Z Z.heap kA "com/example/izin/izin/Headcount$Count") (FkA : Fld Z Z.heap kA "java/lang/Enum" "ordinal" "I" (.int (1 : Int32))) :
    MetFree l x (head1 (Jvm.Cond.code x code maxLocals ret :: ws) room_1) (fun av_ U => av_ = #[(.long x1), (.long x2)] ∧ Z.Warmed39 U.vm ∧ U.heap = h0) (fun _ _ _ _ _ => True) (fun _ U o_ U' => ∃ v L, o_ = .returned v ∧ Q_law Z x1 x2 kP kA h0 n0 v U'.heap L ∧ FrameEnd U o_ U' L room_1.cells room_1.slots) := by
  refine MetFree.of_bodySF (plainFor_of_name pn_4) hisR ?_
  intro p e s m args below meth c s₁ Bd hml0 hP hK
  obtain ⟨rfl, hZ, hh⟩ := hP
  have hx := Bd.exec
  have hby := Bd.bytes
  have hml : c.maxLocals = 9 := hml0
  have hown : s.vm.findClass "com/example/izin/izin/CountOfPinLaw" = some m.cls := findClass_of_methodNamed Bd.named
  have hnm := (name_of_methodNamed Bd.named Bd.method).1
  have hlk := own_lk Bd
  have hret := Bd.returns
  have X0 : Stand p l e room_1 s m #[(.long x1), (.long x2)] below meth c s₁ [] 0 0 := Stand.of_body Bd
  have e0 : s₁.heap = h0 := by rw [← hh, Bd.state]; rfl
  have N0 := Fr.nil n0
  show own_Goes p e below s (Q_law Z x1 x2 kP kA h0 n0) room_1.cells room_1.slots (s₁.setTop (entryFrame m #[(.long x1), (.long x2)] maxLocals))
  refine own_go (fun _ ww => castTop (ef_law m x1 x2 kP kA) ww) ?_
  show own_Goes _ _ _ _ _ _ _ (s₁.setTop (mkF m 0 #[.val (.long x1), .second, .val (.long x2), .second, .unset, .unset, .unset, .unset, .unset] []))
  obtain ⟨T17, h17, X17, e17, E17, A17, D17, -, st17⟩ := newO X0 hx hZ hown (hw _ (List.mem_of_getElem? (i := 0) rfl)) (hw _ (List.mem_of_getElem? (i := 1) rfl)) (hw _ (List.mem_of_getElem? (i := 2) rfl)) e0 (g := (mkF m 0 #[.val (.long x1), .second, .val (.long x2), .second, .unset, .unset, .unset, .unset, .unset] [])) rfl (hb hby at_0) (by decide) (by decide)
  obtain ⟨b17, g17⟩ : ∃ z, z = h0.size := ⟨_, rfl⟩
  rw [← g17] at A17 D17 st17
  have ne_kP_b17 : kP ≠ b17 := Nat.ne_of_lt (Nat.lt_of_lt_of_le (EkP.ext O0.2).lt (Nat.le_of_eq g17.symm))
  have ne_kA_b17 : kA ≠ b17 := Nat.ne_of_lt (Nat.lt_of_lt_of_le (EkA.ext O0.2).lt (Nat.le_of_eq g17.symm))
  have g_b17 : n0 ≤ b17 := Nat.le_trans (O0.1 ▸ O0.2.1) (Nat.le_of_eq g17.symm)
  have O17 := O0.ext E17
  have f18 : Fld Z h17 b17 "com/example/izin/izin/Headcount" "participants" "J" (.long (0 : Int64)) := D17 (Or.inr (hw _ (List.mem_of_getElem? (i := 15) rfl))) (ty := .long) (by decide)
  have f19 : Fld Z h17 b17 "com/example/izin/izin/Headcount" "active" "J" (.long (0 : Int64)) := D17 (Or.inr (hw _ (List.mem_of_getElem? (i := 17) rfl))) (ty := .long) (by decide)
  refine own_go st17 ?_
  show own_Goes _ _ _ _ _ _ _ (T17.setTop (mkF m 3 #[.val (.long x1), .second, .val (.long x2), .second, .unset, .unset, .unset, .unset, .unset] [(.ref b17)]))
  refine own_go (fun _ ww => XS.dup X17.here hx rfl (hb hby at_3) rfl rfl ww) ?_
  show own_Goes _ _ _ _ _ _ _ (T17.setTop (mkF m 4 #[.val (.long x1), .second, .val (.long x2), .second, .unset, .unset, .unset, .unset, .unset] [(.ref b17), (.ref b17)]))
  refine own_go (fun _ ww => XT.lloadN X17.here hx rfl (hb hby at_4) rfl  ww) ?_
  show own_Goes _ _ _ _ _ _ _ (T17.setTop (mkF m 5 #[.val (.long x1), .second, .val (.long x2), .second, .unset, .unset, .unset, .unset, .unset] [(.long x1), (.ref b17), (.ref b17)]))
  refine own_go (fun _ ww => XT.lloadN X17.here hx rfl (hb hby at_5) rfl  ww) ?_
  show own_Goes _ _ _ _ _ _ _ (T17.setTop (mkF m 6 #[.val (.long x1), .second, .val (.long x2), .second, .unset, .unset, .unset, .unset, .unset] [(.long x2), (.long x1), (.ref b17), (.ref b17)]))
  obtain ⟨_, _, ⟨T20, L20, k20, n20⟩, -, X20, ⟨Lc20, hQ20, l20, y20, z20⟩, st20⟩ := X17.specialBack hx (y := (⟨"com/example/izin/izin/Headcount", "<init>", "(JJ)V"⟩ : MethodName)) rfl hown (mvT hZ (hw _ (List.mem_of_getElem? (i := 3) rfl))) (mvT hZ (hw _ (List.mem_of_getElem? (i := 4) rfl))) (mvT hZ (hw _ (List.mem_of_getElem? (i := 5) rfl))) (by decide) (backOf (W := 1) (rm_init l Z a0 hw [] b17 x1 x2 h17 n0 O17 f18 f19 A17 g_b17) hZ (hw _ (List.mem_of_getElem? (i := 5) rfl)) (hw _ (List.mem_of_getElem? (i := 2) rfl)) (by decide) (by decide)) (g := (mkF m 6 #[.val (.long x1), .second, .val (.long x2), .second, .unset, .unset, .unset, .unset, .unset] [(.long x2), (.long x1), (.ref b17), (.ref b17)])) rfl (by rw [hml]; rfl) (Steps.refl _) (a := b17) (argsL := [(.long x1), (.long x2)]) (rest := [(.ref b17)]) (lenOf pd_2 rfl) rfl (by show 2 * 0 + _ ≤ _; exact Nat.le_of_eq rfl) (hb hby at_6) (fun _ _ => ⟨rfl, e17, (by decide : 1 + 0 ≤ _), (by decide : 2 + 0 ≤ _)⟩)
  dsimp only [Pt.U, Pt.locs, Pt.cells, Pt.slots] at X20 l20 y20 z20 st20 hQ20
  subst l20 y20 z20
  obtain ⟨rfl, N20q, K20q, P20, A20⟩ := hQ20
  have N20 := Fr.app N0 N20q
  have f21 : Exa Z T20.heap b17 "com/example/izin/izin/Headcount" := (A17.keep K20q)
  have O20 := O17.keep K20q (allS g_b17 all0)
  refine own_go (fun _ ww => Steps.trans st20 ww) ?_
  show own_Goes _ _ _ _ _ _ _ (T20.setTop (mkF m 9 #[.val (.long x1), .second, .val (.long x2), .second, .unset, .unset, .unset, .unset, .unset] [(.ref b17)]))
  refine own_go (fun _ ww => XS.astore X20.here hx rfl (hb hby at_9) rfl rfl (l' := #[.val (.long x1), .second, .val (.long x2), .second, .val (.ref b17), .unset, .unset, .unset, .unset]) rfl ww) ?_
  show own_Goes _ _ _ _ _ _ _ (T20.setTop (mkF m 11 #[.val (.long x1), .second, .val (.long x2), .second, .val (.ref b17), .unset, .unset, .unset, .unset] []))
  obtain ⟨T22, X22, e22, st22⟩ := getS X20 hx hZ hown (host := "") (hw _ (List.mem_of_getElem? (i := 18) rfl)) Via.refl rfl (SkP.ext O20.2) (g := (mkF m 11 #[.val (.long x1), .second, .val (.long x2), .second, .val (.ref b17), .unset, .unset, .unset, .unset] [])) rfl (hb hby at_11)
  refine own_go st22 ?_
  show own_Goes _ _ _ _ _ _ _ (T22.setTop (mkF m 14 #[.val (.long x1), .second, .val (.long x2), .second, .val (.ref b17), .unset, .unset, .unset, .unset] [(.ref kP)]))
  refine own_go (fun _ ww => XS.aload X22.here hx rfl (hb hby at_14) rfl rfl ww) ?_
  show own_Goes _ _ _ _ _ _ _ (T22.setTop (mkF m 16 #[.val (.long x1), .second, .val (.long x2), .second, .val (.ref b17), .unset, .unset, .unset, .unset] [(.ref b17), (.ref kP)]))
  obtain ⟨cq23, kq23, q23a, q23b, q23c⟩ := isOf hZ e22 (EkP.ext O20.2)
  obtain ⟨_, _, ⟨T23, L23, k23, n23⟩, -, X23, ⟨Lc23, hQ23, l23, y23, z23⟩, st23⟩ := X22.virtualBack hx (y := (⟨"com/example/izin/izin/Headcount$Count", "of", "(Lcom/example/izin/izin/Headcount;)J"⟩ : MethodName)) (z := (⟨"com/example/izin/izin/Headcount$Count", "of", "(Lcom/example/izin/izin/Headcount;)J"⟩ : MethodName)) hown (mvT hZ (hw _ (List.mem_of_getElem? (i := 21) rfl))) (mvT hZ (hw _ (List.mem_of_getElem? (i := 22) rfl))) (notFace_of_selects (args := #[]) (mvT hZ (hw _ (List.mem_of_getElem? (i := 24) rfl)))) (mvT hZ (hw _ (List.mem_of_getElem? (i := 24) rfl))) (mvT hZ (hw _ (List.mem_of_getElem? (i := 23) rfl))) (by decide) (backOf (W := 0) (rm_of0 l Z a0 hw [] kP b17 x1 T20.heap n0 O20 (FkP.ext O20.2) (EkP.ext O20.2) P20) hZ (hw _ (List.mem_of_getElem? (i := 25) rfl)) (hw _ (List.mem_of_getElem? (i := 19) rfl)) (by decide) (by decide)) q23a q23c (g := (mkF m 16 #[.val (.long x1), .second, .val (.long x2), .second, .val (.ref b17), .unset, .unset, .unset, .unset] [(.ref b17), (.ref kP)])) rfl (by rw [hml]; rfl) (Steps.refl _) (argsL := [(.ref b17)]) (rest := []) (lenOf pd_3 rfl) rfl (by show 2 * 0 + _ ≤ _; exact Nat.le_of_eq rfl) (hb hby at_16) (fun _ _ => ⟨rfl, e22, (by decide : 1 + 0 ≤ _), (by decide : 2 + 0 ≤ _)⟩)
  dsimp only [Pt.U, Pt.locs, Pt.cells, Pt.slots] at X23 l23 y23 z23 st23 hQ23
  subst l23 y23 z23
  obtain ⟨rfl, N23q, e23⟩ := hQ23
  have N23 := Fr.app N20 N23q
  refine own_go (fun _ ww => Steps.trans st23 ww) ?_
  show own_Goes _ _ _ _ _ _ _ (T23.setTop (mkF m 19 #[.val (.long x1), .second, .val (.long x2), .second, .val (.ref b17), .unset, .unset, .unset, .unset] [(.long x1)]))
  refine own_go (fun _ ww => XT.lstore X23.here hx rfl (hb hby at_19) rfl (l' := #[.val (.long x1), .second, .val (.long x2), .second, .val (.ref b17), .val (.long x1), .second, .unset, .unset]) rfl ww) ?_
  show own_Goes _ _ _ _ _ _ _ (T23.setTop (mkF m 21 #[.val (.long x1), .second, .val (.long x2), .second, .val (.ref b17), .val (.long x1), .second, .unset, .unset] []))
  obtain ⟨T24, X24, e24, st24⟩ := getS X23 hx hZ hown (host := "") (hw _ (List.mem_of_getElem? (i := 36) rfl)) Via.refl e23 (SkA.ext O20.2) (g := (mkF m 21 #[.val (.long x1), .second, .val (.long x2), .second, .val (.ref b17), .val (.long x1), .second, .unset, .unset] [])) rfl (hb hby at_21)
  refine own_go st24 ?_
  show own_Goes _ _ _ _ _ _ _ (T24.setTop (mkF m 24 #[.val (.long x1), .second, .val (.long x2), .second, .val (.ref b17), .val (.long x1), .second, .unset, .unset] [(.ref kA)]))
  refine own_go (fun _ ww => XS.aload X24.here hx rfl (hb hby at_24) rfl rfl ww) ?_
  show own_Goes _ _ _ _ _ _ _ (T24.setTop (mkF m 26 #[.val (.long x1), .second, .val (.long x2), .second, .val (.ref b17), .val (.long x1), .second, .unset, .unset] [(.ref b17), (.ref kA)]))
  obtain ⟨cq25, kq25, q25a, q25b, q25c⟩ := isOf hZ e24 (EkA.ext O20.2)
  obtain ⟨_, _, ⟨T25, L25, k25, n25⟩, -, X25, ⟨Lc25, hQ25, l25, y25, z25⟩, st25⟩ := X24.virtualBack hx (y := (⟨"com/example/izin/izin/Headcount$Count", "of", "(Lcom/example/izin/izin/Headcount;)J"⟩ : MethodName)) (z := (⟨"com/example/izin/izin/Headcount$Count", "of", "(Lcom/example/izin/izin/Headcount;)J"⟩ : MethodName)) hown (mvT hZ (hw _ (List.mem_of_getElem? (i := 21) rfl))) (mvT hZ (hw _ (List.mem_of_getElem? (i := 22) rfl))) (notFace_of_selects (args := #[]) (mvT hZ (hw _ (List.mem_of_getElem? (i := 24) rfl)))) (mvT hZ (hw _ (List.mem_of_getElem? (i := 24) rfl))) (mvT hZ (hw _ (List.mem_of_getElem? (i := 23) rfl))) (by decide) (backOf (W := 0) (rm_of1 l Z a0 hw [] kA b17 x2 T20.heap n0 O20 (FkA.ext O20.2) (EkA.ext O20.2) A20) hZ (hw _ (List.mem_of_getElem? (i := 25) rfl)) (hw _ (List.mem_of_getElem? (i := 19) rfl)) (by decide) (by decide)) q25a q25c (g := (mkF m 26 #[.val (.long x1), .second, .val (.long x2), .second, .val (.ref b17), .val (.long x1), .second, .unset, .unset] [(.ref b17), (.ref kA)])) rfl (by rw [hml]; rfl) (Steps.refl _) (argsL := [(.ref b17)]) (rest := []) (lenOf pd_3 rfl) rfl (by show 2 * 0 + _ ≤ _; exact Nat.le_of_eq rfl) (hb hby at_26) (fun _ _ => ⟨rfl, e24, (by decide : 1 + 0 ≤ _), (by decide : 2 + 0 ≤ _)⟩)
  dsimp only [Pt.U, Pt.locs, Pt.cells, Pt.slots] at X25 l25 y25 z25 st25 hQ25
  subst l25 y25 z25
  obtain ⟨rfl, N25q, e25⟩ := hQ25
  have N25 := Fr.app N23 N25q
  refine own_go (fun _ ww => Steps.trans st25 ww) ?_
  show own_Goes _ _ _ _ _ _ _ (T25.setTop (mkF m 29 #[.val (.long x1), .second, .val (.long x2), .second, .val (.ref b17), .val (.long x1), .second, .unset, .unset] [(.long x2)]))
  refine own_go (fun _ ww => XT.lstore X25.here hx rfl (hb hby at_29) rfl (l' := #[.val (.long x1), .second, .val (.long x2), .second, .val (.ref b17), .val (.long x1), .second, .val (.long x2), .second]) rfl ww) ?_
  show own_Goes _ _ _ _ _ _ _ (T25.setTop (mkF m 31 #[.val (.long x1), .second, .val (.long x2), .second, .val (.ref b17), .val (.long x1), .second, .val (.long x2), .second] []))
  refine own_go (fun _ ww => XT.lload X25.here hx rfl (hb hby at_31) rfl  ww) ?_
  show own_Goes _ _ _ _ _ _ _ (T25.setTop (mkF m 33 #[.val (.long x1), .second, .val (.long x2), .second, .val (.ref b17), .val (.long x1), .second, .val (.long x2), .second] [(.long x1)]))
  refine own_go (fun _ ww => XT.lloadN X25.here hx rfl (hb hby at_33) rfl  ww) ?_
  show own_Goes _ _ _ _ _ _ _ (T25.setTop (mkF m 34 #[.val (.long x1), .second, .val (.long x2), .second, .val (.ref b17), .val (.long x1), .second, .val (.long x2), .second] [(.long x1), (.long x1)]))
  refine own_go (fun _ ww => XT.lcmp X25.here hx rfl (hb hby at_34) rfl ww) ?_
  show own_Goes _ _ _ _ _ _ _ (T25.setTop (mkF m 35 #[.val (.long x1), .second, .val (.long x2), .second, .val (.ref b17), .val (.long x1), .second, .val (.long x2), .second] [(.int (XT.cmpL x1 x1))]))
  refine own_go (fun _ ww => XS.ifNo X25.here hx rfl (hb hby at_35) rfl (own_if .ne (teq (own_cmpL _)).2) ww) ?_
  show own_Goes _ _ _ _ _ _ _ (T25.setTop (mkF m 38 #[.val (.long x1), .second, .val (.long x2), .second, .val (.ref b17), .val (.long x1), .second, .val (.long x2), .second] []))
  refine own_go (fun _ ww => XT.lload X25.here hx rfl (hb hby at_38) rfl  ww) ?_
  show own_Goes _ _ _ _ _ _ _ (T25.setTop (mkF m 40 #[.val (.long x1), .second, .val (.long x2), .second, .val (.ref b17), .val (.long x1), .second, .val (.long x2), .second] [(.long x2)]))
  refine own_go (fun _ ww => XT.lloadN X25.here hx rfl (hb hby at_40) rfl  ww) ?_
  show own_Goes _ _ _ _ _ _ _ (T25.setTop (mkF m 41 #[.val (.long x1), .second, .val (.long x2), .second, .val (.ref b17), .val (.long x1), .second, .val (.long x2), .second] [(.long x2), (.long x2)]))
  refine own_go (fun _ ww => XT.lcmp X25.here hx rfl (hb hby at_41) rfl ww) ?_
  show own_Goes _ _ _ _ _ _ _ (T25.setTop (mkF m 42 #[.val (.long x1), .second, .val (.long x2), .second, .val (.ref b17), .val (.long x1), .second, .val (.long x2), .second] [(.int (XT.cmpL x2 x2))]))
  refine own_go (fun _ ww => XS.ifNo X25.here hx rfl (hb hby at_42) rfl (own_if .ne (teq (own_cmpL _)).2) ww) ?_
  show own_Goes _ _ _ _ _ _ _ (T25.setTop (mkF m 45 #[.val (.long x1), .second, .val (.long x2), .second, .val (.ref b17), .val (.long x1), .second, .val (.long x2), .second] []))
  refine own_go (fun _ ww => XS.iconst X25.here hx rfl (hb hby at_45) ww) ?_
  show own_Goes _ _ _ _ _ _ _ (T25.setTop (mkF m 46 #[.val (.long x1), .second, .val (.long x2), .second, .val (.ref b17), .val (.long x1), .second, .val (.long x2), .second] [(.int (1 : Int32))]))
  refine own_go (fun _ ww => XS.goto X25.here hx rfl (pc0 := 46) (pc' := 50) rfl (hb hby at_46) (by decide) (by decide) ww) ?_
  show own_Goes _ _ _ _ _ _ _ (T25.setTop (mkF m 50 #[.val (.long x1), .second, .val (.long x2), .second, .val (.ref b17), .val (.long x1), .second, .val (.long x2), .second] [(.int (1 : Int32))]))
  exact own_out X25 hlk (v := some (.int (1 : Int32))) (fun h => by rw [hret] at h; cases h) (fun fs hr => retOut X25 hx (t := .boolean) hret (by decide) (Or.inl ⟨rfl, by simp, _, rfl⟩) (hb hby at_50) hr) e25 ⟨rfl, N25⟩ (by decide) (by decide)
set_option maxRecDepth 65536 in
set_option maxHeartbeats 40000000 in
theorem comes_1 {Post : Tables → Env → Array Value → State → Outcome → State → Prop} (hpost : ∀ tb e args s v u, (limb_1_1.after args s (.returned v) u = true ∧ limb_1_2.after args s (.returned v) u = true ∧ True) → FrameEnd s (.returned v) u (Jvm.fieldLocs frame_1_writes args s ++ Jvm.arrayLocs frame_1_arrays args s ++ Jvm.staticLocs frame_1_statics s) 16 128 → Post tb e args s (.returned v) u) :
    ArmFor flags0 classFile x code maxLocals ret World_1 tables_1 room_1 Calls_1 rest_1 Pre_1 Post := by
  intro l hfl _ _ p e ha hc hk s m args below hf hA hF happ hP
  obtain ⟨hcalls, hrest, hpre⟩ := hP
  obtain ⟨-, -, -, hnamed, -, -, -, hat⟩ := (Spec.applies_iff hf).mp happ
  obtain ⟨hg, hn⟩ := and_e (Cond.before_iff.mp (show (Jvm.Cond.and given_1 narrow_1).before args s = true from hpre))
  obtain ⟨q1, q2⟩ := and_e hg
  obtain ⟨q3, q4⟩ := and_e q2
  obtain ⟨q5, q6⟩ := and_e hn
  obtain ⟨q7, q8⟩ := and_e q6
  obtain ⟨q9, q10⟩ := and_e q8
  obtain ⟨w0, w1, rfl⟩ : ∃ w0 w1 : Value, args = #[w0, w1] := by
    have hs : args.size = 2 := by simpa [Cond.value, given_1] using q1
    obtain ⟨L⟩ := args
    match L, hs with
    | [w0, w1], _ => exact ⟨w0, w1, rfl⟩
  have hw := fun d (hd : d ∈ tables_1) => atoms_spec (ws := Jvm.Cond.code x code maxLocals ret :: tables_1) hat d (List.mem_cons_of_mem _ hd)
  have hfit : Fit s := fun {y c} hc i hi => by
    obtain ⟨ha, rfl⟩ := Array.getElem?_eq_some_iff.mp hc
    have q := List.all_eq_true.mp ((Array.all_eq_true_iff_forall_mem.mp hF) _ (Array.getElem_mem ha)) i (List.mem_range.mpr hi)
    simpa [Array.getElem?_eq_getElem hi] using q
  obtain ⟨i0, ei0⟩ := isL_v q3
  obtain rfl : w0 = (.long i0) := Option.some.inj ei0
  obtain ⟨i1, ei1⟩ := isL_v q4
  obtain rfl : w1 = (.long i1) := Option.some.inj ei1
  obtain ⟨a_Headcount_Count_PARTICIPANTS, ev_Headcount_Count_PARTICIPANTS⟩ := exa_v q5
  have E_Headcount_Count_PARTICIPANTS : Exa s s.heap a_Headcount_Count_PARTICIPANTS "com/example/izin/izin/Headcount$Count" := Exa.start ev_Headcount_Count_PARTICIPANTS q5
  have S_Headcount_Count_PARTICIPANTS : Sta s s.heap "com/example/izin/izin/Headcount$Count" "PARTICIPANTS" "Lcom/example/izin/izin/Headcount$Count;" (.ref a_Headcount_Count_PARTICIPANTS) := Sta.start ev_Headcount_Count_PARTICIPANTS (Or.inr ⟨(hw _ (List.mem_of_getElem? (i := 19) rfl)), (hw _ (List.mem_of_getElem? (i := 20) rfl))⟩)
  obtain ⟨a_Headcount_Count_ACTIVE, ev_Headcount_Count_ACTIVE⟩ := exa_v q9
  have E_Headcount_Count_ACTIVE : Exa s s.heap a_Headcount_Count_ACTIVE "com/example/izin/izin/Headcount$Count" := Exa.start ev_Headcount_Count_ACTIVE q9
  have S_Headcount_Count_ACTIVE : Sta s s.heap "com/example/izin/izin/Headcount$Count" "ACTIVE" "Lcom/example/izin/izin/Headcount$Count;" (.ref a_Headcount_Count_ACTIVE) := Sta.start ev_Headcount_Count_ACTIVE (Or.inr ⟨(hw _ (List.mem_of_getElem? (i := 19) rfl)), (hw _ (List.mem_of_getElem? (i := 37) rfl))⟩)
  have F_Headcount_Count_PARTICIPANTS_ordinal := own_fI ev_Headcount_Count_PARTICIPANTS q7
  have F_Headcount_Count_ACTIVE_ordinal := own_fI ev_Headcount_Count_ACTIVE q10
  obtain ⟨n, o, h1, h2, h3, _, L, rfl, ⟨rfl, N⟩, hq⟩ := rm_law l s _ hw tables_1 i0 i1 a_Headcount_Count_PARTICIPANTS a_Headcount_Count_ACTIVE s.heap s.heap.size (Old.start s) S_Headcount_Count_PARTICIPANTS E_Headcount_Count_PARTICIPANTS F_Headcount_Count_PARTICIPANTS_ordinal S_Headcount_Count_ACTIVE E_Headcount_Count_ACTIVE F_Headcount_Count_ACTIVE_ordinal p e ha hc hk s m _ below hf ((Spec.applies_iff_loose hf).mp happ).1 ⟨rfl, State.Warmed39.refl s, rfl⟩ trivial
  refine ⟨n, _, h1, h2, h3, hpost _ _ _ _ _ _ ⟨Cond.after_iff.mpr rfl, Cond.after_iff.mpr (eq_i res_at (Term.int_eval (1)) rfl), trivial⟩ ⟨hq.1, hq.2.1, (hq.2.2.sift fun y hy => Or.inr (N y hy)).mono (by decide) (by decide)⟩⟩
theorem main_1_1 : Claimed_1_1 := comes_1 fun _ _ _ _ _ _ h hF => ⟨h.1, hF⟩
theorem main_1_2 : Claimed_1_2 := comes_1 fun _ _ _ _ _ _ h hF => ⟨h.2.1, hF⟩
end Jvm.Pilot.@@N@@
namespace Jvm.Pilot.@@N@@
open Jvm Jvm.ClassFile Sem Op Lib Jvm.Free Jvm.Stand Jvm.Pilot.@@N@@.Jvm.D
/-! MADE BY PROGRAM (witnessworld.py) out of the Statement's table words and the real class files: 14 classes; the members and pool entries that the words name. The judged class is class 1, her method 1. -/
namespace start1
open Jvm.ClassFile
def u (s : String) : CpInfo := .utf8 (stringToUtf16 s)
/-- a pool by its gaps: so many unusable entries, then the entry; so many at the end -/
def gap : Nat → List CpInfo → List CpInfo
  | 0, r => r
  | n + 1, r => .unusable :: gap n r
def poolList (es : List (Nat × CpInfo)) (last : Nat) : List CpInfo := es.foldr (fun e r => gap e.1 (e.2 :: r)) (gap last [])
def pool (es : List (Nat × CpInfo)) (last : Nat) : Array CpInfo := ⟨poolList es last⟩
def fileOf (pool : Array CpInfo) (this : Nat) (attrs : Array Attribute := #[]) (ms : Array MethodInfo := #[]) (fl : Nat := 33) (sup : Nat := 0) (ifs : Array Nat := #[]) (fds : Array FieldInfo := #[]) : ClassFile where
  minorVersion := 0
  majorVersion := 65
  constantPool := pool
  accessFlags := fl
  thisClass := this
  superClass := sup
  interfaces := ifs
  fields := fds
  methods := ms
  attributes := attrs
def plain (name : String) (sup : Option ClassId) : Class where
  name := name
  kind := .ordinary
  loader := none
  accessFlags := 33
  super := sup
  interfaces := #[]
  cf := none
  fields := #[]
  methods := #[]
  instanceTypes := #[]
  staticTypes := #[]
  resolved := #[]
  callSites := []
  init := .initialized
  statics := none
  mirror := none

def pool0 : Array CpInfo := pool [(5, u "<init>"), (0, u "()V"), (1, .class_ 10), (1, u "java/lang/Object")] 113

def k0c0 : Code := { maxStack := 0, maxLocals := 1, code := object_method_1_code, exceptionTable := #[], attributes := #[] }
def k0m0 : Method := { name := "<init>", desc := "()V", sig := { parameters := [], returnType := none }, accessFlags := 1, code := some k0c0 }
/-- java/lang/Object -/
def k0 : Class := { plain "java/lang/Object" none with
  accessFlags := 33
  interfaces := #[]
  cf := some (fileOf pool0 8 #[] #[{ accessFlags := 1, nameIndex := 5, descriptorIndex := 6, attributes := #[] }] 33 0 #[] #[])
  fields := #[]
  methods := #[k0m0]
  instanceTypes := #[]
  staticTypes := #[]
  resolved := Array.replicate 124 none
  statics := none }

def pool1 : Array CpInfo := pool [(2, .class_ 4), (1, u "java/lang/Object"), (0, u "<init>"), (0, u "()V"), (0, .class_ 8), (0, u "com/example/izin/izin/Headcount"), (0, .methodref 7 10), (0, .nameAndType 5 11), (0, u "(JJ)V"), (0, .fieldref 13 14), (0, .class_ 15), (0, .nameAndType 16 17), (0, u "com/example/izin/izin/Headcount$Count"), (0, u "PARTICIPANTS"), (0, u "Lcom/example/izin/izin/Headcount$Count;"), (0, .methodref 13 19), (0, .nameAndType 20 21), (0, u "of"), (0, u "(Lcom/example/izin/izin/Headcount;)J"), (0, .fieldref 13 23), (0, .nameAndType 24 17), (0, u "ACTIVE"), (0, .class_ 26), (0, u "com/example/izin/izin/CountOfPinLaw"), (2, u "law"), (0, u "(JJ)Z")] 5

def k1m0 : Method := { name := "<init>", desc := "()V", sig := { parameters := [], returnType := none }, accessFlags := 2, code := none }
def k1c1 : Code := { maxStack := 6, maxLocals := 9, code := code, exceptionTable := #[], attributes := #[] }
def k1m1 : Method := { name := "law", desc := "(JJ)Z", sig := { parameters := [.long, .long], returnType := some .boolean }, accessFlags := 9, code := some k1c1 }
/-- com/example/izin/izin/CountOfPinLaw -/
def k1 : Class := { plain "com/example/izin/izin/CountOfPinLaw" (some 0) with
  accessFlags := 49
  interfaces := #[]
  cf := some (fileOf pool1 25 #[] #[{ accessFlags := 2, nameIndex := 5, descriptorIndex := 6, attributes := #[] }, { accessFlags := 9, nameIndex := 29, descriptorIndex := 30, attributes := #[] }] 49 2 #[] #[])
  fields := #[]
  methods := #[k1m0, k1m1]
  instanceTypes := #[]
  staticTypes := #[]
  resolved := Array.replicate 36 none
  statics := none }

def pool2 : Array CpInfo := pool [(1, .methodref 2 3), (0, .class_ 4), (0, .nameAndType 5 6), (0, u "java/lang/Object"), (0, u "<init>"), (0, u "()V"), (0, .class_ 8), (0, u "java/lang/Record")] 13

def k2c0 : Code := { maxStack := 1, maxLocals := 1, code := jdk_30_method_1_code, exceptionTable := #[], attributes := #[] }
def k2m0 : Method := { name := "<init>", desc := "()V", sig := { parameters := [], returnType := none }, accessFlags := 4, code := some k2c0 }
/-- java/lang/Record -/
def k2 : Class := { plain "java/lang/Record" (some 0) with
  accessFlags := 1057
  interfaces := #[]
  cf := some (fileOf pool2 7 #[] #[{ accessFlags := 4, nameIndex := 5, descriptorIndex := 6, attributes := #[] }] 1057 2 #[] #[])
  fields := #[]
  methods := #[k2m0]
  instanceTypes := #[]
  staticTypes := #[]
  resolved := Array.replicate 22 none
  statics := none }

def pool3 : Array CpInfo := pool [(1, .methodref 2 3), (0, .class_ 4), (0, .nameAndType 5 6), (0, u "java/lang/Record"), (0, u "<init>"), (0, u "()V"), (0, .fieldref 8 9), (0, .class_ 10), (0, .nameAndType 11 12), (0, u "com/example/izin/izin/Headcount"), (0, u "participants"), (0, u "J"), (0, .fieldref 8 14), (0, .nameAndType 15 12), (0, u "active"), (6, u "(JJ)V"), (18, u "NONE"), (0, u "Lcom/example/izin/izin/Headcount;"), (15, .class_ 59), (0, u "com/example/izin/izin/Headcount$Count")] 20

def k3c0 : Code := { maxStack := 3, maxLocals := 5, code := prog_15_method_1_code, exceptionTable := #[], attributes := #[] }
def k3m0 : Method := { name := "<init>", desc := "(JJ)V", sig := { parameters := [.long, .long], returnType := none }, accessFlags := 0, code := some k3c0 }
/-- com/example/izin/izin/Headcount -/
def k3 : Class := { plain "com/example/izin/izin/Headcount" (some 2) with
  accessFlags := 48
  interfaces := #[]
  cf := some (fileOf pool3 8 #[.nestMembers #[58]] #[{ accessFlags := 0, nameIndex := 5, descriptorIndex := 22, attributes := #[] }] 48 2 #[] #[{ accessFlags := 18, nameIndex := 11, descriptorIndex := 12, attributes := #[] }, { accessFlags := 18, nameIndex := 15, descriptorIndex := 12, attributes := #[] }, { accessFlags := 24, nameIndex := 41, descriptorIndex := 42, attributes := #[] }])
  fields := #[{ name := "participants", type := .long, accessFlags := 18, slot := 0, constantValue := 0 }, { name := "active", type := .long, accessFlags := 18, slot := 1, constantValue := 0 }, { name := "NONE", type := (.object "com/example/izin/izin/Headcount"), accessFlags := 24, slot := 0, constantValue := 0 }]
  methods := #[k3m0]
  instanceTypes := #[.long, .long]
  staticTypes := #[(.object "com/example/izin/izin/Headcount")]
  resolved := Array.replicate 80 none
  statics := none }

def pool4 : Array CpInfo := pool [(1, .class_ 2), (0, u "java/lang/constant/Constable"), (0, .class_ 4), (0, u "java/lang/Object")] 6

/-- java/lang/constant/Constable -/
def k4 : Class := { plain "java/lang/constant/Constable" (some 0) with
  accessFlags := 1537
  interfaces := #[]
  cf := some (fileOf pool4 1 #[] #[] 1537 3 #[] #[])
  fields := #[]
  methods := #[]
  instanceTypes := #[]
  staticTypes := #[]
  resolved := Array.replicate 11 none
  statics := none }

def pool5 : Array CpInfo := pool [(1, .class_ 2), (0, u "java/lang/Comparable"), (0, .class_ 4), (0, u "java/lang/Object")] 7

/-- java/lang/Comparable -/
def k5 : Class := { plain "java/lang/Comparable" (some 0) with
  accessFlags := 1537
  interfaces := #[]
  cf := some (fileOf pool5 1 #[] #[] 1537 3 #[] #[])
  fields := #[]
  methods := #[]
  instanceTypes := #[]
  staticTypes := #[]
  resolved := Array.replicate 12 none
  statics := none }

def pool6 : Array CpInfo := pool [(1, .class_ 2), (0, u "java/io/Serializable"), (0, .class_ 4), (0, u "java/lang/Object")] 2

/-- java/io/Serializable -/
def k6 : Class := { plain "java/io/Serializable" (some 0) with
  accessFlags := 1537
  interfaces := #[]
  cf := some (fileOf pool6 1 #[] #[] 1537 3 #[] #[])
  fields := #[]
  methods := #[]
  instanceTypes := #[]
  staticTypes := #[]
  resolved := Array.replicate 7 none
  statics := none }

def pool7 : Array CpInfo := pool [(2, .class_ 4), (1, u "java/lang/Enum"), (0, u "name"), (0, u "Ljava/lang/String;"), (0, .fieldref 2 8), (0, .nameAndType 9 10), (0, u "ordinal"), (0, u "I"), (1, .class_ 14), (1, u "java/lang/Object"), (4, u "hash"), (86, .class_ 108), (1, u "java/lang/Enum$EnumDesc"), (2, .class_ 112), (0, u "java/lang/constant/Constable"), (0, .class_ 114), (0, u "java/lang/Comparable"), (0, .class_ 116), (0, u "java/io/Serializable"), (9, u "()I")] 77

def k7c0 : Code := { maxStack := 1, maxLocals := 1, code := jdk_37_method_2_code, exceptionTable := #[], attributes := #[] }
def k7m0 : Method := { name := "ordinal", desc := "()I", sig := { parameters := [], returnType := some .int }, accessFlags := 17, code := some k7c0 }
/-- java/lang/Enum -/
def k7 : Class := { plain "java/lang/Enum" (some 0) with
  accessFlags := 1057
  interfaces := #[4, 5, 6]
  cf := some (fileOf pool7 2 #[.nestMembers #[106]] #[{ accessFlags := 17, nameIndex := 9, descriptorIndex := 126, attributes := #[] }] 1057 12 #[111, 113, 115] #[{ accessFlags := 18, nameIndex := 5, descriptorIndex := 6, attributes := #[] }, { accessFlags := 18, nameIndex := 9, descriptorIndex := 10, attributes := #[] }, { accessFlags := 2, nameIndex := 19, descriptorIndex := 10, attributes := #[] }])
  fields := #[{ name := "name", type := (.object "java/lang/String"), accessFlags := 18, slot := 0, constantValue := 0 }, { name := "ordinal", type := .int, accessFlags := 18, slot := 1, constantValue := 0 }, { name := "hash", type := .int, accessFlags := 2, slot := 2, constantValue := 0 }]
  methods := #[k7m0]
  instanceTypes := #[(.object "java/lang/String"), .int, .int]
  staticTypes := #[]
  resolved := Array.replicate 204 none
  statics := none }

def pool8 : Array CpInfo := pool [(1, .class_ 2), (0, u "com/example/izin/izin/Headcount$Count"), (2, u "PARTICIPANTS"), (0, u "Lcom/example/izin/izin/Headcount$Count;"), (2, u "ACTIVE"), (2, u "$VALUES"), (0, u "[Lcom/example/izin/izin/Headcount$Count;"), (6, .class_ 22), (1, u "java/lang/Enum"), (8, u "word"), (0, u "Ljava/lang/String;"), (0, .methodref 1 34), (0, .nameAndType 35 36), (0, u "ordinal"), (0, u "()I"), (5, .fieldref 43 44), (0, .class_ 45), (0, .nameAndType 46 47), (0, u "com/example/izin/izin/Headcount"), (0, u "participants"), (0, u "J"), (0, .fieldref 43 49), (0, .nameAndType 50 47), (0, u "active"), (18, u "of"), (0, u "(Lcom/example/izin/izin/Headcount;)J")] 10

def k8c0 : Code := { maxStack := 4, maxLocals := 2, code := prog_16_method_4_code, exceptionTable := #[], attributes := #[] }
def k8m0 : Method := { name := "of", desc := "(Lcom/example/izin/izin/Headcount;)J", sig := { parameters := [(.object "com/example/izin/izin/Headcount")], returnType := some .long }, accessFlags := 0, code := some k8c0 }
/-- com/example/izin/izin/Headcount$Count -/
def k8 : Class := { plain "com/example/izin/izin/Headcount$Count" (some 7) with
  accessFlags := 16432
  interfaces := #[]
  cf := some (fileOf pool8 1 #[.nestHost 43] #[{ accessFlags := 0, nameIndex := 69, descriptorIndex := 70, attributes := #[] }] 16432 20 #[] #[{ accessFlags := 16409, nameIndex := 5, descriptorIndex := 6, attributes := #[] }, { accessFlags := 16409, nameIndex := 9, descriptorIndex := 6, attributes := #[] }, { accessFlags := 18, nameIndex := 31, descriptorIndex := 32, attributes := #[] }, { accessFlags := 4122, nameIndex := 12, descriptorIndex := 13, attributes := #[] }])
  fields := #[{ name := "PARTICIPANTS", type := (.object "com/example/izin/izin/Headcount$Count"), accessFlags := 16409, slot := 0, constantValue := 0 }, { name := "ACTIVE", type := (.object "com/example/izin/izin/Headcount$Count"), accessFlags := 16409, slot := 1, constantValue := 0 }, { name := "word", type := (.object "java/lang/String"), accessFlags := 18, slot := 3, constantValue := 0 }, { name := "$VALUES", type := (.array (.object "com/example/izin/izin/Headcount$Count")), accessFlags := 4122, slot := 2, constantValue := 0 }]
  methods := #[k8m0]
  instanceTypes := #[(.object "java/lang/String"), .int, .int, (.object "java/lang/String")]
  staticTypes := #[(.object "com/example/izin/izin/Headcount$Count"), (.object "com/example/izin/izin/Headcount$Count"), (.array (.object "com/example/izin/izin/Headcount$Count"))]
  resolved := Array.replicate 81 none
  statics := some 0 }

def pool9 : Array CpInfo := pool [(1, u "java/lang/Cloneable"), (0, .class_ 1), (0, u "java/lang/Object"), (0, .class_ 3)] 3

/-- java/lang/Cloneable -/
def k9 : Class := { plain "java/lang/Cloneable" (some 0) with
  accessFlags := 1537
  interfaces := #[]
  cf := some (fileOf pool9 2 #[] #[] 1537 4 #[] #[])
  fields := #[]
  methods := #[]
  instanceTypes := #[]
  staticTypes := #[]
  resolved := Array.replicate 8 none
  statics := none }

/-- the primitive byte -/
def k10 : Class := { plain "byte" none with kind := .primitive 'B', accessFlags := 0x411 }
/-- [B -/
def k11 : Class := { plain "[B" (some 0) with kind := .array 10 .byte, interfaces := #[9, 6], accessFlags := 1041 }

/-- the primitive int -/
def k12 : Class := { plain "int" none with kind := .primitive 'I', accessFlags := 0x411 }
/-- [I -/
def k13 : Class := { plain "[I" (some 0) with kind := .array 12 .int, interfaces := #[9, 6], accessFlags := 1041 }

def heap : Heap := #[{ cls := 8, slots := #[.ref 1, .ref 2, .null], vm := .statics 8 },
  { cls := 8, slots := #[.null, .int 0, .int 0, .null], vm := .none },
  { cls := 8, slots := #[.null, .int 1, .int 0, .null], vm := .none }]
def classes : Array Class := #[k0, k1, k2, k3, k4, k5, k6, k7, k8, k9, k10, k11, k12, k13]
def interned : List (Array UInt16 × Addr) := []
def slotsUsed : Nat := 11
def theMethod : MethodId := ⟨1, 1⟩
def args0 : Array Value := #[.long 5, .long 7]
def aboutOver (below : List Frame) : State where
  vm := { classes := classes, interned := interned.toArray }
  heap := heap
  slotsUsed := slotsUsed
  threads := #[{ frames := .invoking theMethod args0 :: below }]
def below0 : List Frame := [.native { method := ⟨0, 0⟩, args := #[] }]
def about1 : State := aboutOver below0
def p0 : Program := .bare "" "" ""
def e0 : Env := launch0.env 0 0 0
theorem w_frames : about1.frames = Frame.invoking theMethod args0 :: below0 := rfl
set_option maxRecDepth 65536 in
theorem w_args : argsFit about1.vm theMethod args0 = true := by decide +kernel
set_option maxRecDepth 65536 in
theorem w_heap : heapFits about1 = true := by decide +kernel
set_option maxRecDepth 65536 in
theorem w_runnable : about1.curStatus? = some .runnable := by decide +kernel
set_option maxRecDepth 65536 in
theorem w_alone : about1.alone = true := by decide +kernel
set_option maxRecDepth 65536 in
theorem w_named : about1.methodNamed? x = some theMethod := by decide +kernel
set_option maxRecDepth 65536 in
theorem w_hears : about1.hears theMethod below0 = true := by decide +kernel
set_option maxRecDepth 65536 in
theorem w_ripe : about1.ripe theMethod args0 below0 = true := by decide +kernel
theorem w_running : about1.status = .running := rfl
set_option maxRecDepth 65536 in
theorem w_room : about1.hasRoom e0.platform room_1 = true :=
  launch0.hasRoom_least _ room_1 (by decide +kernel) (by decide +kernel) (by decide +kernel) (by decide +kernel) (by decide +kernel) (by decide +kernel)
theorem allAtoms_all (ts : List Jvm.Cond) (a : Array Jvm.Value) (st : Jvm.State) : (allAtoms ts).before a st = ts.all (fun c => c.before a st) := by
  induction ts with
  | nil => rfl
  | cons c t ih =>
    show (Jvm.Cond.and c (allAtoms t)).before a st = _
    rw [Jvm.Cond.before_and, ih, List.all_cons]
def words1 : List Jvm.Cond := Jvm.Cond.code x code maxLocals ret :: tables_1
/-- a 'code' word, met by the world's own term for the bytes: nothing is compared byte by byte -/
theorem code_word {y : MethodName} {bytes : ByteArray} {mx : Nat} {rt : Option FieldType} {a : Array Value} {s : State} {m : MethodId} {meth : Method} {c : Code} (h1 : s.methodNamed? y = some m) (h2 : s.vm.method? m = some meth) (h3 : meth.code = some c) (h4 : c.code = bytes)
    (h5 : (c.maxLocals == mx && c.exceptionTable.isEmpty && decide (c.maxStack ≤ mostOperands) && decide (meth.sig.returnType = rt) && !meth.locks && decide (parseMethodDescriptor y.desc = some meth.sig)) = true) : (Jvm.Cond.code y bytes mx rt).before a s = true := by
  simp only [Bool.and_eq_true, beq_iff_eq, Bool.not_eq_true', decide_eq_true_eq] at h5
  obtain ⟨⟨⟨⟨⟨g1, g2⟩, g3⟩, g4⟩, g5⟩, g6⟩ := h5
  simp [Cond.before, Cond.holds, Cond.value, h1, h2, h3, h4, g1, g2, g3, g4, g5, g6]
def isCode : Jvm.Cond → Bool
  | .code _ _ _ _ => true
  | _ => false
theorem all_split {L : List Jvm.Cond} {P : Jvm.Cond → Bool} (h1 : L.all (fun c => isCode c || P c) = true) (h2 : ∀ c ∈ L.filter isCode, P c = true) : L.all P = true := by
  refine List.all_eq_true.mpr fun c hc => ?_
  have h := List.all_eq_true.mp h1 c hc
  rcases Bool.eq_false_or_eq_true (isCode c) with hi | hi
  · exact h2 c (List.mem_filter.mpr ⟨hc, hi⟩)
  · simpa [hi] using h
set_option maxRecDepth 65536 in
theorem w_c0 : (Jvm.Cond.code x code maxLocals ret).before args0 about1 = true := code_word (m := ⟨1, 1⟩) (meth := k1m1) (c := k1c1) (by decide +kernel) rfl rfl rfl (by decide +kernel)
set_option maxRecDepth 65536 in
theorem w_c1 : (Jvm.Cond.code ({ cls := "com/example/izin/izin/Headcount", name := "<init>", desc := "(JJ)V" } : Jvm.MethodName) prog_15_method_1_code (5 : Nat) (Option.none : Option Jvm.ClassFile.FieldType)).before args0 about1 = true := code_word (m := ⟨3, 0⟩) (meth := k3m0) (c := k3c0) (by decide +kernel) rfl rfl rfl (by decide +kernel)
set_option maxRecDepth 65536 in
theorem w_c2 : (Jvm.Cond.code ({ cls := "java/lang/Record", name := "<init>", desc := "()V" } : Jvm.MethodName) jdk_30_method_1_code (1 : Nat) (Option.none : Option Jvm.ClassFile.FieldType)).before args0 about1 = true := code_word (m := ⟨2, 0⟩) (meth := k2m0) (c := k2c0) (by decide +kernel) rfl rfl rfl (by decide +kernel)
set_option maxRecDepth 65536 in
theorem w_c3 : (Jvm.Cond.code ({ cls := "java/lang/Object", name := "<init>", desc := "()V" } : Jvm.MethodName) object_method_1_code (1 : Nat) (Option.none : Option Jvm.ClassFile.FieldType)).before args0 about1 = true := code_word (m := ⟨0, 0⟩) (meth := k0m0) (c := k0c0) (by decide +kernel) rfl rfl rfl (by decide +kernel)
set_option maxRecDepth 65536 in
theorem w_c4 : (Jvm.Cond.code ({ cls := "com/example/izin/izin/Headcount$Count", name := "of", desc := "(Lcom/example/izin/izin/Headcount;)J" } : Jvm.MethodName) prog_16_method_4_code (2 : Nat) (Option.some Jvm.ClassFile.FieldType.long)).before args0 about1 = true := code_word (m := ⟨8, 0⟩) (meth := k8m0) (c := k8c0) (by decide +kernel) rfl rfl rfl (by decide +kernel)
set_option maxRecDepth 65536 in
theorem w_c5 : (Jvm.Cond.code ({ cls := "java/lang/Enum", name := "ordinal", desc := "()I" } : Jvm.MethodName) jdk_37_method_2_code (1 : Nat) (Option.some Jvm.ClassFile.FieldType.int)).before args0 about1 = true := code_word (m := ⟨7, 0⟩) (meth := k7m0) (c := k7c0) (by decide +kernel) rfl rfl rfl (by decide +kernel)
def codes1 : List Jvm.Cond := [Jvm.Cond.code x code maxLocals ret, Jvm.Cond.code ({ cls := "com/example/izin/izin/Headcount", name := "<init>", desc := "(JJ)V" } : Jvm.MethodName) prog_15_method_1_code (5 : Nat) (Option.none : Option Jvm.ClassFile.FieldType), Jvm.Cond.code ({ cls := "java/lang/Record", name := "<init>", desc := "()V" } : Jvm.MethodName) jdk_30_method_1_code (1 : Nat) (Option.none : Option Jvm.ClassFile.FieldType), Jvm.Cond.code ({ cls := "java/lang/Object", name := "<init>", desc := "()V" } : Jvm.MethodName) object_method_1_code (1 : Nat) (Option.none : Option Jvm.ClassFile.FieldType), Jvm.Cond.code ({ cls := "com/example/izin/izin/Headcount$Count", name := "of", desc := "(Lcom/example/izin/izin/Headcount;)J" } : Jvm.MethodName) prog_16_method_4_code (2 : Nat) (Option.some Jvm.ClassFile.FieldType.long), Jvm.Cond.code ({ cls := "java/lang/Enum", name := "ordinal", desc := "()I" } : Jvm.MethodName) jdk_37_method_2_code (1 : Nat) (Option.some Jvm.ClassFile.FieldType.int)]
set_option maxRecDepth 65536 in
theorem codes_eq : words1.filter isCode = codes1 := rfl
theorem w_codes : ∀ c ∈ words1.filter isCode, c.before args0 about1 = true := by
  rw [codes_eq]
  intro c hc
  simp only [codes1, List.mem_cons, List.not_mem_nil, or_false] at hc
  rcases hc with rfl | rfl | rfl | rfl | rfl | rfl
  · exact w_c0
  · exact w_c1
  · exact w_c2
  · exact w_c3
  · exact w_c4
  · exact w_c5
set_option maxRecDepth 65536 in
theorem w_t1 : (words1.take 24).all (fun c => isCode c || c.before args0 about1) = true := by decide +kernel
set_option maxRecDepth 65536 in
theorem w_t2 : (words1.drop 24).all (fun c => isCode c || c.before args0 about1) = true := by decide +kernel
theorem w_tables : (allAtoms (Jvm.Cond.code x code maxLocals ret :: tables_1)).before args0 about1 = true := by
  rw [allAtoms_all]
  show words1.all (fun c => c.before args0 about1) = true
  refine all_split ?_ w_codes
  rw [← List.take_append_drop 24 words1, List.all_append, w_t1, w_t2]
  rfl
set_option maxRecDepth 65536 in
theorem w_case : (Jvm.Cond.and given_1 narrow_1).before args0 about1 = true := by decide +kernel
theorem w_applies : (headSpec (Jvm.Cond.code x code maxLocals ret :: tables_1) room_1).applies x e0.platform about1 = true :=
  (Spec.applies_iff w_frames).mpr ⟨w_running, w_runnable, w_alone, w_named, w_hears, w_ripe, w_room, w_tables⟩
theorem atStart : AtStart classFile x code maxLocals ret World_1 tables_1 room_1 Calls_1 rest_1 Pre_1 launch0 p0 e0 about1 theMethod args0 below0 :=
  ⟨lists_1, trivial, launch0.admits_env _ _ _, launch0.least_env, fairChoices_fair.cas, fairChoices_fair.clock, w_frames, w_args, w_heap, w_applies, trivial, trivial, w_case⟩
end start1
theorem witness_1 : WitnessClaimed_1 := ⟨start1.p0, start1.e0, start1.about1, start1.theMethod, start1.args0, start1.below0, start1.atStart⟩
end Jvm.Pilot.@@N@@
