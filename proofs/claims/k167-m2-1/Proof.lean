import JvmDerived
import JvmDerived.Pilot.@@N@@Statement
import JvmDerived.Pilot.@@N@@Code
set_option linter.unusedVariables false
set_option linter.unusedSimpArgs false
namespace Jvm.Pilot.@@N@@
open Jvm Jvm.ClassFile Sem Op Lib Jvm.Free Jvm.Stand Jvm.LawKit Jvm.RoadKit Bundle Jvm.Pilot.@@N@@.Jvm.D
theorem own_lt {x y : Int32} (h : x < y) : if_icmp.holds .lt x y = true ∧ if_icmp.holds .ge x y = false := by simp [if_icmp.holds, h, Int32.not_le.mpr h]
def own_Goes (p : Program) (e : Env) (below : List Frame) (s : State) (Q : Option Value → Heap → List Loc → Prop) (kc ks : Nat) (U : State) : Prop :=
  ∃ t o, Steps p.tables e below U t ∧ t.status = .running ∧ Ended t below o ∧ ∃ v L, o = .returned v ∧ Q v t.heap L ∧ FrameEnd s o t L kc ks
theorem own_go {p : Program} {e : Env} {below : List Frame} {s : State} {Q : Option Value → Heap → List Loc → Prop} {kc ks : Nat} {U V : State} (h : ∀ t, Steps p.tables e below V t → Steps p.tables e below U t) (g : own_Goes p e below s Q kc ks V) : own_Goes p e below s Q kc ks U := by
  obtain ⟨t, o, h1, r⟩ := g
  exact ⟨t, o, h t h1, r⟩
theorem own_out {p : Program} {l : Launch} {e : Env} {R : Room} {s : State} {m : MethodId} {args : Array Value} {below : List Frame} {meth : Method} {c : Code} {T : State} {locs : List Loc} {cells slots : Nat} {h : Heap} {Q : Option Value → Heap → List Loc → Prop} {kc ks : Nat} {U : State} {v : Option Value}
    (X : Stand p l e R s m args below meth c T locs cells slots) (hlk : meth.locks = false) (hv : meth.sig.returnType = none → v = none)
    (hs : ∀ fs, (∀ (f : JFrame) (acts : List Action), f.method = m → f.locked = none → f.entered = [] → (doReturn e (T.setTop f) acts v).1 = T.setFrames fs) → Steps p.tables e below U (T.setFrames fs))
    (eT : T.heap = h) (hQ : Q v h locs) (hc : cells ≤ kc) (hsl : slots ≤ ks) : own_Goes p e below s Q kc ks U := by
  obtain ⟨fs, hr, hrun, hended, hW, hsame⟩ := X.leave hv hlk
  subst eT
  exact ⟨_, _, hs fs hr, hrun, hended, _, _, rfl, hQ, ⟨_, rfl⟩, hW, hsame.mono hc hsl⟩
theorem own_ks {h0 h : Heap} {ws : List Addr} (K : Keep h0 h ws) : h0.size ≤ h.size := K.1
theorem own_cmpL (x : Int64) : XT.cmpL x x = 0 := by simp [XT.cmpL]
theorem own_vne {a b : Int32} (h : a ≠ b) : Value.int a ≠ .int b := fun q => h (Value.int.inj q)
theorem own_nn (x : Int32) : ¬ (x &&& 2147483647) < 0 := fun h => absurd ((XT.and_neg32 x 2147483647).mp h).2 (by decide)
theorem own_lk {p : Program} {l : Launch} {x : MethodName} {S : Spec} {code : ByteArray} {maxLocals : Nat} {ret : Option FieldType} {e : Env} {s : State} {m : MethodId} {args : Array Value} {below : List Frame} {meth : Method} {c : Code} {s₁ : State} (B : BodyLoose p l x S code maxLocals ret e s m args below meth c s₁) : meth.locks = false := B.notSynchronized
theorem own_if (cd : ClassFile.Cond) {x : Int32} {b : Bool} (h : if_icmp.holds cd x 0 = b) : ifCond.holds cd x = b := by rw [if0]; exact h
theorem own_aeq {a b : Addr} (h : a = b) : XT.acmp .eq (.ref a) (.ref b) = true ∧ XT.acmp .ne (.ref a) (.ref b) = false := by subst h; exact ⟨XT.aa_eq_t rfl, XT.aa_ne_f rfl⟩
theorem own_ane {a b : Addr} (h : ¬ a = b) : XT.acmp .eq (.ref a) (.ref b) = false ∧ XT.acmp .ne (.ref a) (.ref b) = true := ⟨XT.aa_eq_f (fun q => h (Value.ref.inj q)), XT.aa_ne_t (fun q => h (Value.ref.inj q))⟩
theorem own_eqI {args : Array Value} {s : State} {u : Term} {k : Int32} (h : (Jvm.Cond.eq u (.int k)).value args s none s [] = some true) : u.eval args s none [] s = some (.int k) := by
  simp only [Jvm.Cond.value] at h
  cases hf : u.eval args s none [] s with
  | none => simp [hf] at h
  | some v => cases v <;> simp [hf, Term.eval] at h; subst h; rfl
theorem own_eqJ {args : Array Value} {s : State} {u : Term} {k : Int64} (h : (Jvm.Cond.eq u (.long k)).value args s none s [] = some true) : u.eval args s none [] s = some (.long k) := by
  simp only [Jvm.Cond.value] at h
  cases hf : u.eval args s none [] s with
  | none => simp [hf] at h
  | some v => cases v <;> simp [hf, Term.eval] at h; subst h; rfl
theorem own_cl_gt (x y : Int64) : 0 < XT.cmpL x y ↔ y < x := by
  unfold XT.cmpL
  by_cases h : y < x
  · simp [h]
  · by_cases g : x = y
    · subst g; simp [h]
    · simp [h, g]
theorem own_cl_lt (x y : Int64) : XT.cmpL x y < 0 ↔ x < y := by
  unfold XT.cmpL
  by_cases h : y < x
  · have : ¬ x < y := fun q => by rw [Int64.lt_iff_toInt_lt] at h q; omega
    simp [h, this]
  · by_cases g : x = y
    · subst g; simp [h]
    · have : x < y := by
        rw [Int64.lt_iff_toInt_lt] at h ⊢
        have ne : x.toInt ≠ y.toInt := fun q => g (Int64.toInt_inj.mp q)
        omega
      simp [h, g, this]
theorem own_privateBack {p : Program} {l : Launch} {e : Env} {R : Room} {s : State} {m : MethodId} {args : Array Value} {below : List Frame} {meth : Method} {c : Code} {T : State} {locs : List Loc} {cells slots : Nat}
    (X : Stand p l e R s m args below meth c T locs cells slots) (hexec : p.tables.exec = Jvm.exec) {own : String} {index k : Nat} {y : MethodName} {bytes : ByteArray} {maxL : Nat} {ret : Option FieldType}
    (hown : s.vm.findClass own = some m.cls) (hlink : (Jvm.Cond.methodLink own index y).before args s = true) (hinst : (Jvm.Cond.instanceMethod y).before args s = true) (hmk : (Jvm.Cond.instantiable y.cls k).before args s = true)
    (hpriv : s.PrivateAt y) (hcode : (Jvm.Cond.code y bytes maxL ret).before args s = true) (hy : y.cls ≠ "java/lang/invoke/MethodHandle" ∧ y.cls ≠ "java/lang/invoke/VarHandle")
    {W : Nat} {Pre : Free.Pt → Array Value → Prop} {Post : Free.Pt → Array Value → Option Value → Free.Pt → Prop} (hK : Free.Back l R p e below s args y 3 W Pre Post)
    {g : JFrame} (hg : g.method = m) (hsize : g.locals.size = c.maxLocals) {s₀ : State} (hcome : Steps p.tables e below s₀ (T.setTop g)) {a : Addr} {cell : Cell} (hcell : T.heap[a]? = some cell) (hobj : ∀ q, cell.vm ≠ .statics q)
    {argsL rest : List Value} (hlen : ∀ sig, parseMethodDescriptor y.desc = some sig → argsL.length = sig.parameters.length)
    (hstack : g.stack = argsL.reverse ++ .ref a :: rest) (hW : 2 * g.monitorRoom + (rest.map fun v => v.category).sum ≤ W) (hdg : decode c.code g.pc = .ok (.invokevirtual index, 3))
    (hpre : ∀ vm₁, s.WarmedH vm₁ → Pre ⟨T.setVm vm₁, locs, cells, slots⟩ (.ref a :: argsL).toArray) :
    ∃ (v : Option Value) (vm₁ : Vm) (B : Free.Pt), s.WarmedH vm₁ ∧ Stand p l e R s m args below meth c B.U B.locs B.cells B.slots ∧ Post ⟨T.setVm vm₁, locs, cells, slots⟩ (.ref a :: argsL).toArray v B ∧
      Steps p.tables e below s₀ (B.U.setTop { g with pc := g.pc + 3, stack := v.toList ++ rest }) := by
  obtain ⟨mk, r, named, found, inst, abs⟩ := Cond.instanceMethod_spec hinst
  obtain ⟨r', cM, found', -, -, -, -, -, -, sig⟩ := Cond.code_spec named hcode
  cases found.symm.trans found'
  obtain ⟨cC, kC, k1, k2, -, k4, -⟩ := Cond.instantiable_spec hmk
  cases (findClass_of_methodNamed named).symm.trans k1
  have face : kC.isInterface = false := (Bool.or_eq_false_iff.mp k4).1
  have sel : selectMethod e.platform s.vm cell.cls mk = .method mk := selectMethod_private found (hpriv mk r named found)
  obtain ⟨vm₁, X₁, go⟩ := X.invokevirtual hexec hown hlink named found inst k2 face hy (a := a) (cell := cell) hcell hobj sel found abs k2 face (g := g) hg (argsL := argsL) (rest := rest) (hlen _ sig) hstack hdg
  obtain ⟨v, B, X', post, back⟩ := hK m meth c ⟨T.setVm vm₁, locs, cells, slots⟩ { g with stack := rest } (.invokevirtual index) mk (.ref a :: argsL).toArray X₁ hg hsize hdg hW (X₁.named named) (hpre vm₁ X₁.warmed)
  exact ⟨v, vm₁, B, X₁.warmed, X', post, (hcome.trans (go _ fun acts => by rw [doInvoke_state]; exact Steps.refl _)).trans back⟩
theorem own_fitR {C : String} {v : Value} (h : v.isRef = true) : fits (.object C) v = true := by rcases ref_cases h with rfl | ⟨a, rfl⟩ <;> rfl
theorem own_fI {args : Array Value} {s : State} {t : Term} {a : Addr} {O n d : String} {k : Int32} (ev : t.eval args s none [] s = some (.ref a)) (h : (Jvm.Cond.eq (.field t O n d) (.int k)).value args s none s [] = some true) : Fld s s.heap a O n d (.int k) := by
  refine Fld.start ?_
  simp only [Jvm.Cond.value, fld_at ev] at h
  cases hf : s.fieldOf? a O n d with
  | none => simp [hf] at h
  | some v => cases v <;> simp [hf, Term.eval] at h; subst h; rfl
theorem own_fJ {args : Array Value} {s : State} {t : Term} {a : Addr} {O n d : String} {k : Int64} (ev : t.eval args s none [] s = some (.ref a)) (h : (Jvm.Cond.eq (.field t O n d) (.long k)).value args s none s [] = some true) : Fld s s.heap a O n d (.long k) := by
  refine Fld.start ?_
  simp only [Jvm.Cond.value, fld_at ev] at h
  cases hf : s.fieldOf? a O n d with
  | none => simp [hf] at h
  | some v => cases v <;> simp [hf, Term.eval] at h; subst h; rfl
theorem own_fN {args : Array Value} {s : State} {t : Term} {a : Addr} {O n d : String} (ev : t.eval args s none [] s = some (.ref a)) (h : (Jvm.Cond.eq (.field t O n d) .null).value args s none s [] = some true) : Fld s s.heap a O n d .null := Fld.start ((fld_at ev).symm.trans (null_v h))
theorem pn_0 : plainName "java/lang/Record" = true := by first | (simp [plainName, overriddenIn]; done) | decide +kernel
theorem pn_1 : plainName "org/graticule/result/Tally" = true := by first | (simp [plainName, overriddenIn]; done) | decide +kernel
theorem pn_2 : plainName "java/lang/Enum" = true := by first | (simp [plainName, overriddenIn]; done) | decide +kernel
theorem pn_3 : plainName "org/graticule/result/TallyFieldsPinLaw" = true := by first | (simp [plainName, overriddenIn]; done) | decide +kernel
theorem pd_0 : parseMethodDescriptor "()V" = some ⟨[], none⟩ := by decide +kernel
theorem pd_1 : parseMethodDescriptor "()I" = some ⟨[], some .int⟩ := by decide +kernel
theorem pd_2 : parseMethodDescriptor "(JJJJ)V" = some ⟨[.long, .long, .long, .long], none⟩ := by decide +kernel
theorem pd_3 : parseMethodDescriptor "()J" = some ⟨[], some .long⟩ := by decide +kernel
theorem pd_4 : parseMethodDescriptor "(Lorg/graticule/core/Conversion$Status;)J" = some ⟨[(.object "org/graticule/core/Conversion$Status")], some .long⟩ := by decide +kernel
theorem d2_0 : decode jdk_30_method_1_code 0 = .ok (.aload_n 0, 1) := by decide +kernel
theorem d2_1 : decode jdk_30_method_1_code 1 = .ok (.invokespecial 1, 3) := by decide +kernel
theorem d2_4 : decode jdk_30_method_1_code 4 = .ok (.return_, 1) := by decide +kernel
theorem ef_recinit (m : MethodId) (a : Addr) : entryFrame m #[(.ref a)] 1 = mkF m 0 #[.val (.ref a)] [] := by first | (simp [entryFrame, mkF, argsToLocals, Value.category]; done) | rfl
def Q_recinit (Z : State) (a : Addr) (h0 : Heap) (n0 : Nat) (v : Option Value) (h : Heap) (L : List Loc) : Prop := v = none ∧ Fr n0 L ∧ h = h0
set_option maxRecDepth 65536 in
set_option maxHeartbeats 40000000 in
theorem rm_recinit (l : Launch) (Z : State) (a0 : Array Value) (hw : ∀ d ∈ tables_1, d.before a0 Z = true) (ws : List Jvm.Cond) (a : Addr) (h0 : Heap) (n0 : Nat) (O0 : Old Z n0 h0) :
    MetFree l (⟨"java/lang/Record", "<init>", "()V"⟩ : MethodName) (head1 (Jvm.Cond.code (⟨"java/lang/Record", "<init>", "()V"⟩ : MethodName) jdk_30_method_1_code 1 none :: ws) ({ frames := 1, cells := 0, slots := 0, locals := 12 } : Room)) (fun av_ U => av_ = #[(.ref a)] ∧ Z.Warmed39 U.vm ∧ U.heap = h0) (fun _ _ _ _ _ => True) (fun _ U o_ U' => ∃ v L, o_ = .returned v ∧ Q_recinit Z a h0 n0 v U'.heap L ∧ FrameEnd U o_ U' L ({ frames := 1, cells := 0, slots := 0, locals := 12 } : Room).cells ({ frames := 1, cells := 0, slots := 0, locals := 12 } : Room).slots) := by
  refine MetFree.of_bodySF (plainFor_of_name pn_0) hisR ?_
  intro p e s m args below meth c s₁ Bd hml0 hP hK
  obtain ⟨rfl, hZ, hh⟩ := hP
  have hx := Bd.exec
  have hby := Bd.bytes
  have hml : c.maxLocals = 1 := hml0
  have hown : s.vm.findClass "java/lang/Record" = some m.cls := findClass_of_methodNamed Bd.named
  have hnm := (name_of_methodNamed Bd.named Bd.method).1
  have hlk := own_lk Bd
  have hret := Bd.returns
  have X0 : Stand p l e ({ frames := 1, cells := 0, slots := 0, locals := 12 } : Room) s m #[(.ref a)] below meth c s₁ [] 0 0 := Stand.of_body Bd
  have e0 : s₁.heap = h0 := by rw [← hh, Bd.state]; rfl
  have N0 := Fr.nil n0
  show own_Goes p e below s (Q_recinit Z a h0 n0) ({ frames := 1, cells := 0, slots := 0, locals := 12 } : Room).cells ({ frames := 1, cells := 0, slots := 0, locals := 12 } : Room).slots (s₁.setTop (entryFrame m #[(.ref a)] 1))
  refine own_go (fun _ ww => castTop (ef_recinit m a) ww) ?_
  show own_Goes _ _ _ _ _ _ _ (s₁.setTop (mkF m 0 #[.val (.ref a)] []))
  refine own_go (fun _ ww => XS.aloadN X0.here hx rfl (hb hby d2_0) rfl rfl ww) ?_
  show own_Goes _ _ _ _ _ _ _ (s₁.setTop (mkF m 1 #[.val (.ref a)] [(.ref a)]))
  obtain ⟨T1, X1, e1, st1⟩ := initO X0 hx hZ hown (hw _ (List.mem_of_getElem? (i := 11) rfl)) (hw _ (List.mem_of_getElem? (i := 12) rfl)) (hw _ (List.mem_of_getElem? (i := 13) rfl)) e0 (g := (mkF m 1 #[.val (.ref a)] [(.ref a)])) rfl (by rw [hml]; rfl) rfl (hb hby d2_1) (by decide) (W := 0) (by show 2 * 0 + _ ≤ _; exact Nat.le_of_eq rfl) (by decide)
  refine own_go st1 ?_
  show own_Goes _ _ _ _ _ _ _ (T1.setTop (mkF m 4 #[.val (.ref a)] []))
  exact own_out X1 hlk (v := none) (fun _ => rfl) (fun fs hr => X1.returnOut hx hret (hb hby d2_4) hr) e1 ⟨rfl, N0, rfl⟩ (by decide) (by decide)
theorem d1_0 : decode prog_21_method_1_code 0 = .ok (.aload_n 0, 1) := by decide +kernel
theorem d1_1 : decode prog_21_method_1_code 1 = .ok (.invokespecial 1, 3) := by decide +kernel
theorem d1_4 : decode prog_21_method_1_code 4 = .ok (.aload_n 0, 1) := by decide +kernel
theorem d1_5 : decode prog_21_method_1_code 5 = .ok (.lload_n 1, 1) := by decide +kernel
theorem d1_6 : decode prog_21_method_1_code 6 = .ok (.putfield 7, 3) := by decide +kernel
theorem d1_9 : decode prog_21_method_1_code 9 = .ok (.aload_n 0, 1) := by decide +kernel
theorem d1_10 : decode prog_21_method_1_code 10 = .ok (.lload_n 3, 1) := by decide +kernel
theorem d1_11 : decode prog_21_method_1_code 11 = .ok (.putfield 13, 3) := by decide +kernel
theorem d1_14 : decode prog_21_method_1_code 14 = .ok (.aload_n 0, 1) := by decide +kernel
theorem d1_15 : decode prog_21_method_1_code 15 = .ok (.lload 5, 2) := by decide +kernel
theorem d1_17 : decode prog_21_method_1_code 17 = .ok (.putfield 16, 3) := by decide +kernel
theorem d1_20 : decode prog_21_method_1_code 20 = .ok (.aload_n 0, 1) := by decide +kernel
theorem d1_21 : decode prog_21_method_1_code 21 = .ok (.lload 7, 2) := by decide +kernel
theorem d1_23 : decode prog_21_method_1_code 23 = .ok (.putfield 19, 3) := by decide +kernel
theorem d1_26 : decode prog_21_method_1_code 26 = .ok (.return_, 1) := by decide +kernel
theorem ef_init (m : MethodId) (a : Addr) (x1 : Int64) (x2 : Int64) (x3 : Int64) (x4 : Int64) : entryFrame m #[(.ref a), (.long x1), (.long x2), (.long x3), (.long x4)] 9 = mkF m 0 #[.val (.ref a), .val (.long x1), .second, .val (.long x2), .second, .val (.long x3), .second, .val (.long x4), .second] [] := by first | (simp [entryFrame, mkF, argsToLocals, Value.category]; done) | rfl
def Q_init (Z : State) (a : Addr) (x1 : Int64) (x2 : Int64) (x3 : Int64) (x4 : Int64) (h0 : Heap) (n0 : Nat) (v : Option Value) (h : Heap) (L : List Loc) : Prop := v = none ∧ Fr n0 L ∧ Keep h0 h [a] ∧ Fld Z h a "org/graticule/result/Tally" "records" "J" (.long x1) ∧ Fld Z h a "org/graticule/result/Tally" "converted" "J" (.long x2) ∧ Fld Z h a "org/graticule/result/Tally" "repaired" "J" (.long x3) ∧ Fld Z h a "org/graticule/result/Tally" "rejected" "J" (.long x4)
set_option maxRecDepth 65536 in
set_option maxHeartbeats 40000000 in
theorem rm_init (l : Launch) (Z : State) (a0 : Array Value) (hw : ∀ d ∈ tables_1, d.before a0 Z = true) (ws : List Jvm.Cond) (a : Addr) (x1 : Int64) (x2 : Int64) (x3 : Int64) (x4 : Int64) (h0 : Heap) (n0 : Nat) (O0 : Old Z n0 h0) (F0 : Fld Z h0 a "org/graticule/result/Tally" "records" "J" (.long (0 : Int64))) (F1 : Fld Z h0 a "org/graticule/result/Tally" "converted" "J" (.long (0 : Int64))) (F2 : Fld Z h0 a "org/graticule/result/Tally" "repaired" "J" (.long (0 : Int64))) (F3 : Fld Z h0 a "org/graticule/result/Tally" "rejected" "J" (.long (0 : Int64))) (Ea : Exa Z h0 a "org/graticule/result/Tally") (g_a : n0 ≤ a) :
    MetFree l (⟨"org/graticule/result/Tally", "<init>", "(JJJJ)V"⟩ : MethodName) (head1 (Jvm.Cond.code (⟨"org/graticule/result/Tally", "<init>", "(JJJJ)V"⟩ : MethodName) prog_21_method_1_code 9 none :: ws) ({ frames := 2, cells := 0, slots := 0, locals := 24 } : Room)) (fun av_ U => av_ = #[(.ref a), (.long x1), (.long x2), (.long x3), (.long x4)] ∧ Z.Warmed39 U.vm ∧ U.heap = h0) (fun _ _ _ _ _ => True) (fun _ U o_ U' => ∃ v L, o_ = .returned v ∧ Q_init Z a x1 x2 x3 x4 h0 n0 v U'.heap L ∧ FrameEnd U o_ U' L ({ frames := 2, cells := 0, slots := 0, locals := 24 } : Room).cells ({ frames := 2, cells := 0, slots := 0, locals := 24 } : Room).slots) := by
  refine MetFree.of_bodySF (plainFor_of_name pn_1) hisR ?_
  intro p e s m args below meth c s₁ Bd hml0 hP hK
  obtain ⟨rfl, hZ, hh⟩ := hP
  have hx := Bd.exec
  have hby := Bd.bytes
  have hml : c.maxLocals = 9 := hml0
  have hown : s.vm.findClass "org/graticule/result/Tally" = some m.cls := findClass_of_methodNamed Bd.named
  have hnm := (name_of_methodNamed Bd.named Bd.method).1
  have hlk := own_lk Bd
  have hret := Bd.returns
  have X0 : Stand p l e ({ frames := 2, cells := 0, slots := 0, locals := 24 } : Room) s m #[(.ref a), (.long x1), (.long x2), (.long x3), (.long x4)] below meth c s₁ [] 0 0 := Stand.of_body Bd
  have e0 : s₁.heap = h0 := by rw [← hh, Bd.state]; rfl
  have N0 := Fr.nil n0
  show own_Goes p e below s (Q_init Z a x1 x2 x3 x4 h0 n0) ({ frames := 2, cells := 0, slots := 0, locals := 24 } : Room).cells ({ frames := 2, cells := 0, slots := 0, locals := 24 } : Room).slots (s₁.setTop (entryFrame m #[(.ref a), (.long x1), (.long x2), (.long x3), (.long x4)] 9))
  refine own_go (fun _ ww => castTop (ef_init m a x1 x2 x3 x4) ww) ?_
  show own_Goes _ _ _ _ _ _ _ (s₁.setTop (mkF m 0 #[.val (.ref a), .val (.long x1), .second, .val (.long x2), .second, .val (.long x3), .second, .val (.long x4), .second] []))
  refine own_go (fun _ ww => XS.aloadN X0.here hx rfl (hb hby d1_0) rfl rfl ww) ?_
  show own_Goes _ _ _ _ _ _ _ (s₁.setTop (mkF m 1 #[.val (.ref a), .val (.long x1), .second, .val (.long x2), .second, .val (.long x3), .second, .val (.long x4), .second] [(.ref a)]))
  obtain ⟨_, _, ⟨T2, L2, k2, n2⟩, -, X2, ⟨Lc2, hQ2, l2, y2, z2⟩, st2⟩ := X0.specialBack hx (y := (⟨"java/lang/Record", "<init>", "()V"⟩ : MethodName)) rfl hown (mvT hZ (hw _ (List.mem_of_getElem? (i := 6) rfl))) (mvT hZ (hw _ (List.mem_of_getElem? (i := 7) rfl))) (mvT hZ (hw _ (List.mem_of_getElem? (i := 10) rfl))) (by decide) (backOf (W := 0) (rm_recinit l Z a0 hw [] a h0 n0 O0 ) hZ (hw _ (List.mem_of_getElem? (i := 10) rfl)) (hw _ (List.mem_of_getElem? (i := 9) rfl)) (by decide) (by decide)) (g := (mkF m 1 #[.val (.ref a), .val (.long x1), .second, .val (.long x2), .second, .val (.long x3), .second, .val (.long x4), .second] [(.ref a)])) rfl (by rw [hml]; rfl) (Steps.refl _) (a := a) (argsL := []) (rest := []) (lenOf pd_0 rfl) rfl (by show 2 * 0 + _ ≤ _; exact Nat.le_of_eq rfl) (hb hby d1_1) (fun _ _ => ⟨rfl, e0, (by decide : 0 + 0 ≤ _), (by decide : 0 + 0 ≤ _)⟩)
  dsimp only [Pt.U, Pt.locs, Pt.cells, Pt.slots] at X2 l2 y2 z2 st2 hQ2
  subst l2 y2 z2
  obtain ⟨rfl, N2q, e2⟩ := hQ2
  have N2 := Fr.app N0 N2q
  refine own_go (fun _ ww => Steps.trans st2 ww) ?_
  show own_Goes _ _ _ _ _ _ _ (T2.setTop (mkF m 4 #[.val (.ref a), .val (.long x1), .second, .val (.long x2), .second, .val (.long x3), .second, .val (.long x4), .second] []))
  refine own_go (fun _ ww => XS.aloadN X2.here hx rfl (hb hby d1_4) rfl rfl ww) ?_
  show own_Goes _ _ _ _ _ _ _ (T2.setTop (mkF m 5 #[.val (.ref a), .val (.long x1), .second, .val (.long x2), .second, .val (.long x3), .second, .val (.long x4), .second] [(.ref a)]))
  refine own_go (fun _ ww => XT.lloadN X2.here hx rfl (hb hby d1_5) rfl  ww) ?_
  show own_Goes _ _ _ _ _ _ _ (T2.setTop (mkF m 6 #[.val (.ref a), .val (.long x1), .second, .val (.long x2), .second, .val (.long x3), .second, .val (.long x4), .second] [(.long x1), (.ref a)]))
  obtain ⟨T3, h3, X3, e3, W3, st3⟩ := putF X2 hx hZ hown (host := "") (Or.inl (hw _ (List.mem_of_getElem? (i := 14) rfl))) Via.refl e2 F0 Ea (Or.inr ⟨(hw _ (List.mem_of_getElem? (i := 15) rfl)), rfl, hnm⟩) (hw _ (List.mem_of_getElem? (i := 1) rfl)) (ty := .long) (by decide) rfl rfl (g := (mkF m 6 #[.val (.ref a), .val (.long x1), .second, .val (.long x2), .second, .val (.long x3), .second, .val (.long x4), .second] [(.long x1), (.ref a)])) rfl rfl (hb hby d1_6)
  have f4 : Fld Z h3 a "org/graticule/result/Tally" "records" "J" (.long x1) := (F0.same W3)
  have f5 : Fld Z h3 a "org/graticule/result/Tally" "converted" "J" (.long (0 : Int64)) := (F1.other W3 (Or.inr (slot_ne (Or.inr (hw _ (List.mem_of_getElem? (i := 17) rfl))) (Or.inr (hw _ (List.mem_of_getElem? (i := 15) rfl))) (by decide) (t := .long) (t' := .long) (by decide) (by decide))))
  have f6 : Fld Z h3 a "org/graticule/result/Tally" "repaired" "J" (.long (0 : Int64)) := (F2.other W3 (Or.inr (slot_ne (Or.inr (hw _ (List.mem_of_getElem? (i := 19) rfl))) (Or.inr (hw _ (List.mem_of_getElem? (i := 15) rfl))) (by decide) (t := .long) (t' := .long) (by decide) (by decide))))
  have f7 : Fld Z h3 a "org/graticule/result/Tally" "rejected" "J" (.long (0 : Int64)) := (F3.other W3 (Or.inr (slot_ne (Or.inr (hw _ (List.mem_of_getElem? (i := 21) rfl))) (Or.inr (hw _ (List.mem_of_getElem? (i := 15) rfl))) (by decide) (t := .long) (t' := .long) (by decide) (by decide))))
  have f8 : Exa Z h3 a "org/graticule/result/Tally" := (Ea.wr W3)
  have N3 := Fr.snoc X3 N2 g_a
  have O3 := O0.wr W3 g_a
  have K3 := (Keep.refl h0 [a]).wr W3 (Or.inl (List.mem_of_getElem? (i := 0) rfl))
  refine own_go st3 ?_
  show own_Goes _ _ _ _ _ _ _ (T3.setTop (mkF m 9 #[.val (.ref a), .val (.long x1), .second, .val (.long x2), .second, .val (.long x3), .second, .val (.long x4), .second] []))
  refine own_go (fun _ ww => XS.aloadN X3.here hx rfl (hb hby d1_9) rfl rfl ww) ?_
  show own_Goes _ _ _ _ _ _ _ (T3.setTop (mkF m 10 #[.val (.ref a), .val (.long x1), .second, .val (.long x2), .second, .val (.long x3), .second, .val (.long x4), .second] [(.ref a)]))
  refine own_go (fun _ ww => XT.lloadN X3.here hx rfl (hb hby d1_10) rfl  ww) ?_
  show own_Goes _ _ _ _ _ _ _ (T3.setTop (mkF m 11 #[.val (.ref a), .val (.long x1), .second, .val (.long x2), .second, .val (.long x3), .second, .val (.long x4), .second] [(.long x2), (.ref a)]))
  obtain ⟨T9, h9, X9, e9, W9, st9⟩ := putF X3 hx hZ hown (host := "") (Or.inl (hw _ (List.mem_of_getElem? (i := 16) rfl))) Via.refl e3 f5 f8 (Or.inr ⟨(hw _ (List.mem_of_getElem? (i := 17) rfl)), rfl, hnm⟩) (hw _ (List.mem_of_getElem? (i := 1) rfl)) (ty := .long) (by decide) rfl rfl (g := (mkF m 11 #[.val (.ref a), .val (.long x1), .second, .val (.long x2), .second, .val (.long x3), .second, .val (.long x4), .second] [(.long x2), (.ref a)])) rfl rfl (hb hby d1_11)
  have f10 : Fld Z h9 a "org/graticule/result/Tally" "records" "J" (.long x1) := (f4.other W9 (Or.inr (slot_ne (Or.inr (hw _ (List.mem_of_getElem? (i := 15) rfl))) (Or.inr (hw _ (List.mem_of_getElem? (i := 17) rfl))) (by decide) (t := .long) (t' := .long) (by decide) (by decide))))
  have f11 : Fld Z h9 a "org/graticule/result/Tally" "converted" "J" (.long x2) := (f5.same W9)
  have f12 : Fld Z h9 a "org/graticule/result/Tally" "repaired" "J" (.long (0 : Int64)) := (f6.other W9 (Or.inr (slot_ne (Or.inr (hw _ (List.mem_of_getElem? (i := 19) rfl))) (Or.inr (hw _ (List.mem_of_getElem? (i := 17) rfl))) (by decide) (t := .long) (t' := .long) (by decide) (by decide))))
  have f13 : Fld Z h9 a "org/graticule/result/Tally" "rejected" "J" (.long (0 : Int64)) := (f7.other W9 (Or.inr (slot_ne (Or.inr (hw _ (List.mem_of_getElem? (i := 21) rfl))) (Or.inr (hw _ (List.mem_of_getElem? (i := 17) rfl))) (by decide) (t := .long) (t' := .long) (by decide) (by decide))))
  have f14 : Exa Z h9 a "org/graticule/result/Tally" := (f8.wr W9)
  have N9 := Fr.snoc X9 N3 g_a
  have O9 := O3.wr W9 g_a
  have K9 := K3.wr W9 (Or.inl (List.mem_of_getElem? (i := 0) rfl))
  refine own_go st9 ?_
  show own_Goes _ _ _ _ _ _ _ (T9.setTop (mkF m 14 #[.val (.ref a), .val (.long x1), .second, .val (.long x2), .second, .val (.long x3), .second, .val (.long x4), .second] []))
  refine own_go (fun _ ww => XS.aloadN X9.here hx rfl (hb hby d1_14) rfl rfl ww) ?_
  show own_Goes _ _ _ _ _ _ _ (T9.setTop (mkF m 15 #[.val (.ref a), .val (.long x1), .second, .val (.long x2), .second, .val (.long x3), .second, .val (.long x4), .second] [(.ref a)]))
  refine own_go (fun _ ww => XT.lload X9.here hx rfl (hb hby d1_15) rfl  ww) ?_
  show own_Goes _ _ _ _ _ _ _ (T9.setTop (mkF m 17 #[.val (.ref a), .val (.long x1), .second, .val (.long x2), .second, .val (.long x3), .second, .val (.long x4), .second] [(.long x3), (.ref a)]))
  obtain ⟨T15, h15, X15, e15, W15, st15⟩ := putF X9 hx hZ hown (host := "") (Or.inl (hw _ (List.mem_of_getElem? (i := 18) rfl))) Via.refl e9 f12 f14 (Or.inr ⟨(hw _ (List.mem_of_getElem? (i := 19) rfl)), rfl, hnm⟩) (hw _ (List.mem_of_getElem? (i := 1) rfl)) (ty := .long) (by decide) rfl rfl (g := (mkF m 17 #[.val (.ref a), .val (.long x1), .second, .val (.long x2), .second, .val (.long x3), .second, .val (.long x4), .second] [(.long x3), (.ref a)])) rfl rfl (hb hby d1_17)
  have f16 : Fld Z h15 a "org/graticule/result/Tally" "records" "J" (.long x1) := (f10.other W15 (Or.inr (slot_ne (Or.inr (hw _ (List.mem_of_getElem? (i := 15) rfl))) (Or.inr (hw _ (List.mem_of_getElem? (i := 19) rfl))) (by decide) (t := .long) (t' := .long) (by decide) (by decide))))
  have f17 : Fld Z h15 a "org/graticule/result/Tally" "converted" "J" (.long x2) := (f11.other W15 (Or.inr (slot_ne (Or.inr (hw _ (List.mem_of_getElem? (i := 17) rfl))) (Or.inr (hw _ (List.mem_of_getElem? (i := 19) rfl))) (by decide) (t := .long) (t' := .long) (by decide) (by decide))))
  have f18 : Fld Z h15 a "org/graticule/result/Tally" "repaired" "J" (.long x3) := (f12.same W15)
  have f19 : Fld Z h15 a "org/graticule/result/Tally" "rejected" "J" (.long (0 : Int64)) := (f13.other W15 (Or.inr (slot_ne (Or.inr (hw _ (List.mem_of_getElem? (i := 21) rfl))) (Or.inr (hw _ (List.mem_of_getElem? (i := 19) rfl))) (by decide) (t := .long) (t' := .long) (by decide) (by decide))))
  have f20 : Exa Z h15 a "org/graticule/result/Tally" := (f14.wr W15)
  have N15 := Fr.snoc X15 N9 g_a
  have O15 := O9.wr W15 g_a
  have K15 := K9.wr W15 (Or.inl (List.mem_of_getElem? (i := 0) rfl))
  refine own_go st15 ?_
  show own_Goes _ _ _ _ _ _ _ (T15.setTop (mkF m 20 #[.val (.ref a), .val (.long x1), .second, .val (.long x2), .second, .val (.long x3), .second, .val (.long x4), .second] []))
  refine own_go (fun _ ww => XS.aloadN X15.here hx rfl (hb hby d1_20) rfl rfl ww) ?_
  show own_Goes _ _ _ _ _ _ _ (T15.setTop (mkF m 21 #[.val (.ref a), .val (.long x1), .second, .val (.long x2), .second, .val (.long x3), .second, .val (.long x4), .second] [(.ref a)]))
  refine own_go (fun _ ww => XT.lload X15.here hx rfl (hb hby d1_21) rfl  ww) ?_
  show own_Goes _ _ _ _ _ _ _ (T15.setTop (mkF m 23 #[.val (.ref a), .val (.long x1), .second, .val (.long x2), .second, .val (.long x3), .second, .val (.long x4), .second] [(.long x4), (.ref a)]))
  obtain ⟨T21, h21, X21, e21, W21, st21⟩ := putF X15 hx hZ hown (host := "") (Or.inl (hw _ (List.mem_of_getElem? (i := 20) rfl))) Via.refl e15 f19 f20 (Or.inr ⟨(hw _ (List.mem_of_getElem? (i := 21) rfl)), rfl, hnm⟩) (hw _ (List.mem_of_getElem? (i := 1) rfl)) (ty := .long) (by decide) rfl rfl (g := (mkF m 23 #[.val (.ref a), .val (.long x1), .second, .val (.long x2), .second, .val (.long x3), .second, .val (.long x4), .second] [(.long x4), (.ref a)])) rfl rfl (hb hby d1_23)
  have f22 : Fld Z h21 a "org/graticule/result/Tally" "records" "J" (.long x1) := (f16.other W21 (Or.inr (slot_ne (Or.inr (hw _ (List.mem_of_getElem? (i := 15) rfl))) (Or.inr (hw _ (List.mem_of_getElem? (i := 21) rfl))) (by decide) (t := .long) (t' := .long) (by decide) (by decide))))
  have f23 : Fld Z h21 a "org/graticule/result/Tally" "converted" "J" (.long x2) := (f17.other W21 (Or.inr (slot_ne (Or.inr (hw _ (List.mem_of_getElem? (i := 17) rfl))) (Or.inr (hw _ (List.mem_of_getElem? (i := 21) rfl))) (by decide) (t := .long) (t' := .long) (by decide) (by decide))))
  have f24 : Fld Z h21 a "org/graticule/result/Tally" "repaired" "J" (.long x3) := (f18.other W21 (Or.inr (slot_ne (Or.inr (hw _ (List.mem_of_getElem? (i := 19) rfl))) (Or.inr (hw _ (List.mem_of_getElem? (i := 21) rfl))) (by decide) (t := .long) (t' := .long) (by decide) (by decide))))
  have f25 : Fld Z h21 a "org/graticule/result/Tally" "rejected" "J" (.long x4) := (f19.same W21)
  have f26 : Exa Z h21 a "org/graticule/result/Tally" := (f20.wr W21)
  have N21 := Fr.snoc X21 N15 g_a
  have O21 := O15.wr W21 g_a
  have K21 := K15.wr W21 (Or.inl (List.mem_of_getElem? (i := 0) rfl))
  refine own_go st21 ?_
  show own_Goes _ _ _ _ _ _ _ (T21.setTop (mkF m 26 #[.val (.ref a), .val (.long x1), .second, .val (.long x2), .second, .val (.long x3), .second, .val (.long x4), .second] []))
  exact own_out X21 hlk (v := none) (fun _ => rfl) (fun fs hr => X21.returnOut hx hret (hb hby d1_26) hr) e21 ⟨rfl, N21, K21, f22, f23, f24, f25⟩ (by decide) (by decide)
theorem d4_0 : decode prog_21_method_2_code 0 = .ok (.aload_n 0, 1) := by decide +kernel
theorem d4_1 : decode prog_21_method_2_code 1 = .ok (.getfield 13, 3) := by decide +kernel
theorem d4_4 : decode prog_21_method_2_code 4 = .ok (.aload_n 0, 1) := by decide +kernel
theorem d4_5 : decode prog_21_method_2_code 5 = .ok (.getfield 16, 3) := by decide +kernel
theorem d4_8 : decode prog_21_method_2_code 8 = .ok (.ladd, 1) := by decide +kernel
theorem d4_9 : decode prog_21_method_2_code 9 = .ok (.aload_n 0, 1) := by decide +kernel
theorem d4_10 : decode prog_21_method_2_code 10 = .ok (.getfield 19, 3) := by decide +kernel
theorem d4_13 : decode prog_21_method_2_code 13 = .ok (.ladd, 1) := by decide +kernel
theorem d4_14 : decode prog_21_method_2_code 14 = .ok (.lreturn, 1) := by decide +kernel
theorem ef_fields (m : MethodId) (a : Addr) (x2 : Int64) (x3 : Int64) (x4 : Int64) : entryFrame m #[(.ref a)] 1 = mkF m 0 #[.val (.ref a)] [] := by first | (simp [entryFrame, mkF, argsToLocals, Value.category]; done) | rfl
def Q_fields (Z : State) (a : Addr) (x2 : Int64) (x3 : Int64) (x4 : Int64) (h0 : Heap) (n0 : Nat) (v : Option Value) (h : Heap) (L : List Loc) : Prop := v = some (.long ((x2 + x3) + x4)) ∧ Fr n0 L ∧ h = h0
set_option maxRecDepth 65536 in
set_option maxHeartbeats 40000000 in
theorem rm_fields (l : Launch) (Z : State) (a0 : Array Value) (hw : ∀ d ∈ tables_1, d.before a0 Z = true) (ws : List Jvm.Cond) (a : Addr) (x2 : Int64) (x3 : Int64) (x4 : Int64) (h0 : Heap) (n0 : Nat) (O0 : Old Z n0 h0) (F1 : Fld Z h0 a "org/graticule/result/Tally" "converted" "J" (.long x2)) (F2 : Fld Z h0 a "org/graticule/result/Tally" "repaired" "J" (.long x3)) (F3 : Fld Z h0 a "org/graticule/result/Tally" "rejected" "J" (.long x4)) :
    MetFree l (⟨"org/graticule/result/Tally", "fields", "()J"⟩ : MethodName) (head1 (Jvm.Cond.code (⟨"org/graticule/result/Tally", "fields", "()J"⟩ : MethodName) prog_21_method_2_code 1 (some .long) :: ws) ({ frames := 0, cells := 0, slots := 0, locals := 0 } : Room)) (fun av_ U => av_ = #[(.ref a)] ∧ Z.Warmed39 U.vm ∧ U.heap = h0) (fun _ _ _ _ _ => True) (fun _ U o_ U' => ∃ v L, o_ = .returned v ∧ Q_fields Z a x2 x3 x4 h0 n0 v U'.heap L ∧ FrameEnd U o_ U' L ({ frames := 0, cells := 0, slots := 0, locals := 0 } : Room).cells ({ frames := 0, cells := 0, slots := 0, locals := 0 } : Room).slots) := by
  refine MetFree.of_bodySF (plainFor_of_name pn_1) hisR ?_
  intro p e s m args below meth c s₁ Bd hml0 hP hK
  obtain ⟨rfl, hZ, hh⟩ := hP
  have hx := Bd.exec
  have hby := Bd.bytes
  have hml : c.maxLocals = 1 := hml0
  have hown : s.vm.findClass "org/graticule/result/Tally" = some m.cls := findClass_of_methodNamed Bd.named
  have hnm := (name_of_methodNamed Bd.named Bd.method).1
  have hlk := own_lk Bd
  have hret := Bd.returns
  have X0 : Stand p l e ({ frames := 0, cells := 0, slots := 0, locals := 0 } : Room) s m #[(.ref a)] below meth c s₁ [] 0 0 := Stand.of_body Bd
  have e0 : s₁.heap = h0 := by rw [← hh, Bd.state]; rfl
  have N0 := Fr.nil n0
  show own_Goes p e below s (Q_fields Z a x2 x3 x4 h0 n0) ({ frames := 0, cells := 0, slots := 0, locals := 0 } : Room).cells ({ frames := 0, cells := 0, slots := 0, locals := 0 } : Room).slots (s₁.setTop (entryFrame m #[(.ref a)] 1))
  refine own_go (fun _ ww => castTop (ef_fields m a x2 x3 x4) ww) ?_
  show own_Goes _ _ _ _ _ _ _ (s₁.setTop (mkF m 0 #[.val (.ref a)] []))
  refine own_go (fun _ ww => XS.aloadN X0.here hx rfl (hb hby d4_0) rfl rfl ww) ?_
  show own_Goes _ _ _ _ _ _ _ (s₁.setTop (mkF m 1 #[.val (.ref a)] [(.ref a)]))
  obtain ⟨T27, X27, e27, st27⟩ := getF X0 hx hZ hown (host := "") (Or.inl (hw _ (List.mem_of_getElem? (i := 16) rfl))) Via.refl e0 F1 (g := (mkF m 1 #[.val (.ref a)] [(.ref a)])) rfl rfl (hb hby d4_1)
  refine own_go st27 ?_
  show own_Goes _ _ _ _ _ _ _ (T27.setTop (mkF m 4 #[.val (.ref a)] [(.long x2)]))
  refine own_go (fun _ ww => XS.aloadN X27.here hx rfl (hb hby d4_4) rfl rfl ww) ?_
  show own_Goes _ _ _ _ _ _ _ (T27.setTop (mkF m 5 #[.val (.ref a)] [(.ref a), (.long x2)]))
  obtain ⟨T28, X28, e28, st28⟩ := getF X27 hx hZ hown (host := "") (Or.inl (hw _ (List.mem_of_getElem? (i := 18) rfl))) Via.refl e27 F2 (g := (mkF m 5 #[.val (.ref a)] [(.ref a), (.long x2)])) rfl rfl (hb hby d4_5)
  refine own_go st28 ?_
  show own_Goes _ _ _ _ _ _ _ (T28.setTop (mkF m 8 #[.val (.ref a)] [(.long x3), (.long x2)]))
  refine own_go (fun _ ww => XT.ladd X28.here hx rfl (hb hby d4_8) rfl ww) ?_
  show own_Goes _ _ _ _ _ _ _ (T28.setTop (mkF m 9 #[.val (.ref a)] [(.long (x2 + x3))]))
  refine own_go (fun _ ww => XS.aloadN X28.here hx rfl (hb hby d4_9) rfl rfl ww) ?_
  show own_Goes _ _ _ _ _ _ _ (T28.setTop (mkF m 10 #[.val (.ref a)] [(.ref a), (.long (x2 + x3))]))
  obtain ⟨T29, X29, e29, st29⟩ := getF X28 hx hZ hown (host := "") (Or.inl (hw _ (List.mem_of_getElem? (i := 20) rfl))) Via.refl e28 F3 (g := (mkF m 10 #[.val (.ref a)] [(.ref a), (.long (x2 + x3))])) rfl rfl (hb hby d4_10)
  refine own_go st29 ?_
  show own_Goes _ _ _ _ _ _ _ (T29.setTop (mkF m 13 #[.val (.ref a)] [(.long x4), (.long (x2 + x3))]))
  refine own_go (fun _ ww => XT.ladd X29.here hx rfl (hb hby d4_13) rfl ww) ?_
  show own_Goes _ _ _ _ _ _ _ (T29.setTop (mkF m 14 #[.val (.ref a)] [(.long ((x2 + x3) + x4))]))
  exact own_out X29 hlk (v := some (.long ((x2 + x3) + x4))) (fun h => by rw [hret] at h; cases h) (fun fs hr => retOut X29 hx (t := .long) hret rfl (Or.inr (Or.inl ⟨rfl, rfl, _, rfl⟩)) (hb hby d4_14) hr) e29 ⟨rfl, N0, rfl⟩ (by decide) (by decide)
theorem d6_0 : decode jdk_37_method_2_code 0 = .ok (.aload_n 0, 1) := by decide +kernel
theorem d6_1 : decode jdk_37_method_2_code 1 = .ok (.getfield 7, 3) := by decide +kernel
theorem d6_4 : decode jdk_37_method_2_code 4 = .ok (.ireturn, 1) := by decide +kernel
theorem ef_ord0 (m : MethodId) (k : Addr) : entryFrame m #[(.ref k)] 1 = mkF m 0 #[.val (.ref k)] [] := by first | (simp [entryFrame, mkF, argsToLocals, Value.category]; done) | rfl
def Q_ord0 (Z : State) (k : Addr) (h0 : Heap) (n0 : Nat) (v : Option Value) (h : Heap) (L : List Loc) : Prop := v = some (.int (0 : Int32)) ∧ Fr n0 L ∧ h = h0
set_option maxRecDepth 65536 in
set_option maxHeartbeats 40000000 in
theorem rm_ord0 (l : Launch) (Z : State) (a0 : Array Value) (hw : ∀ d ∈ tables_1, d.before a0 Z = true) (ws : List Jvm.Cond) (k : Addr) (h0 : Heap) (n0 : Nat) (O0 : Old Z n0 h0) (Fk : Fld Z h0 k "java/lang/Enum" "ordinal" "I" (.int (0 : Int32))) :
    MetFree l (⟨"java/lang/Enum", "ordinal", "()I"⟩ : MethodName) (head1 (Jvm.Cond.code (⟨"java/lang/Enum", "ordinal", "()I"⟩ : MethodName) jdk_37_method_2_code 1 (some .int) :: ws) ({ frames := 0, cells := 0, slots := 0, locals := 0 } : Room)) (fun av_ U => av_ = #[(.ref k)] ∧ Z.Warmed39 U.vm ∧ U.heap = h0) (fun _ _ _ _ _ => True) (fun _ U o_ U' => ∃ v L, o_ = .returned v ∧ Q_ord0 Z k h0 n0 v U'.heap L ∧ FrameEnd U o_ U' L ({ frames := 0, cells := 0, slots := 0, locals := 0 } : Room).cells ({ frames := 0, cells := 0, slots := 0, locals := 0 } : Room).slots) := by
  refine MetFree.of_bodySF (plainFor_of_name pn_2) hisR ?_
  intro p e s m args below meth c s₁ Bd hml0 hP hK
  obtain ⟨rfl, hZ, hh⟩ := hP
  have hx := Bd.exec
  have hby := Bd.bytes
  have hml : c.maxLocals = 1 := hml0
  have hown : s.vm.findClass "java/lang/Enum" = some m.cls := findClass_of_methodNamed Bd.named
  have hnm := (name_of_methodNamed Bd.named Bd.method).1
  have hlk := own_lk Bd
  have hret := Bd.returns
  have X0 : Stand p l e ({ frames := 0, cells := 0, slots := 0, locals := 0 } : Room) s m #[(.ref k)] below meth c s₁ [] 0 0 := Stand.of_body Bd
  have e0 : s₁.heap = h0 := by rw [← hh, Bd.state]; rfl
  have N0 := Fr.nil n0
  show own_Goes p e below s (Q_ord0 Z k h0 n0) ({ frames := 0, cells := 0, slots := 0, locals := 0 } : Room).cells ({ frames := 0, cells := 0, slots := 0, locals := 0 } : Room).slots (s₁.setTop (entryFrame m #[(.ref k)] 1))
  refine own_go (fun _ ww => castTop (ef_ord0 m k) ww) ?_
  show own_Goes _ _ _ _ _ _ _ (s₁.setTop (mkF m 0 #[.val (.ref k)] []))
  refine own_go (fun _ ww => XS.aloadN X0.here hx rfl (hb hby d6_0) rfl rfl ww) ?_
  show own_Goes _ _ _ _ _ _ _ (s₁.setTop (mkF m 1 #[.val (.ref k)] [(.ref k)]))
  obtain ⟨T30, X30, e30, st30⟩ := getF X0 hx hZ hown (host := "") (Or.inl (hw _ (List.mem_of_getElem? (i := 45) rfl))) Via.refl e0 Fk (g := (mkF m 1 #[.val (.ref k)] [(.ref k)])) rfl rfl (hb hby d6_1)
  refine own_go st30 ?_
  show own_Goes _ _ _ _ _ _ _ (T30.setTop (mkF m 4 #[.val (.ref k)] [(.int (0 : Int32))]))
  exact own_out X30 hlk (v := some (.int (0 : Int32))) (fun h => by rw [hret] at h; cases h) (fun fs hr => retOut X30 hx (t := .int) hret rfl (Or.inl ⟨rfl, by simp, _, rfl⟩) (hb hby d6_4) hr) e30 ⟨rfl, N0, rfl⟩ (by decide) (by decide)
theorem d5_0 : decode prog_21_method_3_code 0 = .ok (.getstatic 22, 3) := by decide +kernel
theorem d5_3 : decode prog_21_method_3_code 3 = .ok (.aload_n 1, 1) := by decide +kernel
theorem d5_4 : decode prog_21_method_3_code 4 = .ok (.invokevirtual 28, 3) := by decide +kernel
theorem d5_7 : decode prog_21_method_3_code 7 = .ok (.iaload, 1) := by decide +kernel
theorem d5_8 : decode prog_21_method_3_code 8 = .ok (.tableswitch 28 1 3 #[38, 45, 52], 28) := by decide +kernel
theorem d5_46 : decode prog_21_method_3_code 46 = .ok (.aload_n 0, 1) := by decide +kernel
theorem d5_47 : decode prog_21_method_3_code 47 = .ok (.getfield 13, 3) := by decide +kernel
theorem d5_50 : decode prog_21_method_3_code 50 = .ok (.goto 14, 3) := by decide +kernel
theorem d5_64 : decode prog_21_method_3_code 64 = .ok (.lreturn, 1) := by decide +kernel
theorem ef_count0 (m : MethodId) (a : Addr) (k : Addr) (x1 : Int64) (sm : Addr) (cl : Cell) : entryFrame m #[(.ref a), (.ref k)] 2 = mkF m 0 #[.val (.ref a), .val (.ref k)] [] := by first | (simp [entryFrame, mkF, argsToLocals, Value.category]; done) | rfl
def Q_count0 (Z : State) (a : Addr) (k : Addr) (x1 : Int64) (sm : Addr) (cl : Cell) (h0 : Heap) (n0 : Nat) (v : Option Value) (h : Heap) (L : List Loc) : Prop := v = some (.long x1) ∧ Fr n0 L ∧ h = h0
set_option maxRecDepth 65536 in
set_option maxHeartbeats 40000000 in
theorem rm_count0 (l : Launch) (Z : State) (a0 : Array Value) (hw : ∀ d ∈ tables_1, d.before a0 Z = true) (ws : List Jvm.Cond) (a : Addr) (k : Addr) (x1 : Int64) (sm : Addr) (cl : Cell) (h0 : Heap) (n0 : Nat) (O0 : Old Z n0 h0) (Fk : Fld Z h0 k "java/lang/Enum" "ordinal" "I" (.int (0 : Int32))) (Ek : Exa Z h0 k "org/graticule/core/Conversion$Status") (Fa : Fld Z h0 a "org/graticule/result/Tally" "converted" "J" (.long x1)) (Sm : Sta Z Z.heap "org/graticule/result/Tally$1" "$SwitchMap$org$graticule$core$Conversion$Status" "[I" (.ref sm)) (Ar : Arr Z Z.heap sm cl .int) (hat : ¬ ((0 : Int32) < 0 ∨ cl.slots.size ≤ (0 : Int32).toNatClampNeg) ∧ cl.slots[(0 : Int32).toNatClampNeg]? = some (.int (1 : Int32))) :
    MetFree l (⟨"org/graticule/result/Tally", "count", "(Lorg/graticule/core/Conversion$Status;)J"⟩ : MethodName) (head1 (Jvm.Cond.code (⟨"org/graticule/result/Tally", "count", "(Lorg/graticule/core/Conversion$Status;)J"⟩ : MethodName) prog_21_method_3_code 2 (some .long) :: ws) ({ frames := 1, cells := 0, slots := 0, locals := 13 } : Room)) (fun av_ U => av_ = #[(.ref a), (.ref k)] ∧ Z.Warmed39 U.vm ∧ U.heap = h0) (fun _ _ _ _ _ => True) (fun _ U o_ U' => ∃ v L, o_ = .returned v ∧ Q_count0 Z a k x1 sm cl h0 n0 v U'.heap L ∧ FrameEnd U o_ U' L ({ frames := 1, cells := 0, slots := 0, locals := 13 } : Room).cells ({ frames := 1, cells := 0, slots := 0, locals := 13 } : Room).slots) := by
  refine MetFree.of_bodySF (plainFor_of_name pn_1) hisR ?_
  intro p e s m args below meth c s₁ Bd hml0 hP hK
  obtain ⟨rfl, hZ, hh⟩ := hP
  have hx := Bd.exec
  have hby := Bd.bytes
  have hml : c.maxLocals = 2 := hml0
  have hown : s.vm.findClass "org/graticule/result/Tally" = some m.cls := findClass_of_methodNamed Bd.named
  have hnm := (name_of_methodNamed Bd.named Bd.method).1
  have hlk := own_lk Bd
  have hret := Bd.returns
  have X0 : Stand p l e ({ frames := 1, cells := 0, slots := 0, locals := 13 } : Room) s m #[(.ref a), (.ref k)] below meth c s₁ [] 0 0 := Stand.of_body Bd
  have e0 : s₁.heap = h0 := by rw [← hh, Bd.state]; rfl
  have N0 := Fr.nil n0
  show own_Goes p e below s (Q_count0 Z a k x1 sm cl h0 n0) ({ frames := 1, cells := 0, slots := 0, locals := 13 } : Room).cells ({ frames := 1, cells := 0, slots := 0, locals := 13 } : Room).slots (s₁.setTop (entryFrame m #[(.ref a), (.ref k)] 2))
  refine own_go (fun _ ww => castTop (ef_count0 m a k x1 sm cl) ww) ?_
  show own_Goes _ _ _ _ _ _ _ (s₁.setTop (mkF m 0 #[.val (.ref a), .val (.ref k)] []))
  obtain ⟨T31, X31, e31, st31⟩ := getS X0 hx hZ hown (host := "") (hw _ (List.mem_of_getElem? (i := 35) rfl)) Via.refl e0 (Sm.ext O0.2) (g := (mkF m 0 #[.val (.ref a), .val (.ref k)] [])) rfl (hb hby d5_0)
  refine own_go st31 ?_
  show own_Goes _ _ _ _ _ _ _ (T31.setTop (mkF m 3 #[.val (.ref a), .val (.ref k)] [(.ref sm)]))
  refine own_go (fun _ ww => XS.aloadN X31.here hx rfl (hb hby d5_3) rfl rfl ww) ?_
  show own_Goes _ _ _ _ _ _ _ (T31.setTop (mkF m 4 #[.val (.ref a), .val (.ref k)] [(.ref k), (.ref sm)]))
  obtain ⟨cq32, kq32, q32a, q32b, q32c⟩ := isOf hZ e31 Ek
  obtain ⟨_, _, ⟨T32, L32, k32, n32⟩, -, X32, ⟨Lc32, hQ32, l32, y32, z32⟩, st32⟩ := X31.virtualBackUp hx (x := (⟨"org/graticule/core/Conversion$Status", "ordinal", "()I"⟩ : MethodName)) (y := (⟨"java/lang/Enum", "ordinal", "()I"⟩ : MethodName)) hown (mvT hZ (hw _ (List.mem_of_getElem? (i := 38) rfl))) (mvT hZ (hw _ (List.mem_of_getElem? (i := 39) rfl))) (mvT hZ (hw _ (List.mem_of_getElem? (i := 40) rfl))) (by decide) (mvT hZ (hw _ (List.mem_of_getElem? (i := 42) rfl))) (mvT hZ (hw _ (List.mem_of_getElem? (i := 41) rfl))) (backOf (W := 1) (rm_ord0 l Z a0 hw [] k h0 n0 O0 Fk) hZ (hw _ (List.mem_of_getElem? (i := 44) rfl)) (hw _ (List.mem_of_getElem? (i := 43) rfl)) (by decide) (by decide)) q32a q32c (g := (mkF m 4 #[.val (.ref a), .val (.ref k)] [(.ref k), (.ref sm)])) rfl (by rw [hml]; rfl) (Steps.refl _) (argsL := []) (rest := [(.ref sm)]) (lenOf pd_1 rfl) rfl (by show 2 * 0 + _ ≤ _; exact Nat.le_of_eq rfl) (hb hby d5_4) (fun _ _ => ⟨rfl, e31, (by decide : 0 + 0 ≤ _), (by decide : 0 + 0 ≤ _)⟩)
  dsimp only [Pt.U, Pt.locs, Pt.cells, Pt.slots] at X32 l32 y32 z32 st32 hQ32
  subst l32 y32 z32
  obtain ⟨rfl, N32q, e32⟩ := hQ32
  have N32 := Fr.app N0 N32q
  refine own_go (fun _ ww => Steps.trans st32 ww) ?_
  show own_Goes _ _ _ _ _ _ _ (T32.setTop (mkF m 7 #[.val (.ref a), .val (.ref k)] [(.int (0 : Int32)), (.ref sm)]))
  refine own_go (fun _ ww => X32.iaload hx (j := (0 : Int32)) (v := (.int (1 : Int32))) (by rw [e32]; exact (Ar.ext O0.2).1) (State.isArrayOf_alike hZ.alike (Ar.ext O0.2).2.1) (Ar.ext O0.2).2.2 hat.1 hat.2 (g := (mkF m 7 #[.val (.ref a), .val (.ref k)] [(.int (0 : Int32)), (.ref sm)])) rfl rfl (hb hby d5_7) _ ww) ?_
  show own_Goes _ _ _ _ _ _ _ (T32.setTop (mkF m 8 #[.val (.ref a), .val (.ref k)] [(.int (1 : Int32))]))
  refine own_go (fun _ ww => XS.tswIn X32.here hx rfl (pc0 := 8) (pc' := 46) (o := 38) rfl (hb hby d5_8) rfl (by decide) (by decide) (by decide) (by decide) ww) ?_
  show own_Goes _ _ _ _ _ _ _ (T32.setTop (mkF m 46 #[.val (.ref a), .val (.ref k)] []))
  refine own_go (fun _ ww => XS.aloadN X32.here hx rfl (hb hby d5_46) rfl rfl ww) ?_
  show own_Goes _ _ _ _ _ _ _ (T32.setTop (mkF m 47 #[.val (.ref a), .val (.ref k)] [(.ref a)]))
  obtain ⟨T33, X33, e33, st33⟩ := getF X32 hx hZ hown (host := "") (Or.inl (hw _ (List.mem_of_getElem? (i := 16) rfl))) Via.refl e32 Fa (g := (mkF m 47 #[.val (.ref a), .val (.ref k)] [(.ref a)])) rfl rfl (hb hby d5_47)
  refine own_go st33 ?_
  show own_Goes _ _ _ _ _ _ _ (T33.setTop (mkF m 50 #[.val (.ref a), .val (.ref k)] [(.long x1)]))
  refine own_go (fun _ ww => XS.goto X33.here hx rfl (pc0 := 50) (pc' := 64) rfl (hb hby d5_50) (by decide) (by decide) ww) ?_
  show own_Goes _ _ _ _ _ _ _ (T33.setTop (mkF m 64 #[.val (.ref a), .val (.ref k)] [(.long x1)]))
  exact own_out X33 hlk (v := some (.long x1)) (fun h => by rw [hret] at h; cases h) (fun fs hr => retOut X33 hx (t := .long) hret rfl (Or.inr (Or.inl ⟨rfl, rfl, _, rfl⟩)) (hb hby d5_64) hr) e33 ⟨rfl, N32, rfl⟩ (by decide) (by decide)
theorem ef_ord1 (m : MethodId) (k : Addr) : entryFrame m #[(.ref k)] 1 = mkF m 0 #[.val (.ref k)] [] := by first | (simp [entryFrame, mkF, argsToLocals, Value.category]; done) | rfl
def Q_ord1 (Z : State) (k : Addr) (h0 : Heap) (n0 : Nat) (v : Option Value) (h : Heap) (L : List Loc) : Prop := v = some (.int (1 : Int32)) ∧ Fr n0 L ∧ h = h0
set_option maxRecDepth 65536 in
set_option maxHeartbeats 40000000 in
theorem rm_ord1 (l : Launch) (Z : State) (a0 : Array Value) (hw : ∀ d ∈ tables_1, d.before a0 Z = true) (ws : List Jvm.Cond) (k : Addr) (h0 : Heap) (n0 : Nat) (O0 : Old Z n0 h0) (Fk : Fld Z h0 k "java/lang/Enum" "ordinal" "I" (.int (1 : Int32))) :
    MetFree l (⟨"java/lang/Enum", "ordinal", "()I"⟩ : MethodName) (head1 (Jvm.Cond.code (⟨"java/lang/Enum", "ordinal", "()I"⟩ : MethodName) jdk_37_method_2_code 1 (some .int) :: ws) ({ frames := 0, cells := 0, slots := 0, locals := 0 } : Room)) (fun av_ U => av_ = #[(.ref k)] ∧ Z.Warmed39 U.vm ∧ U.heap = h0) (fun _ _ _ _ _ => True) (fun _ U o_ U' => ∃ v L, o_ = .returned v ∧ Q_ord1 Z k h0 n0 v U'.heap L ∧ FrameEnd U o_ U' L ({ frames := 0, cells := 0, slots := 0, locals := 0 } : Room).cells ({ frames := 0, cells := 0, slots := 0, locals := 0 } : Room).slots) := by
  refine MetFree.of_bodySF (plainFor_of_name pn_2) hisR ?_
  intro p e s m args below meth c s₁ Bd hml0 hP hK
  obtain ⟨rfl, hZ, hh⟩ := hP
  have hx := Bd.exec
  have hby := Bd.bytes
  have hml : c.maxLocals = 1 := hml0
  have hown : s.vm.findClass "java/lang/Enum" = some m.cls := findClass_of_methodNamed Bd.named
  have hnm := (name_of_methodNamed Bd.named Bd.method).1
  have hlk := own_lk Bd
  have hret := Bd.returns
  have X0 : Stand p l e ({ frames := 0, cells := 0, slots := 0, locals := 0 } : Room) s m #[(.ref k)] below meth c s₁ [] 0 0 := Stand.of_body Bd
  have e0 : s₁.heap = h0 := by rw [← hh, Bd.state]; rfl
  have N0 := Fr.nil n0
  show own_Goes p e below s (Q_ord1 Z k h0 n0) ({ frames := 0, cells := 0, slots := 0, locals := 0 } : Room).cells ({ frames := 0, cells := 0, slots := 0, locals := 0 } : Room).slots (s₁.setTop (entryFrame m #[(.ref k)] 1))
  refine own_go (fun _ ww => castTop (ef_ord1 m k) ww) ?_
  show own_Goes _ _ _ _ _ _ _ (s₁.setTop (mkF m 0 #[.val (.ref k)] []))
  refine own_go (fun _ ww => XS.aloadN X0.here hx rfl (hb hby d6_0) rfl rfl ww) ?_
  show own_Goes _ _ _ _ _ _ _ (s₁.setTop (mkF m 1 #[.val (.ref k)] [(.ref k)]))
  obtain ⟨T34, X34, e34, st34⟩ := getF X0 hx hZ hown (host := "") (Or.inl (hw _ (List.mem_of_getElem? (i := 45) rfl))) Via.refl e0 Fk (g := (mkF m 1 #[.val (.ref k)] [(.ref k)])) rfl rfl (hb hby d6_1)
  refine own_go st34 ?_
  show own_Goes _ _ _ _ _ _ _ (T34.setTop (mkF m 4 #[.val (.ref k)] [(.int (1 : Int32))]))
  exact own_out X34 hlk (v := some (.int (1 : Int32))) (fun h => by rw [hret] at h; cases h) (fun fs hr => retOut X34 hx (t := .int) hret rfl (Or.inl ⟨rfl, by simp, _, rfl⟩) (hb hby d6_4) hr) e34 ⟨rfl, N0, rfl⟩ (by decide) (by decide)
theorem d5_53 : decode prog_21_method_3_code 53 = .ok (.aload_n 0, 1) := by decide +kernel
theorem d5_54 : decode prog_21_method_3_code 54 = .ok (.getfield 16, 3) := by decide +kernel
theorem d5_57 : decode prog_21_method_3_code 57 = .ok (.goto 7, 3) := by decide +kernel
theorem ef_count1 (m : MethodId) (a : Addr) (k : Addr) (x1 : Int64) (sm : Addr) (cl : Cell) : entryFrame m #[(.ref a), (.ref k)] 2 = mkF m 0 #[.val (.ref a), .val (.ref k)] [] := by first | (simp [entryFrame, mkF, argsToLocals, Value.category]; done) | rfl
def Q_count1 (Z : State) (a : Addr) (k : Addr) (x1 : Int64) (sm : Addr) (cl : Cell) (h0 : Heap) (n0 : Nat) (v : Option Value) (h : Heap) (L : List Loc) : Prop := v = some (.long x1) ∧ Fr n0 L ∧ h = h0
set_option maxRecDepth 65536 in
set_option maxHeartbeats 40000000 in
theorem rm_count1 (l : Launch) (Z : State) (a0 : Array Value) (hw : ∀ d ∈ tables_1, d.before a0 Z = true) (ws : List Jvm.Cond) (a : Addr) (k : Addr) (x1 : Int64) (sm : Addr) (cl : Cell) (h0 : Heap) (n0 : Nat) (O0 : Old Z n0 h0) (Fk : Fld Z h0 k "java/lang/Enum" "ordinal" "I" (.int (1 : Int32))) (Ek : Exa Z h0 k "org/graticule/core/Conversion$Status") (Fa : Fld Z h0 a "org/graticule/result/Tally" "repaired" "J" (.long x1)) (Sm : Sta Z Z.heap "org/graticule/result/Tally$1" "$SwitchMap$org$graticule$core$Conversion$Status" "[I" (.ref sm)) (Ar : Arr Z Z.heap sm cl .int) (hat : ¬ ((1 : Int32) < 0 ∨ cl.slots.size ≤ (1 : Int32).toNatClampNeg) ∧ cl.slots[(1 : Int32).toNatClampNeg]? = some (.int (2 : Int32))) :
    MetFree l (⟨"org/graticule/result/Tally", "count", "(Lorg/graticule/core/Conversion$Status;)J"⟩ : MethodName) (head1 (Jvm.Cond.code (⟨"org/graticule/result/Tally", "count", "(Lorg/graticule/core/Conversion$Status;)J"⟩ : MethodName) prog_21_method_3_code 2 (some .long) :: ws) ({ frames := 1, cells := 0, slots := 0, locals := 13 } : Room)) (fun av_ U => av_ = #[(.ref a), (.ref k)] ∧ Z.Warmed39 U.vm ∧ U.heap = h0) (fun _ _ _ _ _ => True) (fun _ U o_ U' => ∃ v L, o_ = .returned v ∧ Q_count1 Z a k x1 sm cl h0 n0 v U'.heap L ∧ FrameEnd U o_ U' L ({ frames := 1, cells := 0, slots := 0, locals := 13 } : Room).cells ({ frames := 1, cells := 0, slots := 0, locals := 13 } : Room).slots) := by
  refine MetFree.of_bodySF (plainFor_of_name pn_1) hisR ?_
  intro p e s m args below meth c s₁ Bd hml0 hP hK
  obtain ⟨rfl, hZ, hh⟩ := hP
  have hx := Bd.exec
  have hby := Bd.bytes
  have hml : c.maxLocals = 2 := hml0
  have hown : s.vm.findClass "org/graticule/result/Tally" = some m.cls := findClass_of_methodNamed Bd.named
  have hnm := (name_of_methodNamed Bd.named Bd.method).1
  have hlk := own_lk Bd
  have hret := Bd.returns
  have X0 : Stand p l e ({ frames := 1, cells := 0, slots := 0, locals := 13 } : Room) s m #[(.ref a), (.ref k)] below meth c s₁ [] 0 0 := Stand.of_body Bd
  have e0 : s₁.heap = h0 := by rw [← hh, Bd.state]; rfl
  have N0 := Fr.nil n0
  show own_Goes p e below s (Q_count1 Z a k x1 sm cl h0 n0) ({ frames := 1, cells := 0, slots := 0, locals := 13 } : Room).cells ({ frames := 1, cells := 0, slots := 0, locals := 13 } : Room).slots (s₁.setTop (entryFrame m #[(.ref a), (.ref k)] 2))
  refine own_go (fun _ ww => castTop (ef_count1 m a k x1 sm cl) ww) ?_
  show own_Goes _ _ _ _ _ _ _ (s₁.setTop (mkF m 0 #[.val (.ref a), .val (.ref k)] []))
  obtain ⟨T35, X35, e35, st35⟩ := getS X0 hx hZ hown (host := "") (hw _ (List.mem_of_getElem? (i := 35) rfl)) Via.refl e0 (Sm.ext O0.2) (g := (mkF m 0 #[.val (.ref a), .val (.ref k)] [])) rfl (hb hby d5_0)
  refine own_go st35 ?_
  show own_Goes _ _ _ _ _ _ _ (T35.setTop (mkF m 3 #[.val (.ref a), .val (.ref k)] [(.ref sm)]))
  refine own_go (fun _ ww => XS.aloadN X35.here hx rfl (hb hby d5_3) rfl rfl ww) ?_
  show own_Goes _ _ _ _ _ _ _ (T35.setTop (mkF m 4 #[.val (.ref a), .val (.ref k)] [(.ref k), (.ref sm)]))
  obtain ⟨cq36, kq36, q36a, q36b, q36c⟩ := isOf hZ e35 Ek
  obtain ⟨_, _, ⟨T36, L36, k36, n36⟩, -, X36, ⟨Lc36, hQ36, l36, y36, z36⟩, st36⟩ := X35.virtualBackUp hx (x := (⟨"org/graticule/core/Conversion$Status", "ordinal", "()I"⟩ : MethodName)) (y := (⟨"java/lang/Enum", "ordinal", "()I"⟩ : MethodName)) hown (mvT hZ (hw _ (List.mem_of_getElem? (i := 38) rfl))) (mvT hZ (hw _ (List.mem_of_getElem? (i := 39) rfl))) (mvT hZ (hw _ (List.mem_of_getElem? (i := 40) rfl))) (by decide) (mvT hZ (hw _ (List.mem_of_getElem? (i := 42) rfl))) (mvT hZ (hw _ (List.mem_of_getElem? (i := 41) rfl))) (backOf (W := 1) (rm_ord1 l Z a0 hw [] k h0 n0 O0 Fk) hZ (hw _ (List.mem_of_getElem? (i := 44) rfl)) (hw _ (List.mem_of_getElem? (i := 43) rfl)) (by decide) (by decide)) q36a q36c (g := (mkF m 4 #[.val (.ref a), .val (.ref k)] [(.ref k), (.ref sm)])) rfl (by rw [hml]; rfl) (Steps.refl _) (argsL := []) (rest := [(.ref sm)]) (lenOf pd_1 rfl) rfl (by show 2 * 0 + _ ≤ _; exact Nat.le_of_eq rfl) (hb hby d5_4) (fun _ _ => ⟨rfl, e35, (by decide : 0 + 0 ≤ _), (by decide : 0 + 0 ≤ _)⟩)
  dsimp only [Pt.U, Pt.locs, Pt.cells, Pt.slots] at X36 l36 y36 z36 st36 hQ36
  subst l36 y36 z36
  obtain ⟨rfl, N36q, e36⟩ := hQ36
  have N36 := Fr.app N0 N36q
  refine own_go (fun _ ww => Steps.trans st36 ww) ?_
  show own_Goes _ _ _ _ _ _ _ (T36.setTop (mkF m 7 #[.val (.ref a), .val (.ref k)] [(.int (1 : Int32)), (.ref sm)]))
  refine own_go (fun _ ww => X36.iaload hx (j := (1 : Int32)) (v := (.int (2 : Int32))) (by rw [e36]; exact (Ar.ext O0.2).1) (State.isArrayOf_alike hZ.alike (Ar.ext O0.2).2.1) (Ar.ext O0.2).2.2 hat.1 hat.2 (g := (mkF m 7 #[.val (.ref a), .val (.ref k)] [(.int (1 : Int32)), (.ref sm)])) rfl rfl (hb hby d5_7) _ ww) ?_
  show own_Goes _ _ _ _ _ _ _ (T36.setTop (mkF m 8 #[.val (.ref a), .val (.ref k)] [(.int (2 : Int32))]))
  refine own_go (fun _ ww => XS.tswIn X36.here hx rfl (pc0 := 8) (pc' := 53) (o := 45) rfl (hb hby d5_8) rfl (by decide) (by decide) (by decide) (by decide) ww) ?_
  show own_Goes _ _ _ _ _ _ _ (T36.setTop (mkF m 53 #[.val (.ref a), .val (.ref k)] []))
  refine own_go (fun _ ww => XS.aloadN X36.here hx rfl (hb hby d5_53) rfl rfl ww) ?_
  show own_Goes _ _ _ _ _ _ _ (T36.setTop (mkF m 54 #[.val (.ref a), .val (.ref k)] [(.ref a)]))
  obtain ⟨T37, X37, e37, st37⟩ := getF X36 hx hZ hown (host := "") (Or.inl (hw _ (List.mem_of_getElem? (i := 18) rfl))) Via.refl e36 Fa (g := (mkF m 54 #[.val (.ref a), .val (.ref k)] [(.ref a)])) rfl rfl (hb hby d5_54)
  refine own_go st37 ?_
  show own_Goes _ _ _ _ _ _ _ (T37.setTop (mkF m 57 #[.val (.ref a), .val (.ref k)] [(.long x1)]))
  refine own_go (fun _ ww => XS.goto X37.here hx rfl (pc0 := 57) (pc' := 64) rfl (hb hby d5_57) (by decide) (by decide) ww) ?_
  show own_Goes _ _ _ _ _ _ _ (T37.setTop (mkF m 64 #[.val (.ref a), .val (.ref k)] [(.long x1)]))
  exact own_out X37 hlk (v := some (.long x1)) (fun h => by rw [hret] at h; cases h) (fun fs hr => retOut X37 hx (t := .long) hret rfl (Or.inr (Or.inl ⟨rfl, rfl, _, rfl⟩)) (hb hby d5_64) hr) e37 ⟨rfl, N36, rfl⟩ (by decide) (by decide)
theorem ef_ord2 (m : MethodId) (k : Addr) : entryFrame m #[(.ref k)] 1 = mkF m 0 #[.val (.ref k)] [] := by first | (simp [entryFrame, mkF, argsToLocals, Value.category]; done) | rfl
def Q_ord2 (Z : State) (k : Addr) (h0 : Heap) (n0 : Nat) (v : Option Value) (h : Heap) (L : List Loc) : Prop := v = some (.int (2 : Int32)) ∧ Fr n0 L ∧ h = h0
set_option maxRecDepth 65536 in
set_option maxHeartbeats 40000000 in
theorem rm_ord2 (l : Launch) (Z : State) (a0 : Array Value) (hw : ∀ d ∈ tables_1, d.before a0 Z = true) (ws : List Jvm.Cond) (k : Addr) (h0 : Heap) (n0 : Nat) (O0 : Old Z n0 h0) (Fk : Fld Z h0 k "java/lang/Enum" "ordinal" "I" (.int (2 : Int32))) :
    MetFree l (⟨"java/lang/Enum", "ordinal", "()I"⟩ : MethodName) (head1 (Jvm.Cond.code (⟨"java/lang/Enum", "ordinal", "()I"⟩ : MethodName) jdk_37_method_2_code 1 (some .int) :: ws) ({ frames := 0, cells := 0, slots := 0, locals := 0 } : Room)) (fun av_ U => av_ = #[(.ref k)] ∧ Z.Warmed39 U.vm ∧ U.heap = h0) (fun _ _ _ _ _ => True) (fun _ U o_ U' => ∃ v L, o_ = .returned v ∧ Q_ord2 Z k h0 n0 v U'.heap L ∧ FrameEnd U o_ U' L ({ frames := 0, cells := 0, slots := 0, locals := 0 } : Room).cells ({ frames := 0, cells := 0, slots := 0, locals := 0 } : Room).slots) := by
  refine MetFree.of_bodySF (plainFor_of_name pn_2) hisR ?_
  intro p e s m args below meth c s₁ Bd hml0 hP hK
  obtain ⟨rfl, hZ, hh⟩ := hP
  have hx := Bd.exec
  have hby := Bd.bytes
  have hml : c.maxLocals = 1 := hml0
  have hown : s.vm.findClass "java/lang/Enum" = some m.cls := findClass_of_methodNamed Bd.named
  have hnm := (name_of_methodNamed Bd.named Bd.method).1
  have hlk := own_lk Bd
  have hret := Bd.returns
  have X0 : Stand p l e ({ frames := 0, cells := 0, slots := 0, locals := 0 } : Room) s m #[(.ref k)] below meth c s₁ [] 0 0 := Stand.of_body Bd
  have e0 : s₁.heap = h0 := by rw [← hh, Bd.state]; rfl
  have N0 := Fr.nil n0
  show own_Goes p e below s (Q_ord2 Z k h0 n0) ({ frames := 0, cells := 0, slots := 0, locals := 0 } : Room).cells ({ frames := 0, cells := 0, slots := 0, locals := 0 } : Room).slots (s₁.setTop (entryFrame m #[(.ref k)] 1))
  refine own_go (fun _ ww => castTop (ef_ord2 m k) ww) ?_
  show own_Goes _ _ _ _ _ _ _ (s₁.setTop (mkF m 0 #[.val (.ref k)] []))
  refine own_go (fun _ ww => XS.aloadN X0.here hx rfl (hb hby d6_0) rfl rfl ww) ?_
  show own_Goes _ _ _ _ _ _ _ (s₁.setTop (mkF m 1 #[.val (.ref k)] [(.ref k)]))
  obtain ⟨T38, X38, e38, st38⟩ := getF X0 hx hZ hown (host := "") (Or.inl (hw _ (List.mem_of_getElem? (i := 45) rfl))) Via.refl e0 Fk (g := (mkF m 1 #[.val (.ref k)] [(.ref k)])) rfl rfl (hb hby d6_1)
  refine own_go st38 ?_
  show own_Goes _ _ _ _ _ _ _ (T38.setTop (mkF m 4 #[.val (.ref k)] [(.int (2 : Int32))]))
  exact own_out X38 hlk (v := some (.int (2 : Int32))) (fun h => by rw [hret] at h; cases h) (fun fs hr => retOut X38 hx (t := .int) hret rfl (Or.inl ⟨rfl, by simp, _, rfl⟩) (hb hby d6_4) hr) e38 ⟨rfl, N0, rfl⟩ (by decide) (by decide)
theorem d5_60 : decode prog_21_method_3_code 60 = .ok (.aload_n 0, 1) := by decide +kernel
theorem d5_61 : decode prog_21_method_3_code 61 = .ok (.getfield 19, 3) := by decide +kernel
theorem ef_count2 (m : MethodId) (a : Addr) (k : Addr) (x1 : Int64) (sm : Addr) (cl : Cell) : entryFrame m #[(.ref a), (.ref k)] 2 = mkF m 0 #[.val (.ref a), .val (.ref k)] [] := by first | (simp [entryFrame, mkF, argsToLocals, Value.category]; done) | rfl
def Q_count2 (Z : State) (a : Addr) (k : Addr) (x1 : Int64) (sm : Addr) (cl : Cell) (h0 : Heap) (n0 : Nat) (v : Option Value) (h : Heap) (L : List Loc) : Prop := v = some (.long x1) ∧ Fr n0 L ∧ h = h0
set_option maxRecDepth 65536 in
set_option maxHeartbeats 40000000 in
theorem rm_count2 (l : Launch) (Z : State) (a0 : Array Value) (hw : ∀ d ∈ tables_1, d.before a0 Z = true) (ws : List Jvm.Cond) (a : Addr) (k : Addr) (x1 : Int64) (sm : Addr) (cl : Cell) (h0 : Heap) (n0 : Nat) (O0 : Old Z n0 h0) (Fk : Fld Z h0 k "java/lang/Enum" "ordinal" "I" (.int (2 : Int32))) (Ek : Exa Z h0 k "org/graticule/core/Conversion$Status") (Fa : Fld Z h0 a "org/graticule/result/Tally" "rejected" "J" (.long x1)) (Sm : Sta Z Z.heap "org/graticule/result/Tally$1" "$SwitchMap$org$graticule$core$Conversion$Status" "[I" (.ref sm)) (Ar : Arr Z Z.heap sm cl .int) (hat : ¬ ((2 : Int32) < 0 ∨ cl.slots.size ≤ (2 : Int32).toNatClampNeg) ∧ cl.slots[(2 : Int32).toNatClampNeg]? = some (.int (3 : Int32))) :
    MetFree l (⟨"org/graticule/result/Tally", "count", "(Lorg/graticule/core/Conversion$Status;)J"⟩ : MethodName) (head1 (Jvm.Cond.code (⟨"org/graticule/result/Tally", "count", "(Lorg/graticule/core/Conversion$Status;)J"⟩ : MethodName) prog_21_method_3_code 2 (some .long) :: ws) ({ frames := 1, cells := 0, slots := 0, locals := 13 } : Room)) (fun av_ U => av_ = #[(.ref a), (.ref k)] ∧ Z.Warmed39 U.vm ∧ U.heap = h0) (fun _ _ _ _ _ => True) (fun _ U o_ U' => ∃ v L, o_ = .returned v ∧ Q_count2 Z a k x1 sm cl h0 n0 v U'.heap L ∧ FrameEnd U o_ U' L ({ frames := 1, cells := 0, slots := 0, locals := 13 } : Room).cells ({ frames := 1, cells := 0, slots := 0, locals := 13 } : Room).slots) := by
  refine MetFree.of_bodySF (plainFor_of_name pn_1) hisR ?_
  intro p e s m args below meth c s₁ Bd hml0 hP hK
  obtain ⟨rfl, hZ, hh⟩ := hP
  have hx := Bd.exec
  have hby := Bd.bytes
  have hml : c.maxLocals = 2 := hml0
  have hown : s.vm.findClass "org/graticule/result/Tally" = some m.cls := findClass_of_methodNamed Bd.named
  have hnm := (name_of_methodNamed Bd.named Bd.method).1
  have hlk := own_lk Bd
  have hret := Bd.returns
  have X0 : Stand p l e ({ frames := 1, cells := 0, slots := 0, locals := 13 } : Room) s m #[(.ref a), (.ref k)] below meth c s₁ [] 0 0 := Stand.of_body Bd
  have e0 : s₁.heap = h0 := by rw [← hh, Bd.state]; rfl
  have N0 := Fr.nil n0
  show own_Goes p e below s (Q_count2 Z a k x1 sm cl h0 n0) ({ frames := 1, cells := 0, slots := 0, locals := 13 } : Room).cells ({ frames := 1, cells := 0, slots := 0, locals := 13 } : Room).slots (s₁.setTop (entryFrame m #[(.ref a), (.ref k)] 2))
  refine own_go (fun _ ww => castTop (ef_count2 m a k x1 sm cl) ww) ?_
  show own_Goes _ _ _ _ _ _ _ (s₁.setTop (mkF m 0 #[.val (.ref a), .val (.ref k)] []))
  obtain ⟨T39, X39, e39, st39⟩ := getS X0 hx hZ hown (host := "") (hw _ (List.mem_of_getElem? (i := 35) rfl)) Via.refl e0 (Sm.ext O0.2) (g := (mkF m 0 #[.val (.ref a), .val (.ref k)] [])) rfl (hb hby d5_0)
  refine own_go st39 ?_
  show own_Goes _ _ _ _ _ _ _ (T39.setTop (mkF m 3 #[.val (.ref a), .val (.ref k)] [(.ref sm)]))
  refine own_go (fun _ ww => XS.aloadN X39.here hx rfl (hb hby d5_3) rfl rfl ww) ?_
  show own_Goes _ _ _ _ _ _ _ (T39.setTop (mkF m 4 #[.val (.ref a), .val (.ref k)] [(.ref k), (.ref sm)]))
  obtain ⟨cq40, kq40, q40a, q40b, q40c⟩ := isOf hZ e39 Ek
  obtain ⟨_, _, ⟨T40, L40, k40, n40⟩, -, X40, ⟨Lc40, hQ40, l40, y40, z40⟩, st40⟩ := X39.virtualBackUp hx (x := (⟨"org/graticule/core/Conversion$Status", "ordinal", "()I"⟩ : MethodName)) (y := (⟨"java/lang/Enum", "ordinal", "()I"⟩ : MethodName)) hown (mvT hZ (hw _ (List.mem_of_getElem? (i := 38) rfl))) (mvT hZ (hw _ (List.mem_of_getElem? (i := 39) rfl))) (mvT hZ (hw _ (List.mem_of_getElem? (i := 40) rfl))) (by decide) (mvT hZ (hw _ (List.mem_of_getElem? (i := 42) rfl))) (mvT hZ (hw _ (List.mem_of_getElem? (i := 41) rfl))) (backOf (W := 1) (rm_ord2 l Z a0 hw [] k h0 n0 O0 Fk) hZ (hw _ (List.mem_of_getElem? (i := 44) rfl)) (hw _ (List.mem_of_getElem? (i := 43) rfl)) (by decide) (by decide)) q40a q40c (g := (mkF m 4 #[.val (.ref a), .val (.ref k)] [(.ref k), (.ref sm)])) rfl (by rw [hml]; rfl) (Steps.refl _) (argsL := []) (rest := [(.ref sm)]) (lenOf pd_1 rfl) rfl (by show 2 * 0 + _ ≤ _; exact Nat.le_of_eq rfl) (hb hby d5_4) (fun _ _ => ⟨rfl, e39, (by decide : 0 + 0 ≤ _), (by decide : 0 + 0 ≤ _)⟩)
  dsimp only [Pt.U, Pt.locs, Pt.cells, Pt.slots] at X40 l40 y40 z40 st40 hQ40
  subst l40 y40 z40
  obtain ⟨rfl, N40q, e40⟩ := hQ40
  have N40 := Fr.app N0 N40q
  refine own_go (fun _ ww => Steps.trans st40 ww) ?_
  show own_Goes _ _ _ _ _ _ _ (T40.setTop (mkF m 7 #[.val (.ref a), .val (.ref k)] [(.int (2 : Int32)), (.ref sm)]))
  refine own_go (fun _ ww => X40.iaload hx (j := (2 : Int32)) (v := (.int (3 : Int32))) (by rw [e40]; exact (Ar.ext O0.2).1) (State.isArrayOf_alike hZ.alike (Ar.ext O0.2).2.1) (Ar.ext O0.2).2.2 hat.1 hat.2 (g := (mkF m 7 #[.val (.ref a), .val (.ref k)] [(.int (2 : Int32)), (.ref sm)])) rfl rfl (hb hby d5_7) _ ww) ?_
  show own_Goes _ _ _ _ _ _ _ (T40.setTop (mkF m 8 #[.val (.ref a), .val (.ref k)] [(.int (3 : Int32))]))
  refine own_go (fun _ ww => XS.tswIn X40.here hx rfl (pc0 := 8) (pc' := 60) (o := 52) rfl (hb hby d5_8) rfl (by decide) (by decide) (by decide) (by decide) ww) ?_
  show own_Goes _ _ _ _ _ _ _ (T40.setTop (mkF m 60 #[.val (.ref a), .val (.ref k)] []))
  refine own_go (fun _ ww => XS.aloadN X40.here hx rfl (hb hby d5_60) rfl rfl ww) ?_
  show own_Goes _ _ _ _ _ _ _ (T40.setTop (mkF m 61 #[.val (.ref a), .val (.ref k)] [(.ref a)]))
  obtain ⟨T41, X41, e41, st41⟩ := getF X40 hx hZ hown (host := "") (Or.inl (hw _ (List.mem_of_getElem? (i := 20) rfl))) Via.refl e40 Fa (g := (mkF m 61 #[.val (.ref a), .val (.ref k)] [(.ref a)])) rfl rfl (hb hby d5_61)
  refine own_go st41 ?_
  show own_Goes _ _ _ _ _ _ _ (T41.setTop (mkF m 64 #[.val (.ref a), .val (.ref k)] [(.long x1)]))
  exact own_out X41 hlk (v := some (.long x1)) (fun h => by rw [hret] at h; cases h) (fun fs hr => retOut X41 hx (t := .long) hret rfl (Or.inr (Or.inl ⟨rfl, rfl, _, rfl⟩)) (hb hby d5_64) hr) e41 ⟨rfl, N40, rfl⟩ (by decide) (by decide)
theorem own_cmpE {x y : Int64} (h : x = y) : XT.cmpL x y = 0 := by subst h; exact own_cmpL x
theorem own_perm (a b c : Int64) : (c + a) + b = (a + b) + c := by rw [Int64.add_assoc, Int64.add_comm]
theorem ef_law (m : MethodId) (x1 : Int64) (x2 : Int64) (x3 : Int64) (x4 : Int64) (sm : Addr) (cl : Cell) (k0 : Addr) (k1 : Addr) (k2 : Addr) : entryFrame m #[(.long x1), (.long x2), (.long x3), (.long x4)] maxLocals = mkF m 0 #[.val (.long x1), .second, .val (.long x2), .second, .val (.long x3), .second, .val (.long x4), .second, .unset, .unset, .unset, .unset, .unset, .unset, .unset] [] := by first | (simp [entryFrame, mkF, argsToLocals, Value.category, maxLocals]; done) | rfl
def Q_law (Z : State) (x1 : Int64) (x2 : Int64) (x3 : Int64) (x4 : Int64) (sm : Addr) (cl : Cell) (k0 : Addr) (k1 : Addr) (k2 : Addr) (h0 : Heap) (n0 : Nat) (v : Option Value) (h : Heap) (L : List Loc) : Prop := v = some (.int 1) ∧ Fr n0 L
set_option maxRecDepth 65536 in
set_option maxHeartbeats 40000000 in
theorem rm_law (l : Launch) (Z : State) (a0 : Array Value) (hw : ∀ d ∈ tables_1, d.before a0 Z = true) (ws : List Jvm.Cond) (x1 : Int64) (x2 : Int64) (x3 : Int64) (x4 : Int64) (sm : Addr) (cl : Cell) (k0 : Addr) (k1 : Addr) (k2 : Addr) (h0 : Heap) (n0 : Nat) (O0 : Old Z n0 h0) (Sm : Sta Z Z.heap "org/graticule/result/Tally$1" "$SwitchMap$org$graticule$core$Conversion$Status" "[I" (.ref sm)) (Ar : Arr Z Z.heap sm cl .int) (Sk0 : Sta Z Z.heap "org/graticule/core/Conversion$Status" "CONVERTED" "Lorg/graticule/core/Conversion$Status;" (.ref k0)) (Ek0 : Exa Z Z.heap k0 "org/graticule/core/Conversion$Status") (Fk0 : Fld Z Z.heap k0 "java/lang/Enum" "ordinal" "I" (.int (0 : Int32))) (ha0 : ¬ ((0 : Int32) < 0 ∨ cl.slots.size ≤ (0 : Int32).toNatClampNeg) ∧ cl.slots[(0 : Int32).toNatClampNeg]? = some (.int (1 : Int32))) (Sk1 : Sta Z Z.heap "org/graticule/core/Conversion$Status" "REPAIRED" "Lorg/graticule/core/Conversion$Status;" (.ref k1)) (Ek1 : Exa Z Z.heap k1 "org/graticule/core/Conversion$Status") (Fk1 : Fld Z Z.heap k1 "java/lang/Enum" "ordinal" "I" (.int (1 : Int32))) (ha1 : ¬ ((1 : Int32) < 0 ∨ cl.slots.size ≤ (1 : Int32).toNatClampNeg) ∧ cl.slots[(1 : Int32).toNatClampNeg]? = some (.int (2 : Int32))) (Sk2 : Sta Z Z.heap "org/graticule/core/Conversion$Status" "REJECTED" "Lorg/graticule/core/Conversion$Status;" (.ref k2)) (Ek2 : Exa Z Z.heap k2 "org/graticule/core/Conversion$Status") (Fk2 : Fld Z Z.heap k2 "java/lang/Enum" "ordinal" "I" (.int (2 : Int32))) (ha2 : ¬ ((2 : Int32) < 0 ∨ cl.slots.size ≤ (2 : Int32).toNatClampNeg) ∧ cl.slots[(2 : Int32).toNatClampNeg]? = some (.int (3 : Int32))) :
    MetFree l x (head1 (Jvm.Cond.code x code maxLocals ret :: ws) room_1) (fun av_ U => av_ = #[(.long x1), (.long x2), (.long x3), (.long x4)] ∧ Z.Warmed39 U.vm ∧ U.heap = h0) (fun _ _ _ _ _ => True) (fun _ U o_ U' => ∃ v L, o_ = .returned v ∧ Q_law Z x1 x2 x3 x4 sm cl k0 k1 k2 h0 n0 v U'.heap L ∧ FrameEnd U o_ U' L room_1.cells room_1.slots) := by
  refine MetFree.of_bodySF (plainFor_of_name pn_3) hisR ?_
  intro p e s m args below meth c s₁ Bd hml0 hP hK
  obtain ⟨rfl, hZ, hh⟩ := hP
  have hx := Bd.exec
  have hby := Bd.bytes
  have hml : c.maxLocals = 15 := hml0
  have hown : s.vm.findClass "org/graticule/result/TallyFieldsPinLaw" = some m.cls := findClass_of_methodNamed Bd.named
  have hnm := (name_of_methodNamed Bd.named Bd.method).1
  have hlk := own_lk Bd
  have hret := Bd.returns
  have X0 : Stand p l e room_1 s m #[(.long x1), (.long x2), (.long x3), (.long x4)] below meth c s₁ [] 0 0 := Stand.of_body Bd
  have e0 : s₁.heap = h0 := by rw [← hh, Bd.state]; rfl
  have N0 := Fr.nil n0
  show own_Goes p e below s (Q_law Z x1 x2 x3 x4 sm cl k0 k1 k2 h0 n0) room_1.cells room_1.slots (s₁.setTop (entryFrame m #[(.long x1), (.long x2), (.long x3), (.long x4)] maxLocals))
  refine own_go (fun _ ww => castTop (ef_law m x1 x2 x3 x4 sm cl k0 k1 k2) ww) ?_
  show own_Goes _ _ _ _ _ _ _ (s₁.setTop (mkF m 0 #[.val (.long x1), .second, .val (.long x2), .second, .val (.long x3), .second, .val (.long x4), .second, .unset, .unset, .unset, .unset, .unset, .unset, .unset] []))
  obtain ⟨T42, h42, X42, e42, E42, A42, D42, -, st42⟩ := newO X0 hx hZ hown (hw _ (List.mem_of_getElem? (i := 0) rfl)) (hw _ (List.mem_of_getElem? (i := 1) rfl)) (hw _ (List.mem_of_getElem? (i := 2) rfl)) e0 (g := (mkF m 0 #[.val (.long x1), .second, .val (.long x2), .second, .val (.long x3), .second, .val (.long x4), .second, .unset, .unset, .unset, .unset, .unset, .unset, .unset] [])) rfl (hb hby at_0) (by decide) (by decide)
  obtain ⟨b42, g42⟩ : ∃ z, z = h0.size := ⟨_, rfl⟩
  rw [← g42] at A42 D42 st42
  have ne_k0_b42 : k0 ≠ b42 := Nat.ne_of_lt (Nat.lt_of_lt_of_le (Ek0.ext O0.2).lt (Nat.le_of_eq g42.symm))
  have ne_k1_b42 : k1 ≠ b42 := Nat.ne_of_lt (Nat.lt_of_lt_of_le (Ek1.ext O0.2).lt (Nat.le_of_eq g42.symm))
  have ne_k2_b42 : k2 ≠ b42 := Nat.ne_of_lt (Nat.lt_of_lt_of_le (Ek2.ext O0.2).lt (Nat.le_of_eq g42.symm))
  have g_b42 : n0 ≤ b42 := Nat.le_trans (O0.1 ▸ O0.2.1) (Nat.le_of_eq g42.symm)
  have O42 := O0.ext E42
  have f43 : Fld Z h42 b42 "org/graticule/result/Tally" "records" "J" (.long (0 : Int64)) := D42 (Or.inr (hw _ (List.mem_of_getElem? (i := 15) rfl))) (ty := .long) (by decide)
  have f44 : Fld Z h42 b42 "org/graticule/result/Tally" "converted" "J" (.long (0 : Int64)) := D42 (Or.inr (hw _ (List.mem_of_getElem? (i := 17) rfl))) (ty := .long) (by decide)
  have f45 : Fld Z h42 b42 "org/graticule/result/Tally" "repaired" "J" (.long (0 : Int64)) := D42 (Or.inr (hw _ (List.mem_of_getElem? (i := 19) rfl))) (ty := .long) (by decide)
  have f46 : Fld Z h42 b42 "org/graticule/result/Tally" "rejected" "J" (.long (0 : Int64)) := D42 (Or.inr (hw _ (List.mem_of_getElem? (i := 21) rfl))) (ty := .long) (by decide)
  refine own_go st42 ?_
  show own_Goes _ _ _ _ _ _ _ (T42.setTop (mkF m 3 #[.val (.long x1), .second, .val (.long x2), .second, .val (.long x3), .second, .val (.long x4), .second, .unset, .unset, .unset, .unset, .unset, .unset, .unset] [(.ref b42)]))
  refine own_go (fun _ ww => XS.dup X42.here hx rfl (hb hby at_3) rfl rfl ww) ?_
  show own_Goes _ _ _ _ _ _ _ (T42.setTop (mkF m 4 #[.val (.long x1), .second, .val (.long x2), .second, .val (.long x3), .second, .val (.long x4), .second, .unset, .unset, .unset, .unset, .unset, .unset, .unset] [(.ref b42), (.ref b42)]))
  refine own_go (fun _ ww => XT.lloadN X42.here hx rfl (hb hby at_4) rfl  ww) ?_
  show own_Goes _ _ _ _ _ _ _ (T42.setTop (mkF m 5 #[.val (.long x1), .second, .val (.long x2), .second, .val (.long x3), .second, .val (.long x4), .second, .unset, .unset, .unset, .unset, .unset, .unset, .unset] [(.long x1), (.ref b42), (.ref b42)]))
  refine own_go (fun _ ww => XT.lloadN X42.here hx rfl (hb hby at_5) rfl  ww) ?_
  show own_Goes _ _ _ _ _ _ _ (T42.setTop (mkF m 6 #[.val (.long x1), .second, .val (.long x2), .second, .val (.long x3), .second, .val (.long x4), .second, .unset, .unset, .unset, .unset, .unset, .unset, .unset] [(.long x2), (.long x1), (.ref b42), (.ref b42)]))
  refine own_go (fun _ ww => XT.lload X42.here hx rfl (hb hby at_6) rfl  ww) ?_
  show own_Goes _ _ _ _ _ _ _ (T42.setTop (mkF m 8 #[.val (.long x1), .second, .val (.long x2), .second, .val (.long x3), .second, .val (.long x4), .second, .unset, .unset, .unset, .unset, .unset, .unset, .unset] [(.long x3), (.long x2), (.long x1), (.ref b42), (.ref b42)]))
  refine own_go (fun _ ww => XT.lload X42.here hx rfl (hb hby at_8) rfl  ww) ?_
  show own_Goes _ _ _ _ _ _ _ (T42.setTop (mkF m 10 #[.val (.long x1), .second, .val (.long x2), .second, .val (.long x3), .second, .val (.long x4), .second, .unset, .unset, .unset, .unset, .unset, .unset, .unset] [(.long x4), (.long x3), (.long x2), (.long x1), (.ref b42), (.ref b42)]))
  obtain ⟨_, _, ⟨T47, L47, k47, n47⟩, -, X47, ⟨Lc47, hQ47, l47, y47, z47⟩, st47⟩ := X42.specialBack hx (y := (⟨"org/graticule/result/Tally", "<init>", "(JJJJ)V"⟩ : MethodName)) rfl hown (mvT hZ (hw _ (List.mem_of_getElem? (i := 3) rfl))) (mvT hZ (hw _ (List.mem_of_getElem? (i := 4) rfl))) (mvT hZ (hw _ (List.mem_of_getElem? (i := 5) rfl))) (by decide) (backOf (W := 1) (rm_init l Z a0 hw [] b42 x1 x2 x3 x4 h42 n0 O42 f43 f44 f45 f46 A42 g_b42) hZ (hw _ (List.mem_of_getElem? (i := 5) rfl)) (hw _ (List.mem_of_getElem? (i := 2) rfl)) (by decide) (by decide)) (g := (mkF m 10 #[.val (.long x1), .second, .val (.long x2), .second, .val (.long x3), .second, .val (.long x4), .second, .unset, .unset, .unset, .unset, .unset, .unset, .unset] [(.long x4), (.long x3), (.long x2), (.long x1), (.ref b42), (.ref b42)])) rfl (by rw [hml]; rfl) (Steps.refl _) (a := b42) (argsL := [(.long x1), (.long x2), (.long x3), (.long x4)]) (rest := [(.ref b42)]) (lenOf pd_2 rfl) rfl (by show 2 * 0 + _ ≤ _; exact Nat.le_of_eq rfl) (hb hby at_10) (fun _ _ => ⟨rfl, e42, (by decide : 1 + 0 ≤ _), (by decide : 4 + 0 ≤ _)⟩)
  dsimp only [Pt.U, Pt.locs, Pt.cells, Pt.slots] at X47 l47 y47 z47 st47 hQ47
  subst l47 y47 z47
  obtain ⟨rfl, N47q, K47q, P47, Q47, R47, U47⟩ := hQ47
  have N47 := Fr.app N0 N47q
  have f48 : Exa Z T47.heap b42 "org/graticule/result/Tally" := (A42.keep K47q)
  have O47 := O42.keep K47q (allS g_b42 all0)
  refine own_go (fun _ ww => Steps.trans st47 ww) ?_
  show own_Goes _ _ _ _ _ _ _ (T47.setTop (mkF m 13 #[.val (.long x1), .second, .val (.long x2), .second, .val (.long x3), .second, .val (.long x4), .second, .unset, .unset, .unset, .unset, .unset, .unset, .unset] [(.ref b42)]))
  refine own_go (fun _ ww => XS.astore X47.here hx rfl (hb hby at_13) rfl rfl (l' := #[.val (.long x1), .second, .val (.long x2), .second, .val (.long x3), .second, .val (.long x4), .second, .val (.ref b42), .unset, .unset, .unset, .unset, .unset, .unset]) rfl ww) ?_
  show own_Goes _ _ _ _ _ _ _ (T47.setTop (mkF m 15 #[.val (.long x1), .second, .val (.long x2), .second, .val (.long x3), .second, .val (.long x4), .second, .val (.ref b42), .unset, .unset, .unset, .unset, .unset, .unset] []))
  refine own_go (fun _ ww => XS.aload X47.here hx rfl (hb hby at_15) rfl rfl ww) ?_
  show own_Goes _ _ _ _ _ _ _ (T47.setTop (mkF m 17 #[.val (.long x1), .second, .val (.long x2), .second, .val (.long x3), .second, .val (.long x4), .second, .val (.ref b42), .unset, .unset, .unset, .unset, .unset, .unset] [(.ref b42)]))
  obtain ⟨cq49, kq49, q49a, q49b, q49c⟩ := isOf hZ rfl f48
  obtain ⟨_, _, ⟨T49, L49, k49, n49⟩, -, X49, ⟨Lc49, hQ49, l49, y49, z49⟩, st49⟩ := X47.virtualBack hx (y := (⟨"org/graticule/result/Tally", "fields", "()J"⟩ : MethodName)) (z := (⟨"org/graticule/result/Tally", "fields", "()J"⟩ : MethodName)) hown (mvT hZ (hw _ (List.mem_of_getElem? (i := 22) rfl))) (mvT hZ (hw _ (List.mem_of_getElem? (i := 23) rfl))) (notFace_of_selects (args := #[]) (mvT hZ (hw _ (List.mem_of_getElem? (i := 25) rfl)))) (mvT hZ (hw _ (List.mem_of_getElem? (i := 25) rfl))) (mvT hZ (hw _ (List.mem_of_getElem? (i := 24) rfl))) (by decide) (backOf (W := 0) (rm_fields l Z a0 hw [] b42 x2 x3 x4 T47.heap n0 O47 Q47 R47 U47) hZ (hw _ (List.mem_of_getElem? (i := 26) rfl)) (hw _ (List.mem_of_getElem? (i := 2) rfl)) (by decide) (by decide)) q49a q49c (g := (mkF m 17 #[.val (.long x1), .second, .val (.long x2), .second, .val (.long x3), .second, .val (.long x4), .second, .val (.ref b42), .unset, .unset, .unset, .unset, .unset, .unset] [(.ref b42)])) rfl (by rw [hml]; rfl) (Steps.refl _) (argsL := []) (rest := []) (lenOf pd_3 rfl) rfl (by show 2 * 0 + _ ≤ _; exact Nat.le_of_eq rfl) (hb hby at_17) (fun _ _ => ⟨rfl, rfl, (by decide : 1 + 0 ≤ _), (by decide : 4 + 0 ≤ _)⟩)
  dsimp only [Pt.U, Pt.locs, Pt.cells, Pt.slots] at X49 l49 y49 z49 st49 hQ49
  subst l49 y49 z49
  obtain ⟨rfl, N49q, e49⟩ := hQ49
  have N49 := Fr.app N47 N49q
  refine own_go (fun _ ww => Steps.trans st49 ww) ?_
  show own_Goes _ _ _ _ _ _ _ (T49.setTop (mkF m 20 #[.val (.long x1), .second, .val (.long x2), .second, .val (.long x3), .second, .val (.long x4), .second, .val (.ref b42), .unset, .unset, .unset, .unset, .unset, .unset] [(.long ((x2 + x3) + x4))]))
  refine own_go (fun _ ww => XT.lstore X49.here hx rfl (hb hby at_20) rfl (l' := #[.val (.long x1), .second, .val (.long x2), .second, .val (.long x3), .second, .val (.long x4), .second, .val (.ref b42), .val (.long ((x2 + x3) + x4)), .second, .unset, .unset, .unset, .unset]) rfl ww) ?_
  show own_Goes _ _ _ _ _ _ _ (T49.setTop (mkF m 22 #[.val (.long x1), .second, .val (.long x2), .second, .val (.long x3), .second, .val (.long x4), .second, .val (.ref b42), .val (.long ((x2 + x3) + x4)), .second, .unset, .unset, .unset, .unset] []))
  refine own_go (fun _ ww => XT.lload X49.here hx rfl (hb hby at_22) rfl  ww) ?_
  show own_Goes _ _ _ _ _ _ _ (T49.setTop (mkF m 24 #[.val (.long x1), .second, .val (.long x2), .second, .val (.long x3), .second, .val (.long x4), .second, .val (.ref b42), .val (.long ((x2 + x3) + x4)), .second, .unset, .unset, .unset, .unset] [(.long ((x2 + x3) + x4))]))
  refine own_go (fun _ ww => XT.lloadN X49.here hx rfl (hb hby at_24) rfl  ww) ?_
  show own_Goes _ _ _ _ _ _ _ (T49.setTop (mkF m 25 #[.val (.long x1), .second, .val (.long x2), .second, .val (.long x3), .second, .val (.long x4), .second, .val (.ref b42), .val (.long ((x2 + x3) + x4)), .second, .unset, .unset, .unset, .unset] [(.long x2), (.long ((x2 + x3) + x4))]))
  refine own_go (fun _ ww => XT.lload X49.here hx rfl (hb hby at_25) rfl  ww) ?_
  show own_Goes _ _ _ _ _ _ _ (T49.setTop (mkF m 27 #[.val (.long x1), .second, .val (.long x2), .second, .val (.long x3), .second, .val (.long x4), .second, .val (.ref b42), .val (.long ((x2 + x3) + x4)), .second, .unset, .unset, .unset, .unset] [(.long x3), (.long x2), (.long ((x2 + x3) + x4))]))
  refine own_go (fun _ ww => XT.ladd X49.here hx rfl (hb hby at_27) rfl ww) ?_
  show own_Goes _ _ _ _ _ _ _ (T49.setTop (mkF m 28 #[.val (.long x1), .second, .val (.long x2), .second, .val (.long x3), .second, .val (.long x4), .second, .val (.ref b42), .val (.long ((x2 + x3) + x4)), .second, .unset, .unset, .unset, .unset] [(.long (x2 + x3)), (.long ((x2 + x3) + x4))]))
  refine own_go (fun _ ww => XT.lload X49.here hx rfl (hb hby at_28) rfl  ww) ?_
  show own_Goes _ _ _ _ _ _ _ (T49.setTop (mkF m 30 #[.val (.long x1), .second, .val (.long x2), .second, .val (.long x3), .second, .val (.long x4), .second, .val (.ref b42), .val (.long ((x2 + x3) + x4)), .second, .unset, .unset, .unset, .unset] [(.long x4), (.long (x2 + x3)), (.long ((x2 + x3) + x4))]))
  refine own_go (fun _ ww => XT.ladd X49.here hx rfl (hb hby at_30) rfl ww) ?_
  show own_Goes _ _ _ _ _ _ _ (T49.setTop (mkF m 31 #[.val (.long x1), .second, .val (.long x2), .second, .val (.long x3), .second, .val (.long x4), .second, .val (.ref b42), .val (.long ((x2 + x3) + x4)), .second, .unset, .unset, .unset, .unset] [(.long ((x2 + x3) + x4)), (.long ((x2 + x3) + x4))]))
  refine own_go (fun _ ww => XT.lcmp X49.here hx rfl (hb hby at_31) rfl ww) ?_
  show own_Goes _ _ _ _ _ _ _ (T49.setTop (mkF m 32 #[.val (.long x1), .second, .val (.long x2), .second, .val (.long x3), .second, .val (.long x4), .second, .val (.ref b42), .val (.long ((x2 + x3) + x4)), .second, .unset, .unset, .unset, .unset] [(.int (XT.cmpL ((x2 + x3) + x4) ((x2 + x3) + x4)))]))
  refine own_go (fun _ ww => XS.ifNo X49.here hx rfl (hb hby at_32) rfl (own_if .ne (teq (own_cmpL _)).2) ww) ?_
  show own_Goes _ _ _ _ _ _ _ (T49.setTop (mkF m 35 #[.val (.long x1), .second, .val (.long x2), .second, .val (.long x3), .second, .val (.long x4), .second, .val (.ref b42), .val (.long ((x2 + x3) + x4)), .second, .unset, .unset, .unset, .unset] []))
  refine own_go (fun _ ww => XS.iconst X49.here hx rfl (hb hby at_35) ww) ?_
  show own_Goes _ _ _ _ _ _ _ (T49.setTop (mkF m 36 #[.val (.long x1), .second, .val (.long x2), .second, .val (.long x3), .second, .val (.long x4), .second, .val (.ref b42), .val (.long ((x2 + x3) + x4)), .second, .unset, .unset, .unset, .unset] [(.int (1 : Int32))]))
  refine own_go (fun _ ww => XS.goto X49.here hx rfl (pc0 := 36) (pc' := 40) rfl (hb hby at_36) (by decide) (by decide) ww) ?_
  show own_Goes _ _ _ _ _ _ _ (T49.setTop (mkF m 40 #[.val (.long x1), .second, .val (.long x2), .second, .val (.long x3), .second, .val (.long x4), .second, .val (.ref b42), .val (.long ((x2 + x3) + x4)), .second, .unset, .unset, .unset, .unset] [(.int (1 : Int32))]))
  refine own_go (fun _ ww => XS.istore X49.here hx rfl (hb hby at_40) rfl (l' := #[.val (.long x1), .second, .val (.long x2), .second, .val (.long x3), .second, .val (.long x4), .second, .val (.ref b42), .val (.long ((x2 + x3) + x4)), .second, .val (.int (1 : Int32)), .unset, .unset, .unset]) rfl ww) ?_
  show own_Goes _ _ _ _ _ _ _ (T49.setTop (mkF m 42 #[.val (.long x1), .second, .val (.long x2), .second, .val (.long x3), .second, .val (.long x4), .second, .val (.ref b42), .val (.long ((x2 + x3) + x4)), .second, .val (.int (1 : Int32)), .unset, .unset, .unset] []))
  refine own_go (fun _ ww => XT.lload X49.here hx rfl (hb hby at_42) rfl  ww) ?_
  show own_Goes _ _ _ _ _ _ _ (T49.setTop (mkF m 44 #[.val (.long x1), .second, .val (.long x2), .second, .val (.long x3), .second, .val (.long x4), .second, .val (.ref b42), .val (.long ((x2 + x3) + x4)), .second, .val (.int (1 : Int32)), .unset, .unset, .unset] [(.long ((x2 + x3) + x4))]))
  refine own_go (fun _ ww => XS.aload X49.here hx rfl (hb hby at_44) rfl rfl ww) ?_
  show own_Goes _ _ _ _ _ _ _ (T49.setTop (mkF m 46 #[.val (.long x1), .second, .val (.long x2), .second, .val (.long x3), .second, .val (.long x4), .second, .val (.ref b42), .val (.long ((x2 + x3) + x4)), .second, .val (.int (1 : Int32)), .unset, .unset, .unset] [(.ref b42), (.long ((x2 + x3) + x4))]))
  obtain ⟨T50, X50, e50, st50⟩ := getS X49 hx hZ hown (host := "") (hw _ (List.mem_of_getElem? (i := 27) rfl)) Via.refl e49 (Sk0.ext O47.2) (g := (mkF m 46 #[.val (.long x1), .second, .val (.long x2), .second, .val (.long x3), .second, .val (.long x4), .second, .val (.ref b42), .val (.long ((x2 + x3) + x4)), .second, .val (.int (1 : Int32)), .unset, .unset, .unset] [(.ref b42), (.long ((x2 + x3) + x4))])) rfl (hb hby at_46)
  refine own_go st50 ?_
  show own_Goes _ _ _ _ _ _ _ (T50.setTop (mkF m 49 #[.val (.long x1), .second, .val (.long x2), .second, .val (.long x3), .second, .val (.long x4), .second, .val (.ref b42), .val (.long ((x2 + x3) + x4)), .second, .val (.int (1 : Int32)), .unset, .unset, .unset] [(.ref k0), (.ref b42), (.long ((x2 + x3) + x4))]))
  obtain ⟨cq51, kq51, q51a, q51b, q51c⟩ := isOf hZ e50 f48
  obtain ⟨_, _, ⟨T51, L51, k51, n51⟩, -, X51, ⟨Lc51, hQ51, l51, y51, z51⟩, st51⟩ := X50.virtualBack hx (y := (⟨"org/graticule/result/Tally", "count", "(Lorg/graticule/core/Conversion$Status;)J"⟩ : MethodName)) (z := (⟨"org/graticule/result/Tally", "count", "(Lorg/graticule/core/Conversion$Status;)J"⟩ : MethodName)) hown (mvT hZ (hw _ (List.mem_of_getElem? (i := 30) rfl))) (mvT hZ (hw _ (List.mem_of_getElem? (i := 31) rfl))) (notFace_of_selects (args := #[]) (mvT hZ (hw _ (List.mem_of_getElem? (i := 33) rfl)))) (mvT hZ (hw _ (List.mem_of_getElem? (i := 33) rfl))) (mvT hZ (hw _ (List.mem_of_getElem? (i := 32) rfl))) (by decide) (backOf (W := 2) (rm_count0 l Z a0 hw [] b42 k0 x2 sm cl T47.heap n0 O47 (Fk0.ext O47.2) (Ek0.ext O47.2) Q47 Sm Ar ha0) hZ (hw _ (List.mem_of_getElem? (i := 34) rfl)) (hw _ (List.mem_of_getElem? (i := 2) rfl)) (by decide) (by decide)) q51a q51c (g := (mkF m 49 #[.val (.long x1), .second, .val (.long x2), .second, .val (.long x3), .second, .val (.long x4), .second, .val (.ref b42), .val (.long ((x2 + x3) + x4)), .second, .val (.int (1 : Int32)), .unset, .unset, .unset] [(.ref k0), (.ref b42), (.long ((x2 + x3) + x4))])) rfl (by rw [hml]; rfl) (Steps.refl _) (argsL := [(.ref k0)]) (rest := [(.long ((x2 + x3) + x4))]) (lenOf pd_4 rfl) rfl (by show 2 * 0 + _ ≤ _; exact Nat.le_of_eq rfl) (hb hby at_49) (fun _ _ => ⟨rfl, e50, (by decide : 1 + 0 ≤ _), (by decide : 4 + 0 ≤ _)⟩)
  dsimp only [Pt.U, Pt.locs, Pt.cells, Pt.slots] at X51 l51 y51 z51 st51 hQ51
  subst l51 y51 z51
  obtain ⟨rfl, N51q, e51⟩ := hQ51
  have N51 := Fr.app N49 N51q
  refine own_go (fun _ ww => Steps.trans st51 ww) ?_
  show own_Goes _ _ _ _ _ _ _ (T51.setTop (mkF m 52 #[.val (.long x1), .second, .val (.long x2), .second, .val (.long x3), .second, .val (.long x4), .second, .val (.ref b42), .val (.long ((x2 + x3) + x4)), .second, .val (.int (1 : Int32)), .unset, .unset, .unset] [(.long x2), (.long ((x2 + x3) + x4))]))
  refine own_go (fun _ ww => XS.aload X51.here hx rfl (hb hby at_52) rfl rfl ww) ?_
  show own_Goes _ _ _ _ _ _ _ (T51.setTop (mkF m 54 #[.val (.long x1), .second, .val (.long x2), .second, .val (.long x3), .second, .val (.long x4), .second, .val (.ref b42), .val (.long ((x2 + x3) + x4)), .second, .val (.int (1 : Int32)), .unset, .unset, .unset] [(.ref b42), (.long x2), (.long ((x2 + x3) + x4))]))
  obtain ⟨T52, X52, e52, st52⟩ := getS X51 hx hZ hown (host := "") (hw _ (List.mem_of_getElem? (i := 47) rfl)) Via.refl e51 (Sk1.ext O47.2) (g := (mkF m 54 #[.val (.long x1), .second, .val (.long x2), .second, .val (.long x3), .second, .val (.long x4), .second, .val (.ref b42), .val (.long ((x2 + x3) + x4)), .second, .val (.int (1 : Int32)), .unset, .unset, .unset] [(.ref b42), (.long x2), (.long ((x2 + x3) + x4))])) rfl (hb hby at_54)
  refine own_go st52 ?_
  show own_Goes _ _ _ _ _ _ _ (T52.setTop (mkF m 57 #[.val (.long x1), .second, .val (.long x2), .second, .val (.long x3), .second, .val (.long x4), .second, .val (.ref b42), .val (.long ((x2 + x3) + x4)), .second, .val (.int (1 : Int32)), .unset, .unset, .unset] [(.ref k1), (.ref b42), (.long x2), (.long ((x2 + x3) + x4))]))
  obtain ⟨cq53, kq53, q53a, q53b, q53c⟩ := isOf hZ e52 f48
  obtain ⟨_, _, ⟨T53, L53, k53, n53⟩, -, X53, ⟨Lc53, hQ53, l53, y53, z53⟩, st53⟩ := X52.virtualBack hx (y := (⟨"org/graticule/result/Tally", "count", "(Lorg/graticule/core/Conversion$Status;)J"⟩ : MethodName)) (z := (⟨"org/graticule/result/Tally", "count", "(Lorg/graticule/core/Conversion$Status;)J"⟩ : MethodName)) hown (mvT hZ (hw _ (List.mem_of_getElem? (i := 30) rfl))) (mvT hZ (hw _ (List.mem_of_getElem? (i := 31) rfl))) (notFace_of_selects (args := #[]) (mvT hZ (hw _ (List.mem_of_getElem? (i := 33) rfl)))) (mvT hZ (hw _ (List.mem_of_getElem? (i := 33) rfl))) (mvT hZ (hw _ (List.mem_of_getElem? (i := 32) rfl))) (by decide) (backOf (W := 4) (rm_count1 l Z a0 hw [] b42 k1 x3 sm cl T47.heap n0 O47 (Fk1.ext O47.2) (Ek1.ext O47.2) R47 Sm Ar ha1) hZ (hw _ (List.mem_of_getElem? (i := 34) rfl)) (hw _ (List.mem_of_getElem? (i := 2) rfl)) (by decide) (by decide)) q53a q53c (g := (mkF m 57 #[.val (.long x1), .second, .val (.long x2), .second, .val (.long x3), .second, .val (.long x4), .second, .val (.ref b42), .val (.long ((x2 + x3) + x4)), .second, .val (.int (1 : Int32)), .unset, .unset, .unset] [(.ref k1), (.ref b42), (.long x2), (.long ((x2 + x3) + x4))])) rfl (by rw [hml]; rfl) (Steps.refl _) (argsL := [(.ref k1)]) (rest := [(.long x2), (.long ((x2 + x3) + x4))]) (lenOf pd_4 rfl) rfl (by show 2 * 0 + _ ≤ _; exact Nat.le_of_eq rfl) (hb hby at_57) (fun _ _ => ⟨rfl, e52, (by decide : 1 + 0 ≤ _), (by decide : 4 + 0 ≤ _)⟩)
  dsimp only [Pt.U, Pt.locs, Pt.cells, Pt.slots] at X53 l53 y53 z53 st53 hQ53
  subst l53 y53 z53
  obtain ⟨rfl, N53q, e53⟩ := hQ53
  have N53 := Fr.app N51 N53q
  refine own_go (fun _ ww => Steps.trans st53 ww) ?_
  show own_Goes _ _ _ _ _ _ _ (T53.setTop (mkF m 60 #[.val (.long x1), .second, .val (.long x2), .second, .val (.long x3), .second, .val (.long x4), .second, .val (.ref b42), .val (.long ((x2 + x3) + x4)), .second, .val (.int (1 : Int32)), .unset, .unset, .unset] [(.long x3), (.long x2), (.long ((x2 + x3) + x4))]))
  refine own_go (fun _ ww => XT.ladd X53.here hx rfl (hb hby at_60) rfl ww) ?_
  show own_Goes _ _ _ _ _ _ _ (T53.setTop (mkF m 61 #[.val (.long x1), .second, .val (.long x2), .second, .val (.long x3), .second, .val (.long x4), .second, .val (.ref b42), .val (.long ((x2 + x3) + x4)), .second, .val (.int (1 : Int32)), .unset, .unset, .unset] [(.long (x2 + x3)), (.long ((x2 + x3) + x4))]))
  refine own_go (fun _ ww => XS.aload X53.here hx rfl (hb hby at_61) rfl rfl ww) ?_
  show own_Goes _ _ _ _ _ _ _ (T53.setTop (mkF m 63 #[.val (.long x1), .second, .val (.long x2), .second, .val (.long x3), .second, .val (.long x4), .second, .val (.ref b42), .val (.long ((x2 + x3) + x4)), .second, .val (.int (1 : Int32)), .unset, .unset, .unset] [(.ref b42), (.long (x2 + x3)), (.long ((x2 + x3) + x4))]))
  obtain ⟨T54, X54, e54, st54⟩ := getS X53 hx hZ hown (host := "") (hw _ (List.mem_of_getElem? (i := 49) rfl)) Via.refl e53 (Sk2.ext O47.2) (g := (mkF m 63 #[.val (.long x1), .second, .val (.long x2), .second, .val (.long x3), .second, .val (.long x4), .second, .val (.ref b42), .val (.long ((x2 + x3) + x4)), .second, .val (.int (1 : Int32)), .unset, .unset, .unset] [(.ref b42), (.long (x2 + x3)), (.long ((x2 + x3) + x4))])) rfl (hb hby at_63)
  refine own_go st54 ?_
  show own_Goes _ _ _ _ _ _ _ (T54.setTop (mkF m 66 #[.val (.long x1), .second, .val (.long x2), .second, .val (.long x3), .second, .val (.long x4), .second, .val (.ref b42), .val (.long ((x2 + x3) + x4)), .second, .val (.int (1 : Int32)), .unset, .unset, .unset] [(.ref k2), (.ref b42), (.long (x2 + x3)), (.long ((x2 + x3) + x4))]))
  obtain ⟨cq55, kq55, q55a, q55b, q55c⟩ := isOf hZ e54 f48
  obtain ⟨_, _, ⟨T55, L55, k55, n55⟩, -, X55, ⟨Lc55, hQ55, l55, y55, z55⟩, st55⟩ := X54.virtualBack hx (y := (⟨"org/graticule/result/Tally", "count", "(Lorg/graticule/core/Conversion$Status;)J"⟩ : MethodName)) (z := (⟨"org/graticule/result/Tally", "count", "(Lorg/graticule/core/Conversion$Status;)J"⟩ : MethodName)) hown (mvT hZ (hw _ (List.mem_of_getElem? (i := 30) rfl))) (mvT hZ (hw _ (List.mem_of_getElem? (i := 31) rfl))) (notFace_of_selects (args := #[]) (mvT hZ (hw _ (List.mem_of_getElem? (i := 33) rfl)))) (mvT hZ (hw _ (List.mem_of_getElem? (i := 33) rfl))) (mvT hZ (hw _ (List.mem_of_getElem? (i := 32) rfl))) (by decide) (backOf (W := 4) (rm_count2 l Z a0 hw [] b42 k2 x4 sm cl T47.heap n0 O47 (Fk2.ext O47.2) (Ek2.ext O47.2) U47 Sm Ar ha2) hZ (hw _ (List.mem_of_getElem? (i := 34) rfl)) (hw _ (List.mem_of_getElem? (i := 2) rfl)) (by decide) (by decide)) q55a q55c (g := (mkF m 66 #[.val (.long x1), .second, .val (.long x2), .second, .val (.long x3), .second, .val (.long x4), .second, .val (.ref b42), .val (.long ((x2 + x3) + x4)), .second, .val (.int (1 : Int32)), .unset, .unset, .unset] [(.ref k2), (.ref b42), (.long (x2 + x3)), (.long ((x2 + x3) + x4))])) rfl (by rw [hml]; rfl) (Steps.refl _) (argsL := [(.ref k2)]) (rest := [(.long (x2 + x3)), (.long ((x2 + x3) + x4))]) (lenOf pd_4 rfl) rfl (by show 2 * 0 + _ ≤ _; exact Nat.le_of_eq rfl) (hb hby at_66) (fun _ _ => ⟨rfl, e54, (by decide : 1 + 0 ≤ _), (by decide : 4 + 0 ≤ _)⟩)
  dsimp only [Pt.U, Pt.locs, Pt.cells, Pt.slots] at X55 l55 y55 z55 st55 hQ55
  subst l55 y55 z55
  obtain ⟨rfl, N55q, e55⟩ := hQ55
  have N55 := Fr.app N53 N55q
  refine own_go (fun _ ww => Steps.trans st55 ww) ?_
  show own_Goes _ _ _ _ _ _ _ (T55.setTop (mkF m 69 #[.val (.long x1), .second, .val (.long x2), .second, .val (.long x3), .second, .val (.long x4), .second, .val (.ref b42), .val (.long ((x2 + x3) + x4)), .second, .val (.int (1 : Int32)), .unset, .unset, .unset] [(.long x4), (.long (x2 + x3)), (.long ((x2 + x3) + x4))]))
  refine own_go (fun _ ww => XT.ladd X55.here hx rfl (hb hby at_69) rfl ww) ?_
  show own_Goes _ _ _ _ _ _ _ (T55.setTop (mkF m 70 #[.val (.long x1), .second, .val (.long x2), .second, .val (.long x3), .second, .val (.long x4), .second, .val (.ref b42), .val (.long ((x2 + x3) + x4)), .second, .val (.int (1 : Int32)), .unset, .unset, .unset] [(.long ((x2 + x3) + x4)), (.long ((x2 + x3) + x4))]))
  refine own_go (fun _ ww => XT.lcmp X55.here hx rfl (hb hby at_70) rfl ww) ?_
  show own_Goes _ _ _ _ _ _ _ (T55.setTop (mkF m 71 #[.val (.long x1), .second, .val (.long x2), .second, .val (.long x3), .second, .val (.long x4), .second, .val (.ref b42), .val (.long ((x2 + x3) + x4)), .second, .val (.int (1 : Int32)), .unset, .unset, .unset] [(.int (XT.cmpL ((x2 + x3) + x4) ((x2 + x3) + x4)))]))
  refine own_go (fun _ ww => XS.ifNo X55.here hx rfl (hb hby at_71) rfl (own_if .ne (teq (own_cmpL _)).2) ww) ?_
  show own_Goes _ _ _ _ _ _ _ (T55.setTop (mkF m 74 #[.val (.long x1), .second, .val (.long x2), .second, .val (.long x3), .second, .val (.long x4), .second, .val (.ref b42), .val (.long ((x2 + x3) + x4)), .second, .val (.int (1 : Int32)), .unset, .unset, .unset] []))
  refine own_go (fun _ ww => XS.iconst X55.here hx rfl (hb hby at_74) ww) ?_
  show own_Goes _ _ _ _ _ _ _ (T55.setTop (mkF m 75 #[.val (.long x1), .second, .val (.long x2), .second, .val (.long x3), .second, .val (.long x4), .second, .val (.ref b42), .val (.long ((x2 + x3) + x4)), .second, .val (.int (1 : Int32)), .unset, .unset, .unset] [(.int (1 : Int32))]))
  refine own_go (fun _ ww => XS.goto X55.here hx rfl (pc0 := 75) (pc' := 79) rfl (hb hby at_75) (by decide) (by decide) ww) ?_
  show own_Goes _ _ _ _ _ _ _ (T55.setTop (mkF m 79 #[.val (.long x1), .second, .val (.long x2), .second, .val (.long x3), .second, .val (.long x4), .second, .val (.ref b42), .val (.long ((x2 + x3) + x4)), .second, .val (.int (1 : Int32)), .unset, .unset, .unset] [(.int (1 : Int32))]))
  refine own_go (fun _ ww => XS.istore X55.here hx rfl (hb hby at_79) rfl (l' := #[.val (.long x1), .second, .val (.long x2), .second, .val (.long x3), .second, .val (.long x4), .second, .val (.ref b42), .val (.long ((x2 + x3) + x4)), .second, .val (.int (1 : Int32)), .val (.int (1 : Int32)), .unset, .unset]) rfl ww) ?_
  show own_Goes _ _ _ _ _ _ _ (T55.setTop (mkF m 81 #[.val (.long x1), .second, .val (.long x2), .second, .val (.long x3), .second, .val (.long x4), .second, .val (.ref b42), .val (.long ((x2 + x3) + x4)), .second, .val (.int (1 : Int32)), .val (.int (1 : Int32)), .unset, .unset] []))
  obtain ⟨T56, h56, X56, e56, E56, A56, D56, -, st56⟩ := newO X55 hx hZ hown (hw _ (List.mem_of_getElem? (i := 0) rfl)) (hw _ (List.mem_of_getElem? (i := 1) rfl)) (hw _ (List.mem_of_getElem? (i := 2) rfl)) e55 (g := (mkF m 81 #[.val (.long x1), .second, .val (.long x2), .second, .val (.long x3), .second, .val (.long x4), .second, .val (.ref b42), .val (.long ((x2 + x3) + x4)), .second, .val (.int (1 : Int32)), .val (.int (1 : Int32)), .unset, .unset] [])) rfl (hb hby at_81) (by decide) (by decide)
  obtain ⟨b56, g56⟩ : ∃ z, z = T47.heap.size := ⟨_, rfl⟩
  rw [← g56] at A56 D56 st56
  have ne_b42_b56 : b42 ≠ b56 := Nat.ne_of_lt (Nat.lt_of_lt_of_le f48.lt (Nat.le_of_eq g56.symm))
  have ne_k0_b56 : k0 ≠ b56 := Nat.ne_of_lt (Nat.lt_of_lt_of_le (Ek0.ext O47.2).lt (Nat.le_of_eq g56.symm))
  have ne_k1_b56 : k1 ≠ b56 := Nat.ne_of_lt (Nat.lt_of_lt_of_le (Ek1.ext O47.2).lt (Nat.le_of_eq g56.symm))
  have ne_k2_b56 : k2 ≠ b56 := Nat.ne_of_lt (Nat.lt_of_lt_of_le (Ek2.ext O47.2).lt (Nat.le_of_eq g56.symm))
  have g_b56 : n0 ≤ b56 := Nat.le_trans (O47.1 ▸ O47.2.1) (Nat.le_of_eq g56.symm)
  have f57 : Exa Z h56 b42 "org/graticule/result/Tally" := (f48.ext E56)
  have f58 : Fld Z h56 b42 "org/graticule/result/Tally" "records" "J" (.long x1) := (P47.ext E56)
  have f59 : Fld Z h56 b42 "org/graticule/result/Tally" "converted" "J" (.long x2) := (Q47.ext E56)
  have f60 : Fld Z h56 b42 "org/graticule/result/Tally" "repaired" "J" (.long x3) := (R47.ext E56)
  have f61 : Fld Z h56 b42 "org/graticule/result/Tally" "rejected" "J" (.long x4) := (U47.ext E56)
  have O56 := O47.ext E56
  have f62 : Fld Z h56 b56 "org/graticule/result/Tally" "records" "J" (.long (0 : Int64)) := D56 (Or.inr (hw _ (List.mem_of_getElem? (i := 15) rfl))) (ty := .long) (by decide)
  have f63 : Fld Z h56 b56 "org/graticule/result/Tally" "converted" "J" (.long (0 : Int64)) := D56 (Or.inr (hw _ (List.mem_of_getElem? (i := 17) rfl))) (ty := .long) (by decide)
  have f64 : Fld Z h56 b56 "org/graticule/result/Tally" "repaired" "J" (.long (0 : Int64)) := D56 (Or.inr (hw _ (List.mem_of_getElem? (i := 19) rfl))) (ty := .long) (by decide)
  have f65 : Fld Z h56 b56 "org/graticule/result/Tally" "rejected" "J" (.long (0 : Int64)) := D56 (Or.inr (hw _ (List.mem_of_getElem? (i := 21) rfl))) (ty := .long) (by decide)
  refine own_go st56 ?_
  show own_Goes _ _ _ _ _ _ _ (T56.setTop (mkF m 84 #[.val (.long x1), .second, .val (.long x2), .second, .val (.long x3), .second, .val (.long x4), .second, .val (.ref b42), .val (.long ((x2 + x3) + x4)), .second, .val (.int (1 : Int32)), .val (.int (1 : Int32)), .unset, .unset] [(.ref b56)]))
  refine own_go (fun _ ww => XS.dup X56.here hx rfl (hb hby at_84) rfl rfl ww) ?_
  show own_Goes _ _ _ _ _ _ _ (T56.setTop (mkF m 85 #[.val (.long x1), .second, .val (.long x2), .second, .val (.long x3), .second, .val (.long x4), .second, .val (.ref b42), .val (.long ((x2 + x3) + x4)), .second, .val (.int (1 : Int32)), .val (.int (1 : Int32)), .unset, .unset] [(.ref b56), (.ref b56)]))
  refine own_go (fun _ ww => XT.lloadN X56.here hx rfl (hb hby at_85) rfl  ww) ?_
  show own_Goes _ _ _ _ _ _ _ (T56.setTop (mkF m 86 #[.val (.long x1), .second, .val (.long x2), .second, .val (.long x3), .second, .val (.long x4), .second, .val (.ref b42), .val (.long ((x2 + x3) + x4)), .second, .val (.int (1 : Int32)), .val (.int (1 : Int32)), .unset, .unset] [(.long x1), (.ref b56), (.ref b56)]))
  refine own_go (fun _ ww => X56.ldc2J hx hown (mvT hZ (hw _ (List.mem_of_getElem? (i := 51) rfl))) rfl (hb hby at_86) ww) ?_
  show own_Goes _ _ _ _ _ _ _ (T56.setTop (mkF m 89 #[.val (.long x1), .second, .val (.long x2), .second, .val (.long x3), .second, .val (.long x4), .second, .val (.ref b42), .val (.long ((x2 + x3) + x4)), .second, .val (.int (1 : Int32)), .val (.int (1 : Int32)), .unset, .unset] [(.long (-1 : Int64)), (.long x1), (.ref b56), (.ref b56)]))
  refine own_go (fun _ ww => XT.lxor X56.here hx rfl (hb hby at_89) rfl ww) ?_
  show own_Goes _ _ _ _ _ _ _ (T56.setTop (mkF m 90 #[.val (.long x1), .second, .val (.long x2), .second, .val (.long x3), .second, .val (.long x4), .second, .val (.ref b42), .val (.long ((x2 + x3) + x4)), .second, .val (.int (1 : Int32)), .val (.int (1 : Int32)), .unset, .unset] [(.long (x1 ^^^ (-1 : Int64))), (.ref b56), (.ref b56)]))
  refine own_go (fun _ ww => XT.lloadN X56.here hx rfl (hb hby at_90) rfl  ww) ?_
  show own_Goes _ _ _ _ _ _ _ (T56.setTop (mkF m 91 #[.val (.long x1), .second, .val (.long x2), .second, .val (.long x3), .second, .val (.long x4), .second, .val (.ref b42), .val (.long ((x2 + x3) + x4)), .second, .val (.int (1 : Int32)), .val (.int (1 : Int32)), .unset, .unset] [(.long x2), (.long (x1 ^^^ (-1 : Int64))), (.ref b56), (.ref b56)]))
  refine own_go (fun _ ww => XT.lload X56.here hx rfl (hb hby at_91) rfl  ww) ?_
  show own_Goes _ _ _ _ _ _ _ (T56.setTop (mkF m 93 #[.val (.long x1), .second, .val (.long x2), .second, .val (.long x3), .second, .val (.long x4), .second, .val (.ref b42), .val (.long ((x2 + x3) + x4)), .second, .val (.int (1 : Int32)), .val (.int (1 : Int32)), .unset, .unset] [(.long x3), (.long x2), (.long (x1 ^^^ (-1 : Int64))), (.ref b56), (.ref b56)]))
  refine own_go (fun _ ww => XT.lload X56.here hx rfl (hb hby at_93) rfl  ww) ?_
  show own_Goes _ _ _ _ _ _ _ (T56.setTop (mkF m 95 #[.val (.long x1), .second, .val (.long x2), .second, .val (.long x3), .second, .val (.long x4), .second, .val (.ref b42), .val (.long ((x2 + x3) + x4)), .second, .val (.int (1 : Int32)), .val (.int (1 : Int32)), .unset, .unset] [(.long x4), (.long x3), (.long x2), (.long (x1 ^^^ (-1 : Int64))), (.ref b56), (.ref b56)]))
  obtain ⟨_, _, ⟨T66, L66, k66, n66⟩, -, X66, ⟨Lc66, hQ66, l66, y66, z66⟩, st66⟩ := X56.specialBack hx (y := (⟨"org/graticule/result/Tally", "<init>", "(JJJJ)V"⟩ : MethodName)) rfl hown (mvT hZ (hw _ (List.mem_of_getElem? (i := 3) rfl))) (mvT hZ (hw _ (List.mem_of_getElem? (i := 4) rfl))) (mvT hZ (hw _ (List.mem_of_getElem? (i := 5) rfl))) (by decide) (backOf (W := 1) (rm_init l Z a0 hw [] b56 (x1 ^^^ (-1 : Int64)) x2 x3 x4 h56 n0 O56 f62 f63 f64 f65 A56 g_b56) hZ (hw _ (List.mem_of_getElem? (i := 5) rfl)) (hw _ (List.mem_of_getElem? (i := 2) rfl)) (by decide) (by decide)) (g := (mkF m 95 #[.val (.long x1), .second, .val (.long x2), .second, .val (.long x3), .second, .val (.long x4), .second, .val (.ref b42), .val (.long ((x2 + x3) + x4)), .second, .val (.int (1 : Int32)), .val (.int (1 : Int32)), .unset, .unset] [(.long x4), (.long x3), (.long x2), (.long (x1 ^^^ (-1 : Int64))), (.ref b56), (.ref b56)])) rfl (by rw [hml]; rfl) (Steps.refl _) (a := b56) (argsL := [(.long (x1 ^^^ (-1 : Int64))), (.long x2), (.long x3), (.long x4)]) (rest := [(.ref b56)]) (lenOf pd_2 rfl) rfl (by show 2 * 0 + _ ≤ _; exact Nat.le_of_eq rfl) (hb hby at_95) (fun _ _ => ⟨rfl, e56, (by decide : 2 + 0 ≤ _), (by decide : 8 + 0 ≤ _)⟩)
  dsimp only [Pt.U, Pt.locs, Pt.cells, Pt.slots] at X66 l66 y66 z66 st66 hQ66
  subst l66 y66 z66
  obtain ⟨rfl, N66q, K66q, P66, Q66, R66, U66⟩ := hQ66
  have N66 := Fr.app N55 N66q
  have f67 : Exa Z T66.heap b42 "org/graticule/result/Tally" := (f57.keep K66q)
  have f68 : Fld Z T66.heap b42 "org/graticule/result/Tally" "records" "J" (.long x1) := (f58.keep K66q (ninS ne_b42_b56 nin0))
  have f69 : Fld Z T66.heap b42 "org/graticule/result/Tally" "converted" "J" (.long x2) := (f59.keep K66q (ninS ne_b42_b56 nin0))
  have f70 : Fld Z T66.heap b42 "org/graticule/result/Tally" "repaired" "J" (.long x3) := (f60.keep K66q (ninS ne_b42_b56 nin0))
  have f71 : Fld Z T66.heap b42 "org/graticule/result/Tally" "rejected" "J" (.long x4) := (f61.keep K66q (ninS ne_b42_b56 nin0))
  have f72 : Exa Z T66.heap b56 "org/graticule/result/Tally" := (A56.keep K66q)
  have O66 := O56.keep K66q (allS g_b56 all0)
  refine own_go (fun _ ww => Steps.trans st66 ww) ?_
  show own_Goes _ _ _ _ _ _ _ (T66.setTop (mkF m 98 #[.val (.long x1), .second, .val (.long x2), .second, .val (.long x3), .second, .val (.long x4), .second, .val (.ref b42), .val (.long ((x2 + x3) + x4)), .second, .val (.int (1 : Int32)), .val (.int (1 : Int32)), .unset, .unset] [(.ref b56)]))
  obtain ⟨cq73, kq73, q73a, q73b, q73c⟩ := isOf hZ rfl f72
  obtain ⟨_, _, ⟨T73, L73, k73, n73⟩, -, X73, ⟨Lc73, hQ73, l73, y73, z73⟩, st73⟩ := X66.virtualBack hx (y := (⟨"org/graticule/result/Tally", "fields", "()J"⟩ : MethodName)) (z := (⟨"org/graticule/result/Tally", "fields", "()J"⟩ : MethodName)) hown (mvT hZ (hw _ (List.mem_of_getElem? (i := 22) rfl))) (mvT hZ (hw _ (List.mem_of_getElem? (i := 23) rfl))) (notFace_of_selects (args := #[]) (mvT hZ (hw _ (List.mem_of_getElem? (i := 25) rfl)))) (mvT hZ (hw _ (List.mem_of_getElem? (i := 25) rfl))) (mvT hZ (hw _ (List.mem_of_getElem? (i := 24) rfl))) (by decide) (backOf (W := 0) (rm_fields l Z a0 hw [] b56 x2 x3 x4 T66.heap n0 O66 Q66 R66 U66) hZ (hw _ (List.mem_of_getElem? (i := 26) rfl)) (hw _ (List.mem_of_getElem? (i := 2) rfl)) (by decide) (by decide)) q73a q73c (g := (mkF m 98 #[.val (.long x1), .second, .val (.long x2), .second, .val (.long x3), .second, .val (.long x4), .second, .val (.ref b42), .val (.long ((x2 + x3) + x4)), .second, .val (.int (1 : Int32)), .val (.int (1 : Int32)), .unset, .unset] [(.ref b56)])) rfl (by rw [hml]; rfl) (Steps.refl _) (argsL := []) (rest := []) (lenOf pd_3 rfl) rfl (by show 2 * 0 + _ ≤ _; exact Nat.le_of_eq rfl) (hb hby at_98) (fun _ _ => ⟨rfl, rfl, (by decide : 2 + 0 ≤ _), (by decide : 8 + 0 ≤ _)⟩)
  dsimp only [Pt.U, Pt.locs, Pt.cells, Pt.slots] at X73 l73 y73 z73 st73 hQ73
  subst l73 y73 z73
  obtain ⟨rfl, N73q, e73⟩ := hQ73
  have N73 := Fr.app N66 N73q
  refine own_go (fun _ ww => Steps.trans st73 ww) ?_
  show own_Goes _ _ _ _ _ _ _ (T73.setTop (mkF m 101 #[.val (.long x1), .second, .val (.long x2), .second, .val (.long x3), .second, .val (.long x4), .second, .val (.ref b42), .val (.long ((x2 + x3) + x4)), .second, .val (.int (1 : Int32)), .val (.int (1 : Int32)), .unset, .unset] [(.long ((x2 + x3) + x4))]))
  refine own_go (fun _ ww => XT.lload X73.here hx rfl (hb hby at_101) rfl  ww) ?_
  show own_Goes _ _ _ _ _ _ _ (T73.setTop (mkF m 103 #[.val (.long x1), .second, .val (.long x2), .second, .val (.long x3), .second, .val (.long x4), .second, .val (.ref b42), .val (.long ((x2 + x3) + x4)), .second, .val (.int (1 : Int32)), .val (.int (1 : Int32)), .unset, .unset] [(.long ((x2 + x3) + x4)), (.long ((x2 + x3) + x4))]))
  refine own_go (fun _ ww => XT.lcmp X73.here hx rfl (hb hby at_103) rfl ww) ?_
  show own_Goes _ _ _ _ _ _ _ (T73.setTop (mkF m 104 #[.val (.long x1), .second, .val (.long x2), .second, .val (.long x3), .second, .val (.long x4), .second, .val (.ref b42), .val (.long ((x2 + x3) + x4)), .second, .val (.int (1 : Int32)), .val (.int (1 : Int32)), .unset, .unset] [(.int (XT.cmpL ((x2 + x3) + x4) ((x2 + x3) + x4)))]))
  refine own_go (fun _ ww => XS.ifNo X73.here hx rfl (hb hby at_104) rfl (own_if .ne (teq (own_cmpL _)).2) ww) ?_
  show own_Goes _ _ _ _ _ _ _ (T73.setTop (mkF m 107 #[.val (.long x1), .second, .val (.long x2), .second, .val (.long x3), .second, .val (.long x4), .second, .val (.ref b42), .val (.long ((x2 + x3) + x4)), .second, .val (.int (1 : Int32)), .val (.int (1 : Int32)), .unset, .unset] []))
  refine own_go (fun _ ww => XS.iconst X73.here hx rfl (hb hby at_107) ww) ?_
  show own_Goes _ _ _ _ _ _ _ (T73.setTop (mkF m 108 #[.val (.long x1), .second, .val (.long x2), .second, .val (.long x3), .second, .val (.long x4), .second, .val (.ref b42), .val (.long ((x2 + x3) + x4)), .second, .val (.int (1 : Int32)), .val (.int (1 : Int32)), .unset, .unset] [(.int (1 : Int32))]))
  refine own_go (fun _ ww => XS.goto X73.here hx rfl (pc0 := 108) (pc' := 112) rfl (hb hby at_108) (by decide) (by decide) ww) ?_
  show own_Goes _ _ _ _ _ _ _ (T73.setTop (mkF m 112 #[.val (.long x1), .second, .val (.long x2), .second, .val (.long x3), .second, .val (.long x4), .second, .val (.ref b42), .val (.long ((x2 + x3) + x4)), .second, .val (.int (1 : Int32)), .val (.int (1 : Int32)), .unset, .unset] [(.int (1 : Int32))]))
  refine own_go (fun _ ww => XS.istore X73.here hx rfl (hb hby at_112) rfl (l' := #[.val (.long x1), .second, .val (.long x2), .second, .val (.long x3), .second, .val (.long x4), .second, .val (.ref b42), .val (.long ((x2 + x3) + x4)), .second, .val (.int (1 : Int32)), .val (.int (1 : Int32)), .val (.int (1 : Int32)), .unset]) rfl ww) ?_
  show own_Goes _ _ _ _ _ _ _ (T73.setTop (mkF m 114 #[.val (.long x1), .second, .val (.long x2), .second, .val (.long x3), .second, .val (.long x4), .second, .val (.ref b42), .val (.long ((x2 + x3) + x4)), .second, .val (.int (1 : Int32)), .val (.int (1 : Int32)), .val (.int (1 : Int32)), .unset] []))
  obtain ⟨T74, h74, X74, e74, E74, A74, D74, -, st74⟩ := newO X73 hx hZ hown (hw _ (List.mem_of_getElem? (i := 0) rfl)) (hw _ (List.mem_of_getElem? (i := 1) rfl)) (hw _ (List.mem_of_getElem? (i := 2) rfl)) e73 (g := (mkF m 114 #[.val (.long x1), .second, .val (.long x2), .second, .val (.long x3), .second, .val (.long x4), .second, .val (.ref b42), .val (.long ((x2 + x3) + x4)), .second, .val (.int (1 : Int32)), .val (.int (1 : Int32)), .val (.int (1 : Int32)), .unset] [])) rfl (hb hby at_114) (by decide) (by decide)
  obtain ⟨b74, g74⟩ : ∃ z, z = T66.heap.size := ⟨_, rfl⟩
  rw [← g74] at A74 D74 st74
  have ne_b42_b74 : b42 ≠ b74 := Nat.ne_of_lt (Nat.lt_of_lt_of_le f67.lt (Nat.le_of_eq g74.symm))
  have ne_b56_b74 : b56 ≠ b74 := Nat.ne_of_lt (Nat.lt_of_lt_of_le f72.lt (Nat.le_of_eq g74.symm))
  have ne_k0_b74 : k0 ≠ b74 := Nat.ne_of_lt (Nat.lt_of_lt_of_le (Ek0.ext O66.2).lt (Nat.le_of_eq g74.symm))
  have ne_k1_b74 : k1 ≠ b74 := Nat.ne_of_lt (Nat.lt_of_lt_of_le (Ek1.ext O66.2).lt (Nat.le_of_eq g74.symm))
  have ne_k2_b74 : k2 ≠ b74 := Nat.ne_of_lt (Nat.lt_of_lt_of_le (Ek2.ext O66.2).lt (Nat.le_of_eq g74.symm))
  have g_b74 : n0 ≤ b74 := Nat.le_trans (O66.1 ▸ O66.2.1) (Nat.le_of_eq g74.symm)
  have f75 : Exa Z h74 b42 "org/graticule/result/Tally" := (f67.ext E74)
  have f76 : Fld Z h74 b42 "org/graticule/result/Tally" "records" "J" (.long x1) := (f68.ext E74)
  have f77 : Fld Z h74 b42 "org/graticule/result/Tally" "converted" "J" (.long x2) := (f69.ext E74)
  have f78 : Fld Z h74 b42 "org/graticule/result/Tally" "repaired" "J" (.long x3) := (f70.ext E74)
  have f79 : Fld Z h74 b42 "org/graticule/result/Tally" "rejected" "J" (.long x4) := (f71.ext E74)
  have f80 : Exa Z h74 b56 "org/graticule/result/Tally" := (f72.ext E74)
  have f81 : Fld Z h74 b56 "org/graticule/result/Tally" "records" "J" (.long (x1 ^^^ (-1 : Int64))) := (P66.ext E74)
  have f82 : Fld Z h74 b56 "org/graticule/result/Tally" "converted" "J" (.long x2) := (Q66.ext E74)
  have f83 : Fld Z h74 b56 "org/graticule/result/Tally" "repaired" "J" (.long x3) := (R66.ext E74)
  have f84 : Fld Z h74 b56 "org/graticule/result/Tally" "rejected" "J" (.long x4) := (U66.ext E74)
  have O74 := O66.ext E74
  have f85 : Fld Z h74 b74 "org/graticule/result/Tally" "records" "J" (.long (0 : Int64)) := D74 (Or.inr (hw _ (List.mem_of_getElem? (i := 15) rfl))) (ty := .long) (by decide)
  have f86 : Fld Z h74 b74 "org/graticule/result/Tally" "converted" "J" (.long (0 : Int64)) := D74 (Or.inr (hw _ (List.mem_of_getElem? (i := 17) rfl))) (ty := .long) (by decide)
  have f87 : Fld Z h74 b74 "org/graticule/result/Tally" "repaired" "J" (.long (0 : Int64)) := D74 (Or.inr (hw _ (List.mem_of_getElem? (i := 19) rfl))) (ty := .long) (by decide)
  have f88 : Fld Z h74 b74 "org/graticule/result/Tally" "rejected" "J" (.long (0 : Int64)) := D74 (Or.inr (hw _ (List.mem_of_getElem? (i := 21) rfl))) (ty := .long) (by decide)
  refine own_go st74 ?_
  show own_Goes _ _ _ _ _ _ _ (T74.setTop (mkF m 117 #[.val (.long x1), .second, .val (.long x2), .second, .val (.long x3), .second, .val (.long x4), .second, .val (.ref b42), .val (.long ((x2 + x3) + x4)), .second, .val (.int (1 : Int32)), .val (.int (1 : Int32)), .val (.int (1 : Int32)), .unset] [(.ref b74)]))
  refine own_go (fun _ ww => XS.dup X74.here hx rfl (hb hby at_117) rfl rfl ww) ?_
  show own_Goes _ _ _ _ _ _ _ (T74.setTop (mkF m 118 #[.val (.long x1), .second, .val (.long x2), .second, .val (.long x3), .second, .val (.long x4), .second, .val (.ref b42), .val (.long ((x2 + x3) + x4)), .second, .val (.int (1 : Int32)), .val (.int (1 : Int32)), .val (.int (1 : Int32)), .unset] [(.ref b74), (.ref b74)]))
  refine own_go (fun _ ww => XT.lloadN X74.here hx rfl (hb hby at_118) rfl  ww) ?_
  show own_Goes _ _ _ _ _ _ _ (T74.setTop (mkF m 119 #[.val (.long x1), .second, .val (.long x2), .second, .val (.long x3), .second, .val (.long x4), .second, .val (.ref b42), .val (.long ((x2 + x3) + x4)), .second, .val (.int (1 : Int32)), .val (.int (1 : Int32)), .val (.int (1 : Int32)), .unset] [(.long x1), (.ref b74), (.ref b74)]))
  refine own_go (fun _ ww => XT.lload X74.here hx rfl (hb hby at_119) rfl  ww) ?_
  show own_Goes _ _ _ _ _ _ _ (T74.setTop (mkF m 121 #[.val (.long x1), .second, .val (.long x2), .second, .val (.long x3), .second, .val (.long x4), .second, .val (.ref b42), .val (.long ((x2 + x3) + x4)), .second, .val (.int (1 : Int32)), .val (.int (1 : Int32)), .val (.int (1 : Int32)), .unset] [(.long x4), (.long x1), (.ref b74), (.ref b74)]))
  refine own_go (fun _ ww => XT.lloadN X74.here hx rfl (hb hby at_121) rfl  ww) ?_
  show own_Goes _ _ _ _ _ _ _ (T74.setTop (mkF m 122 #[.val (.long x1), .second, .val (.long x2), .second, .val (.long x3), .second, .val (.long x4), .second, .val (.ref b42), .val (.long ((x2 + x3) + x4)), .second, .val (.int (1 : Int32)), .val (.int (1 : Int32)), .val (.int (1 : Int32)), .unset] [(.long x2), (.long x4), (.long x1), (.ref b74), (.ref b74)]))
  refine own_go (fun _ ww => XT.lload X74.here hx rfl (hb hby at_122) rfl  ww) ?_
  show own_Goes _ _ _ _ _ _ _ (T74.setTop (mkF m 124 #[.val (.long x1), .second, .val (.long x2), .second, .val (.long x3), .second, .val (.long x4), .second, .val (.ref b42), .val (.long ((x2 + x3) + x4)), .second, .val (.int (1 : Int32)), .val (.int (1 : Int32)), .val (.int (1 : Int32)), .unset] [(.long x3), (.long x2), (.long x4), (.long x1), (.ref b74), (.ref b74)]))
  obtain ⟨_, _, ⟨T89, L89, k89, n89⟩, -, X89, ⟨Lc89, hQ89, l89, y89, z89⟩, st89⟩ := X74.specialBack hx (y := (⟨"org/graticule/result/Tally", "<init>", "(JJJJ)V"⟩ : MethodName)) rfl hown (mvT hZ (hw _ (List.mem_of_getElem? (i := 3) rfl))) (mvT hZ (hw _ (List.mem_of_getElem? (i := 4) rfl))) (mvT hZ (hw _ (List.mem_of_getElem? (i := 5) rfl))) (by decide) (backOf (W := 1) (rm_init l Z a0 hw [] b74 x1 x4 x2 x3 h74 n0 O74 f85 f86 f87 f88 A74 g_b74) hZ (hw _ (List.mem_of_getElem? (i := 5) rfl)) (hw _ (List.mem_of_getElem? (i := 2) rfl)) (by decide) (by decide)) (g := (mkF m 124 #[.val (.long x1), .second, .val (.long x2), .second, .val (.long x3), .second, .val (.long x4), .second, .val (.ref b42), .val (.long ((x2 + x3) + x4)), .second, .val (.int (1 : Int32)), .val (.int (1 : Int32)), .val (.int (1 : Int32)), .unset] [(.long x3), (.long x2), (.long x4), (.long x1), (.ref b74), (.ref b74)])) rfl (by rw [hml]; rfl) (Steps.refl _) (a := b74) (argsL := [(.long x1), (.long x4), (.long x2), (.long x3)]) (rest := [(.ref b74)]) (lenOf pd_2 rfl) rfl (by show 2 * 0 + _ ≤ _; exact Nat.le_of_eq rfl) (hb hby at_124) (fun _ _ => ⟨rfl, e74, (by decide : 3 + 0 ≤ _), (by decide : 12 + 0 ≤ _)⟩)
  dsimp only [Pt.U, Pt.locs, Pt.cells, Pt.slots] at X89 l89 y89 z89 st89 hQ89
  subst l89 y89 z89
  obtain ⟨rfl, N89q, K89q, P89, Q89, R89, U89⟩ := hQ89
  have N89 := Fr.app N73 N89q
  have f90 : Exa Z T89.heap b42 "org/graticule/result/Tally" := (f75.keep K89q)
  have f91 : Fld Z T89.heap b42 "org/graticule/result/Tally" "records" "J" (.long x1) := (f76.keep K89q (ninS ne_b42_b74 nin0))
  have f92 : Fld Z T89.heap b42 "org/graticule/result/Tally" "converted" "J" (.long x2) := (f77.keep K89q (ninS ne_b42_b74 nin0))
  have f93 : Fld Z T89.heap b42 "org/graticule/result/Tally" "repaired" "J" (.long x3) := (f78.keep K89q (ninS ne_b42_b74 nin0))
  have f94 : Fld Z T89.heap b42 "org/graticule/result/Tally" "rejected" "J" (.long x4) := (f79.keep K89q (ninS ne_b42_b74 nin0))
  have f95 : Exa Z T89.heap b56 "org/graticule/result/Tally" := (f80.keep K89q)
  have f96 : Fld Z T89.heap b56 "org/graticule/result/Tally" "records" "J" (.long (x1 ^^^ (-1 : Int64))) := (f81.keep K89q (ninS ne_b56_b74 nin0))
  have f97 : Fld Z T89.heap b56 "org/graticule/result/Tally" "converted" "J" (.long x2) := (f82.keep K89q (ninS ne_b56_b74 nin0))
  have f98 : Fld Z T89.heap b56 "org/graticule/result/Tally" "repaired" "J" (.long x3) := (f83.keep K89q (ninS ne_b56_b74 nin0))
  have f99 : Fld Z T89.heap b56 "org/graticule/result/Tally" "rejected" "J" (.long x4) := (f84.keep K89q (ninS ne_b56_b74 nin0))
  have f100 : Exa Z T89.heap b74 "org/graticule/result/Tally" := (A74.keep K89q)
  have O89 := O74.keep K89q (allS g_b74 all0)
  refine own_go (fun _ ww => Steps.trans st89 ww) ?_
  show own_Goes _ _ _ _ _ _ _ (T89.setTop (mkF m 127 #[.val (.long x1), .second, .val (.long x2), .second, .val (.long x3), .second, .val (.long x4), .second, .val (.ref b42), .val (.long ((x2 + x3) + x4)), .second, .val (.int (1 : Int32)), .val (.int (1 : Int32)), .val (.int (1 : Int32)), .unset] [(.ref b74)]))
  obtain ⟨cq101, kq101, q101a, q101b, q101c⟩ := isOf hZ rfl f100
  obtain ⟨_, _, ⟨T101, L101, k101, n101⟩, -, X101, ⟨Lc101, hQ101, l101, y101, z101⟩, st101⟩ := X89.virtualBack hx (y := (⟨"org/graticule/result/Tally", "fields", "()J"⟩ : MethodName)) (z := (⟨"org/graticule/result/Tally", "fields", "()J"⟩ : MethodName)) hown (mvT hZ (hw _ (List.mem_of_getElem? (i := 22) rfl))) (mvT hZ (hw _ (List.mem_of_getElem? (i := 23) rfl))) (notFace_of_selects (args := #[]) (mvT hZ (hw _ (List.mem_of_getElem? (i := 25) rfl)))) (mvT hZ (hw _ (List.mem_of_getElem? (i := 25) rfl))) (mvT hZ (hw _ (List.mem_of_getElem? (i := 24) rfl))) (by decide) (backOf (W := 0) (rm_fields l Z a0 hw [] b74 x4 x2 x3 T89.heap n0 O89 Q89 R89 U89) hZ (hw _ (List.mem_of_getElem? (i := 26) rfl)) (hw _ (List.mem_of_getElem? (i := 2) rfl)) (by decide) (by decide)) q101a q101c (g := (mkF m 127 #[.val (.long x1), .second, .val (.long x2), .second, .val (.long x3), .second, .val (.long x4), .second, .val (.ref b42), .val (.long ((x2 + x3) + x4)), .second, .val (.int (1 : Int32)), .val (.int (1 : Int32)), .val (.int (1 : Int32)), .unset] [(.ref b74)])) rfl (by rw [hml]; rfl) (Steps.refl _) (argsL := []) (rest := []) (lenOf pd_3 rfl) rfl (by show 2 * 0 + _ ≤ _; exact Nat.le_of_eq rfl) (hb hby at_127) (fun _ _ => ⟨rfl, rfl, (by decide : 3 + 0 ≤ _), (by decide : 12 + 0 ≤ _)⟩)
  dsimp only [Pt.U, Pt.locs, Pt.cells, Pt.slots] at X101 l101 y101 z101 st101 hQ101
  subst l101 y101 z101
  obtain ⟨rfl, N101q, e101⟩ := hQ101
  have N101 := Fr.app N89 N101q
  refine own_go (fun _ ww => Steps.trans st101 ww) ?_
  show own_Goes _ _ _ _ _ _ _ (T101.setTop (mkF m 130 #[.val (.long x1), .second, .val (.long x2), .second, .val (.long x3), .second, .val (.long x4), .second, .val (.ref b42), .val (.long ((x2 + x3) + x4)), .second, .val (.int (1 : Int32)), .val (.int (1 : Int32)), .val (.int (1 : Int32)), .unset] [(.long ((x4 + x2) + x3))]))
  refine own_go (fun _ ww => XT.lload X101.here hx rfl (hb hby at_130) rfl  ww) ?_
  show own_Goes _ _ _ _ _ _ _ (T101.setTop (mkF m 132 #[.val (.long x1), .second, .val (.long x2), .second, .val (.long x3), .second, .val (.long x4), .second, .val (.ref b42), .val (.long ((x2 + x3) + x4)), .second, .val (.int (1 : Int32)), .val (.int (1 : Int32)), .val (.int (1 : Int32)), .unset] [(.long ((x2 + x3) + x4)), (.long ((x4 + x2) + x3))]))
  refine own_go (fun _ ww => XT.lcmp X101.here hx rfl (hb hby at_132) rfl ww) ?_
  show own_Goes _ _ _ _ _ _ _ (T101.setTop (mkF m 133 #[.val (.long x1), .second, .val (.long x2), .second, .val (.long x3), .second, .val (.long x4), .second, .val (.ref b42), .val (.long ((x2 + x3) + x4)), .second, .val (.int (1 : Int32)), .val (.int (1 : Int32)), .val (.int (1 : Int32)), .unset] [(.int (XT.cmpL ((x4 + x2) + x3) ((x2 + x3) + x4)))]))
  refine own_go (fun _ ww => XS.ifNo X101.here hx rfl (hb hby at_133) rfl (own_if .ne (teq (own_cmpE (own_perm _ _ _))).2) ww) ?_
  show own_Goes _ _ _ _ _ _ _ (T101.setTop (mkF m 136 #[.val (.long x1), .second, .val (.long x2), .second, .val (.long x3), .second, .val (.long x4), .second, .val (.ref b42), .val (.long ((x2 + x3) + x4)), .second, .val (.int (1 : Int32)), .val (.int (1 : Int32)), .val (.int (1 : Int32)), .unset] []))
  refine own_go (fun _ ww => XS.iconst X101.here hx rfl (hb hby at_136) ww) ?_
  show own_Goes _ _ _ _ _ _ _ (T101.setTop (mkF m 137 #[.val (.long x1), .second, .val (.long x2), .second, .val (.long x3), .second, .val (.long x4), .second, .val (.ref b42), .val (.long ((x2 + x3) + x4)), .second, .val (.int (1 : Int32)), .val (.int (1 : Int32)), .val (.int (1 : Int32)), .unset] [(.int (1 : Int32))]))
  refine own_go (fun _ ww => XS.goto X101.here hx rfl (pc0 := 137) (pc' := 141) rfl (hb hby at_137) (by decide) (by decide) ww) ?_
  show own_Goes _ _ _ _ _ _ _ (T101.setTop (mkF m 141 #[.val (.long x1), .second, .val (.long x2), .second, .val (.long x3), .second, .val (.long x4), .second, .val (.ref b42), .val (.long ((x2 + x3) + x4)), .second, .val (.int (1 : Int32)), .val (.int (1 : Int32)), .val (.int (1 : Int32)), .unset] [(.int (1 : Int32))]))
  refine own_go (fun _ ww => XS.istore X101.here hx rfl (hb hby at_141) rfl (l' := #[.val (.long x1), .second, .val (.long x2), .second, .val (.long x3), .second, .val (.long x4), .second, .val (.ref b42), .val (.long ((x2 + x3) + x4)), .second, .val (.int (1 : Int32)), .val (.int (1 : Int32)), .val (.int (1 : Int32)), .val (.int (1 : Int32))]) rfl ww) ?_
  show own_Goes _ _ _ _ _ _ _ (T101.setTop (mkF m 143 #[.val (.long x1), .second, .val (.long x2), .second, .val (.long x3), .second, .val (.long x4), .second, .val (.ref b42), .val (.long ((x2 + x3) + x4)), .second, .val (.int (1 : Int32)), .val (.int (1 : Int32)), .val (.int (1 : Int32)), .val (.int (1 : Int32))] []))
  refine own_go (fun _ ww => XS.iload X101.here hx rfl (hb hby at_143) rfl  ww) ?_
  show own_Goes _ _ _ _ _ _ _ (T101.setTop (mkF m 145 #[.val (.long x1), .second, .val (.long x2), .second, .val (.long x3), .second, .val (.long x4), .second, .val (.ref b42), .val (.long ((x2 + x3) + x4)), .second, .val (.int (1 : Int32)), .val (.int (1 : Int32)), .val (.int (1 : Int32)), .val (.int (1 : Int32))] [(.int (1 : Int32))]))
  refine own_go (fun _ ww => XS.ifNo X101.here hx rfl (hb hby at_145) rfl (own_if .eq (feq (by decide : ¬ ((1 : Int32) = (0 : Int32)))).1) ww) ?_
  show own_Goes _ _ _ _ _ _ _ (T101.setTop (mkF m 148 #[.val (.long x1), .second, .val (.long x2), .second, .val (.long x3), .second, .val (.long x4), .second, .val (.ref b42), .val (.long ((x2 + x3) + x4)), .second, .val (.int (1 : Int32)), .val (.int (1 : Int32)), .val (.int (1 : Int32)), .val (.int (1 : Int32))] []))
  refine own_go (fun _ ww => XS.iload X101.here hx rfl (hb hby at_148) rfl  ww) ?_
  show own_Goes _ _ _ _ _ _ _ (T101.setTop (mkF m 150 #[.val (.long x1), .second, .val (.long x2), .second, .val (.long x3), .second, .val (.long x4), .second, .val (.ref b42), .val (.long ((x2 + x3) + x4)), .second, .val (.int (1 : Int32)), .val (.int (1 : Int32)), .val (.int (1 : Int32)), .val (.int (1 : Int32))] [(.int (1 : Int32))]))
  refine own_go (fun _ ww => XS.ifNo X101.here hx rfl (hb hby at_150) rfl (own_if .eq (feq (by decide : ¬ ((1 : Int32) = (0 : Int32)))).1) ww) ?_
  show own_Goes _ _ _ _ _ _ _ (T101.setTop (mkF m 153 #[.val (.long x1), .second, .val (.long x2), .second, .val (.long x3), .second, .val (.long x4), .second, .val (.ref b42), .val (.long ((x2 + x3) + x4)), .second, .val (.int (1 : Int32)), .val (.int (1 : Int32)), .val (.int (1 : Int32)), .val (.int (1 : Int32))] []))
  refine own_go (fun _ ww => XS.iload X101.here hx rfl (hb hby at_153) rfl  ww) ?_
  show own_Goes _ _ _ _ _ _ _ (T101.setTop (mkF m 155 #[.val (.long x1), .second, .val (.long x2), .second, .val (.long x3), .second, .val (.long x4), .second, .val (.ref b42), .val (.long ((x2 + x3) + x4)), .second, .val (.int (1 : Int32)), .val (.int (1 : Int32)), .val (.int (1 : Int32)), .val (.int (1 : Int32))] [(.int (1 : Int32))]))
  refine own_go (fun _ ww => XS.ifNo X101.here hx rfl (hb hby at_155) rfl (own_if .eq (feq (by decide : ¬ ((1 : Int32) = (0 : Int32)))).1) ww) ?_
  show own_Goes _ _ _ _ _ _ _ (T101.setTop (mkF m 158 #[.val (.long x1), .second, .val (.long x2), .second, .val (.long x3), .second, .val (.long x4), .second, .val (.ref b42), .val (.long ((x2 + x3) + x4)), .second, .val (.int (1 : Int32)), .val (.int (1 : Int32)), .val (.int (1 : Int32)), .val (.int (1 : Int32))] []))
  refine own_go (fun _ ww => XS.iload X101.here hx rfl (hb hby at_158) rfl  ww) ?_
  show own_Goes _ _ _ _ _ _ _ (T101.setTop (mkF m 160 #[.val (.long x1), .second, .val (.long x2), .second, .val (.long x3), .second, .val (.long x4), .second, .val (.ref b42), .val (.long ((x2 + x3) + x4)), .second, .val (.int (1 : Int32)), .val (.int (1 : Int32)), .val (.int (1 : Int32)), .val (.int (1 : Int32))] [(.int (1 : Int32))]))
  refine own_go (fun _ ww => XS.ifNo X101.here hx rfl (hb hby at_160) rfl (own_if .eq (feq (by decide : ¬ ((1 : Int32) = (0 : Int32)))).1) ww) ?_
  show own_Goes _ _ _ _ _ _ _ (T101.setTop (mkF m 163 #[.val (.long x1), .second, .val (.long x2), .second, .val (.long x3), .second, .val (.long x4), .second, .val (.ref b42), .val (.long ((x2 + x3) + x4)), .second, .val (.int (1 : Int32)), .val (.int (1 : Int32)), .val (.int (1 : Int32)), .val (.int (1 : Int32))] []))
  refine own_go (fun _ ww => XS.iconst X101.here hx rfl (hb hby at_163) ww) ?_
  show own_Goes _ _ _ _ _ _ _ (T101.setTop (mkF m 164 #[.val (.long x1), .second, .val (.long x2), .second, .val (.long x3), .second, .val (.long x4), .second, .val (.ref b42), .val (.long ((x2 + x3) + x4)), .second, .val (.int (1 : Int32)), .val (.int (1 : Int32)), .val (.int (1 : Int32)), .val (.int (1 : Int32))] [(.int (1 : Int32))]))
  refine own_go (fun _ ww => XS.goto X101.here hx rfl (pc0 := 164) (pc' := 168) rfl (hb hby at_164) (by decide) (by decide) ww) ?_
  show own_Goes _ _ _ _ _ _ _ (T101.setTop (mkF m 168 #[.val (.long x1), .second, .val (.long x2), .second, .val (.long x3), .second, .val (.long x4), .second, .val (.ref b42), .val (.long ((x2 + x3) + x4)), .second, .val (.int (1 : Int32)), .val (.int (1 : Int32)), .val (.int (1 : Int32)), .val (.int (1 : Int32))] [(.int (1 : Int32))]))
  exact own_out X101 hlk (v := some (.int (1 : Int32))) (fun h => by rw [hret] at h; cases h) (fun fs hr => retOut X101 hx (t := .boolean) hret (by decide) (Or.inl ⟨rfl, by simp, _, rfl⟩) (hb hby at_168) hr) e101 ⟨rfl, N101⟩ (by decide) (by decide)
set_option maxRecDepth 65536 in
set_option maxHeartbeats 40000000 in
theorem comes_1 {Post : Tables → Env → Array Value → State → Outcome → State → Prop} (hpost : ∀ tb e args s v u, (limb_1_1.after args s (.returned v) u = true ∧ limb_1_2.after args s (.returned v) u = true ∧ True) → FrameEnd s (.returned v) u (Jvm.fieldLocs frame_1_writes args s ++ Jvm.arrayLocs frame_1_arrays args s ++ Jvm.staticLocs frame_1_statics s) 16 128 → Post tb e args s (.returned v) u) :
    ArmFor flags0 classFile x code maxLocals ret World_1 tables_1 room_1 Calls_1 rest_1 Pre_1 Post := by
  intro l hfl _ _ p e ha hc hk s m args below hf hA hF happ hP
  obtain ⟨hcalls, hrest, hpre⟩ := hP
  obtain ⟨-, -, -, hnamed, -, -, -, hat⟩ := (Spec.applies_iff hf).mp happ
  obtain ⟨hg, hn⟩ := and_e (Cond.before_iff.mp (show (Jvm.Cond.and given_1 narrow_1).before args s = true from hpre))
  obtain ⟨q1, q2⟩ := and_e hg
  obtain ⟨q3, q4⟩ := and_e q2
  obtain ⟨q5, q6⟩ := and_e q4
  obtain ⟨q7, q8⟩ := and_e q6
  obtain ⟨q9, q10⟩ := and_e hn
  obtain ⟨q11, q12⟩ := and_e q10
  obtain ⟨q13, q14⟩ := and_e q12
  obtain ⟨q15, q16⟩ := and_e q14
  obtain ⟨q17, q18⟩ := and_e q16
  obtain ⟨q19, q20⟩ := and_e q18
  obtain ⟨q21, q22⟩ := and_e q20
  obtain ⟨q23, q24⟩ := and_e q22
  obtain ⟨q25, q26⟩ := and_e q24
  obtain ⟨q27, q28⟩ := and_e q26
  obtain ⟨w0, w1, w2, w3, rfl⟩ : ∃ w0 w1 w2 w3 : Value, args = #[w0, w1, w2, w3] := by
    have hs : args.size = 4 := by simpa [Cond.value, given_1] using q1
    obtain ⟨L⟩ := args
    match L, hs with
    | [w0, w1, w2, w3], _ => exact ⟨w0, w1, w2, w3, rfl⟩
  have hw := fun d (hd : d ∈ tables_1) => atoms_spec (ws := Jvm.Cond.code x code maxLocals ret :: tables_1) hat d (List.mem_cons_of_mem _ hd)
  have hfit : Fit s := fun {y c} hc i hi => by
    obtain ⟨ha, rfl⟩ := Array.getElem?_eq_some_iff.mp hc
    have q := List.all_eq_true.mp ((Array.all_eq_true_iff_forall_mem.mp hF) _ (Array.getElem_mem ha)) i (List.mem_range.mpr hi)
    simpa [Array.getElem?_eq_getElem hi] using q
  obtain ⟨i0, ei0⟩ := isL_v q3
  obtain rfl : w0 = (.long i0) := Option.some.inj ei0
  obtain ⟨i1, ei1⟩ := isL_v q5
  obtain rfl : w1 = (.long i1) := Option.some.inj ei1
  obtain ⟨i2, ei2⟩ := isL_v q7
  obtain rfl : w2 = (.long i2) := Option.some.inj ei2
  obtain ⟨i3, ei3⟩ := isL_v q8
  obtain rfl : w3 = (.long i3) := Option.some.inj ei3
  obtain ⟨a_Conversion_Status_CONVERTED, ev_Conversion_Status_CONVERTED⟩ := exa_v q9
  have E_Conversion_Status_CONVERTED : Exa s s.heap a_Conversion_Status_CONVERTED "org/graticule/core/Conversion$Status" := Exa.start ev_Conversion_Status_CONVERTED q9
  have S_Conversion_Status_CONVERTED : Sta s s.heap "org/graticule/core/Conversion$Status" "CONVERTED" "Lorg/graticule/core/Conversion$Status;" (.ref a_Conversion_Status_CONVERTED) := Sta.start ev_Conversion_Status_CONVERTED (Or.inr ⟨(hw _ (List.mem_of_getElem? (i := 28) rfl)), (hw _ (List.mem_of_getElem? (i := 29) rfl))⟩)
  obtain ⟨a_Conversion_Status_REPAIRED, ev_Conversion_Status_REPAIRED⟩ := exa_v q19
  have E_Conversion_Status_REPAIRED : Exa s s.heap a_Conversion_Status_REPAIRED "org/graticule/core/Conversion$Status" := Exa.start ev_Conversion_Status_REPAIRED q19
  have S_Conversion_Status_REPAIRED : Sta s s.heap "org/graticule/core/Conversion$Status" "REPAIRED" "Lorg/graticule/core/Conversion$Status;" (.ref a_Conversion_Status_REPAIRED) := Sta.start ev_Conversion_Status_REPAIRED (Or.inr ⟨(hw _ (List.mem_of_getElem? (i := 28) rfl)), (hw _ (List.mem_of_getElem? (i := 48) rfl))⟩)
  obtain ⟨a_Conversion_Status_REJECTED, ev_Conversion_Status_REJECTED⟩ := exa_v q25
  have E_Conversion_Status_REJECTED : Exa s s.heap a_Conversion_Status_REJECTED "org/graticule/core/Conversion$Status" := Exa.start ev_Conversion_Status_REJECTED q25
  have S_Conversion_Status_REJECTED : Sta s s.heap "org/graticule/core/Conversion$Status" "REJECTED" "Lorg/graticule/core/Conversion$Status;" (.ref a_Conversion_Status_REJECTED) := Sta.start ev_Conversion_Status_REJECTED (Or.inr ⟨(hw _ (List.mem_of_getElem? (i := 28) rfl)), (hw _ (List.mem_of_getElem? (i := 50) rfl))⟩)
  have F_Conversion_Status_CONVERTED_ordinal := own_fI ev_Conversion_Status_CONVERTED q15
  have F_Conversion_Status_REPAIRED_ordinal := own_fI ev_Conversion_Status_REPAIRED q21
  have F_Conversion_Status_REJECTED_ordinal := own_fI ev_Conversion_Status_REJECTED q27
  obtain ⟨sm, evm⟩ := arr_v q11
  obtain ⟨cl, Ar⟩ := Arr.start evm q11
  have Sm : Sta s s.heap "org/graticule/result/Tally$1" "$SwitchMap$org$graticule$core$Conversion$Status" "[I" (.ref sm) := Sta.start evm (Or.inr ⟨(hw _ (List.mem_of_getElem? (i := 36) rfl)), (hw _ (List.mem_of_getElem? (i := 37) rfl))⟩)
  have ha0 := elem_in (own_eqI q17) evm (Term.int_eval (0)) Ar.1
  have ha1 := elem_in (own_eqI q23) evm (Term.int_eval (1)) Ar.1
  have ha2 := elem_in (own_eqI q28) evm (Term.int_eval (2)) Ar.1
  obtain ⟨n, o, h1, h2, h3, _, L, rfl, ⟨rfl, N⟩, hq⟩ := rm_law l s _ hw tables_1 i0 i1 i2 i3 sm cl a_Conversion_Status_CONVERTED a_Conversion_Status_REPAIRED a_Conversion_Status_REJECTED s.heap s.heap.size (Old.start s) Sm Ar S_Conversion_Status_CONVERTED E_Conversion_Status_CONVERTED F_Conversion_Status_CONVERTED_ordinal ha0 S_Conversion_Status_REPAIRED E_Conversion_Status_REPAIRED F_Conversion_Status_REPAIRED_ordinal ha1 S_Conversion_Status_REJECTED E_Conversion_Status_REJECTED F_Conversion_Status_REJECTED_ordinal ha2 p e ha hc hk s m _ below hf ((Spec.applies_iff_loose hf).mp happ).1 ⟨rfl, State.Warmed39.refl s, rfl⟩ trivial
  refine ⟨n, _, h1, h2, h3, hpost _ _ _ _ _ _ ⟨Cond.after_iff.mpr rfl, Cond.after_iff.mpr (eq_i res_at (Term.int_eval (1)) rfl), trivial⟩ ⟨hq.1, hq.2.1, (hq.2.2.sift fun y hy => Or.inr (N y hy)).mono (by decide) (by decide)⟩⟩
theorem main_1_1 : Claimed_1_1 := comes_1 fun _ _ _ _ _ _ h hF => ⟨h.1, hF⟩
theorem main_1_2 : Claimed_1_2 := comes_1 fun _ _ _ _ _ _ h hF => ⟨h.2.1, hF⟩
end Jvm.Pilot.@@N@@
namespace Jvm.Pilot.@@N@@
open Jvm Jvm.ClassFile Sem Op Lib Jvm.Free Jvm.Stand Jvm.Pilot.@@N@@.Jvm.D
/-! MADE BY PROGRAM (witnessworld.py) out of the Statement's table words and the real class files: 15 classes; the members and pool entries that the words name. The judged class is class 1, her method 1. -/
namespace start1
open Jvm.ClassFile
def u (s : String) : CpInfo := .utf8 (stringToUtf16 s)
/-- a pool by its gaps: so many unusable entries, then the entry; so many at the end -/
def gap : Nat → List CpInfo → List CpInfo
  | 0, r => r
  | n + 1, r => .unusable :: gap n r
def poolList (es : List (Nat × CpInfo)) (last : Nat) : List CpInfo := es.foldr (fun e r => gap e.1 (e.2 :: r)) (gap last [])
def pool (es : List (Nat × CpInfo)) (last : Nat) : Array CpInfo := ⟨poolList es last⟩
def fileOf (pool : Array CpInfo) (this : Nat) (attrs : Array Attribute := #[]) (ms : Array MethodInfo := #[]) (fl : Nat := 33) (sup : Nat := 0) (ifs : Array Nat := #[]) (fds : Array FieldInfo := #[]) : ClassFile where
  minorVersion := 0
  majorVersion := 65
  constantPool := pool
  accessFlags := fl
  thisClass := this
  superClass := sup
  interfaces := ifs
  fields := fds
  methods := ms
  attributes := attrs
def plain (name : String) (sup : Option ClassId) : Class where
  name := name
  kind := .ordinary
  loader := none
  accessFlags := 33
  super := sup
  interfaces := #[]
  cf := none
  fields := #[]
  methods := #[]
  instanceTypes := #[]
  staticTypes := #[]
  resolved := #[]
  callSites := []
  init := .initialized
  statics := none
  mirror := none

def pool0 : Array CpInfo := pool [(5, u "<init>"), (0, u "()V"), (1, .class_ 10), (1, u "java/lang/Object")] 113

def k0c0 : Code := { maxStack := 0, maxLocals := 1, code := object_method_1_code, exceptionTable := #[], attributes := #[] }
def k0m0 : Method := { name := "<init>", desc := "()V", sig := { parameters := [], returnType := none }, accessFlags := 1, code := some k0c0 }
/-- java/lang/Object -/
def k0 : Class := { plain "java/lang/Object" none with
  accessFlags := 33
  interfaces := #[]
  cf := some (fileOf pool0 8 #[] #[{ accessFlags := 1, nameIndex := 5, descriptorIndex := 6, attributes := #[] }] 33 0 #[] #[])
  fields := #[]
  methods := #[k0m0]
  instanceTypes := #[]
  staticTypes := #[]
  resolved := Array.replicate 124 none
  statics := none }

def pool1 : Array CpInfo := pool [(2, .class_ 4), (1, u "java/lang/Object"), (0, u "<init>"), (0, u "()V"), (0, .class_ 8), (0, u "org/graticule/result/Tally"), (0, .methodref 7 10), (0, .nameAndType 5 11), (0, u "(JJJJ)V"), (0, .methodref 7 13), (0, .nameAndType 14 15), (0, u "fields"), (0, u "()J"), (0, .fieldref 17 18), (0, .class_ 19), (0, .nameAndType 20 21), (0, u "org/graticule/core/Conversion$Status"), (0, u "CONVERTED"), (0, u "Lorg/graticule/core/Conversion$Status;"), (0, .methodref 7 23), (0, .nameAndType 24 25), (0, u "count"), (0, u "(Lorg/graticule/core/Conversion$Status;)J"), (0, .fieldref 17 27), (0, .nameAndType 28 21), (0, u "REPAIRED"), (0, .fieldref 17 30), (0, .nameAndType 31 21), (0, u "REJECTED"), (0, .long 18446744073709551615), (1, .class_ 35), (0, u "org/graticule/result/TallyFieldsPinLaw"), (2, u "law"), (0, u "(JJJJ)Z")] 7

def k1m0 : Method := { name := "<init>", desc := "()V", sig := { parameters := [], returnType := none }, accessFlags := 1, code := none }
def k1c1 : Code := { maxStack := 10, maxLocals := 15, code := code, exceptionTable := #[], attributes := #[] }
def k1m1 : Method := { name := "law", desc := "(JJJJ)Z", sig := { parameters := [.long, .long, .long, .long], returnType := some .boolean }, accessFlags := 9, code := some k1c1 }
/-- org/graticule/result/TallyFieldsPinLaw -/
def k1 : Class := { plain "org/graticule/result/TallyFieldsPinLaw" (some 0) with
  accessFlags := 49
  interfaces := #[]
  cf := some (fileOf pool1 34 #[] #[{ accessFlags := 1, nameIndex := 5, descriptorIndex := 6, attributes := #[] }, { accessFlags := 9, nameIndex := 38, descriptorIndex := 39, attributes := #[] }] 49 2 #[] #[])
  fields := #[]
  methods := #[k1m0, k1m1]
  instanceTypes := #[]
  staticTypes := #[]
  resolved := Array.replicate 47 none
  statics := none }

def pool2 : Array CpInfo := pool [(1, .methodref 2 3), (0, .class_ 4), (0, .nameAndType 5 6), (0, u "java/lang/Object"), (0, u "<init>"), (0, u "()V"), (0, .class_ 8), (0, u "java/lang/Record")] 13

def k2c0 : Code := { maxStack := 1, maxLocals := 1, code := jdk_30_method_1_code, exceptionTable := #[], attributes := #[] }
def k2m0 : Method := { name := "<init>", desc := "()V", sig := { parameters := [], returnType := none }, accessFlags := 4, code := some k2c0 }
/-- java/lang/Record -/
def k2 : Class := { plain "java/lang/Record" (some 0) with
  accessFlags := 1057
  interfaces := #[]
  cf := some (fileOf pool2 7 #[] #[{ accessFlags := 4, nameIndex := 5, descriptorIndex := 6, attributes := #[] }] 1057 2 #[] #[])
  fields := #[]
  methods := #[k2m0]
  instanceTypes := #[]
  staticTypes := #[]
  resolved := Array.replicate 22 none
  statics := none }

def pool3 : Array CpInfo := pool [(1, .methodref 2 3), (0, .class_ 4), (0, .nameAndType 5 6), (0, u "java/lang/Record"), (0, u "<init>"), (0, u "()V"), (0, .fieldref 8 9), (0, .class_ 10), (0, .nameAndType 11 12), (0, u "org/graticule/result/Tally"), (0, u "records"), (0, u "J"), (0, .fieldref 8 14), (0, .nameAndType 15 12), (0, u "converted"), (0, .fieldref 8 17), (0, .nameAndType 18 12), (0, u "repaired"), (0, .fieldref 8 20), (0, .nameAndType 21 12), (0, u "rejected"), (0, .fieldref 23 24), (0, .class_ 25), (0, .nameAndType 26 27), (0, u "org/graticule/result/Tally$1"), (0, u "$SwitchMap$org$graticule$core$Conversion$Status"), (0, u "[I"), (0, .methodref 29 30), (0, .class_ 31), (0, .nameAndType 32 33), (0, u "org/graticule/core/Conversion$Status"), (0, u "ordinal"), (0, u "()I"), (21, u "fields"), (0, u "()J"), (12, u "count"), (0, u "(Lorg/graticule/core/Conversion$Status;)J"), (12, u "(JJJJ)V")] 34

def k3c0 : Code := { maxStack := 3, maxLocals := 9, code := prog_21_method_1_code, exceptionTable := #[], attributes := #[] }
def k3m0 : Method := { name := "<init>", desc := "(JJJJ)V", sig := { parameters := [.long, .long, .long, .long], returnType := none }, accessFlags := 1, code := some k3c0 }
def k3c1 : Code := { maxStack := 4, maxLocals := 1, code := prog_21_method_2_code, exceptionTable := #[], attributes := #[] }
def k3m1 : Method := { name := "fields", desc := "()J", sig := { parameters := [], returnType := some .long }, accessFlags := 1, code := some k3c1 }
def k3c2 : Code := { maxStack := 4, maxLocals := 2, code := prog_21_method_3_code, exceptionTable := #[], attributes := #[] }
def k3m2 : Method := { name := "count", desc := "(Lorg/graticule/core/Conversion$Status;)J", sig := { parameters := [(.object "org/graticule/core/Conversion$Status")], returnType := some .long }, accessFlags := 1, code := some k3c2 }
/-- org/graticule/result/Tally -/
def k3 : Class := { plain "org/graticule/result/Tally" (some 2) with
  accessFlags := 49
  interfaces := #[]
  cf := some (fileOf pool3 8 #[.nestMembers #[23]] #[{ accessFlags := 1, nameIndex := 5, descriptorIndex := 83, attributes := #[] }, { accessFlags := 1, nameIndex := 55, descriptorIndex := 56, attributes := #[] }, { accessFlags := 1, nameIndex := 69, descriptorIndex := 70, attributes := #[] }] 49 2 #[] #[{ accessFlags := 18, nameIndex := 11, descriptorIndex := 12, attributes := #[] }, { accessFlags := 18, nameIndex := 15, descriptorIndex := 12, attributes := #[] }, { accessFlags := 18, nameIndex := 18, descriptorIndex := 12, attributes := #[] }, { accessFlags := 18, nameIndex := 21, descriptorIndex := 12, attributes := #[] }])
  fields := #[{ name := "records", type := .long, accessFlags := 18, slot := 0, constantValue := 0 }, { name := "converted", type := .long, accessFlags := 18, slot := 1, constantValue := 0 }, { name := "repaired", type := .long, accessFlags := 18, slot := 2, constantValue := 0 }, { name := "rejected", type := .long, accessFlags := 18, slot := 3, constantValue := 0 }]
  methods := #[k3m0, k3m1, k3m2]
  instanceTypes := #[.long, .long, .long, .long]
  staticTypes := #[]
  resolved := Array.replicate 118 none
  statics := none }

def pool4 : Array CpInfo := pool [(1, .class_ 2), (0, u "java/lang/constant/Constable"), (0, .class_ 4), (0, u "java/lang/Object")] 6

/-- java/lang/constant/Constable -/
def k4 : Class := { plain "java/lang/constant/Constable" (some 0) with
  accessFlags := 1537
  interfaces := #[]
  cf := some (fileOf pool4 1 #[] #[] 1537 3 #[] #[])
  fields := #[]
  methods := #[]
  instanceTypes := #[]
  staticTypes := #[]
  resolved := Array.replicate 11 none
  statics := none }

def pool5 : Array CpInfo := pool [(1, .class_ 2), (0, u "java/lang/Comparable"), (0, .class_ 4), (0, u "java/lang/Object")] 7

/-- java/lang/Comparable -/
def k5 : Class := { plain "java/lang/Comparable" (some 0) with
  accessFlags := 1537
  interfaces := #[]
  cf := some (fileOf pool5 1 #[] #[] 1537 3 #[] #[])
  fields := #[]
  methods := #[]
  instanceTypes := #[]
  staticTypes := #[]
  resolved := Array.replicate 12 none
  statics := none }

def pool6 : Array CpInfo := pool [(1, .class_ 2), (0, u "java/io/Serializable"), (0, .class_ 4), (0, u "java/lang/Object")] 2

/-- java/io/Serializable -/
def k6 : Class := { plain "java/io/Serializable" (some 0) with
  accessFlags := 1537
  interfaces := #[]
  cf := some (fileOf pool6 1 #[] #[] 1537 3 #[] #[])
  fields := #[]
  methods := #[]
  instanceTypes := #[]
  staticTypes := #[]
  resolved := Array.replicate 7 none
  statics := none }

def pool7 : Array CpInfo := pool [(2, .class_ 4), (1, u "java/lang/Enum"), (0, u "name"), (0, u "Ljava/lang/String;"), (0, .fieldref 2 8), (0, .nameAndType 9 10), (0, u "ordinal"), (0, u "I"), (1, .class_ 14), (1, u "java/lang/Object"), (4, u "hash"), (86, .class_ 108), (1, u "java/lang/Enum$EnumDesc"), (2, .class_ 112), (0, u "java/lang/constant/Constable"), (0, .class_ 114), (0, u "java/lang/Comparable"), (0, .class_ 116), (0, u "java/io/Serializable"), (9, u "()I")] 77

def k7c0 : Code := { maxStack := 1, maxLocals := 1, code := jdk_37_method_2_code, exceptionTable := #[], attributes := #[] }
def k7m0 : Method := { name := "ordinal", desc := "()I", sig := { parameters := [], returnType := some .int }, accessFlags := 17, code := some k7c0 }
/-- java/lang/Enum -/
def k7 : Class := { plain "java/lang/Enum" (some 0) with
  accessFlags := 1057
  interfaces := #[4, 5, 6]
  cf := some (fileOf pool7 2 #[.nestMembers #[106]] #[{ accessFlags := 17, nameIndex := 9, descriptorIndex := 126, attributes := #[] }] 1057 12 #[111, 113, 115] #[{ accessFlags := 18, nameIndex := 5, descriptorIndex := 6, attributes := #[] }, { accessFlags := 18, nameIndex := 9, descriptorIndex := 10, attributes := #[] }, { accessFlags := 2, nameIndex := 19, descriptorIndex := 10, attributes := #[] }])
  fields := #[{ name := "name", type := (.object "java/lang/String"), accessFlags := 18, slot := 0, constantValue := 0 }, { name := "ordinal", type := .int, accessFlags := 18, slot := 1, constantValue := 0 }, { name := "hash", type := .int, accessFlags := 2, slot := 2, constantValue := 0 }]
  methods := #[k7m0]
  instanceTypes := #[(.object "java/lang/String"), .int, .int]
  staticTypes := #[]
  resolved := Array.replicate 204 none
  statics := none }

def pool8 : Array CpInfo := pool [(1, .class_ 2), (0, u "org/graticule/core/Conversion$Status"), (2, u "CONVERTED"), (0, u "Lorg/graticule/core/Conversion$Status;"), (2, u "REPAIRED"), (2, u "REJECTED"), (2, u "$VALUES"), (0, u "[Lorg/graticule/core/Conversion$Status;"), (6, .class_ 25), (1, u "java/lang/Enum"), (24, u "printed"), (0, u "Ljava/lang/String;"), (21, .class_ 74), (0, u "org/graticule/core/Conversion")] 2

/-- org/graticule/core/Conversion$Status -/
def k8 : Class := { plain "org/graticule/core/Conversion$Status" (some 7) with
  accessFlags := 16433
  interfaces := #[]
  cf := some (fileOf pool8 1 #[.nestHost 73] #[] 16433 23 #[] #[{ accessFlags := 16409, nameIndex := 5, descriptorIndex := 6, attributes := #[] }, { accessFlags := 16409, nameIndex := 9, descriptorIndex := 6, attributes := #[] }, { accessFlags := 16409, nameIndex := 12, descriptorIndex := 6, attributes := #[] }, { accessFlags := 18, nameIndex := 50, descriptorIndex := 51, attributes := #[] }, { accessFlags := 4122, nameIndex := 15, descriptorIndex := 16, attributes := #[] }])
  fields := #[{ name := "CONVERTED", type := (.object "org/graticule/core/Conversion$Status"), accessFlags := 16409, slot := 0, constantValue := 0 }, { name := "REPAIRED", type := (.object "org/graticule/core/Conversion$Status"), accessFlags := 16409, slot := 1, constantValue := 0 }, { name := "REJECTED", type := (.object "org/graticule/core/Conversion$Status"), accessFlags := 16409, slot := 2, constantValue := 0 }, { name := "printed", type := (.object "java/lang/String"), accessFlags := 18, slot := 3, constantValue := 0 }, { name := "$VALUES", type := (.array (.object "org/graticule/core/Conversion$Status")), accessFlags := 4122, slot := 3, constantValue := 0 }]
  methods := #[]
  instanceTypes := #[(.object "java/lang/String"), .int, .int, (.object "java/lang/String")]
  staticTypes := #[(.object "org/graticule/core/Conversion$Status"), (.object "org/graticule/core/Conversion$Status"), (.object "org/graticule/core/Conversion$Status"), (.array (.object "org/graticule/core/Conversion$Status"))]
  resolved := Array.replicate 77 none
  statics := some 0 }

def pool9 : Array CpInfo := pool [(8, .class_ 10), (1, u "org/graticule/result/Tally$1"), (0, u "$SwitchMap$org$graticule$core$Conversion$Status"), (0, u "[I"), (16, .class_ 30), (0, u "java/lang/Object"), (8, .class_ 40), (0, u "org/graticule/result/Tally")] 5

/-- org/graticule/result/Tally$1 -/
def k9 : Class := { plain "org/graticule/result/Tally$1" (some 0) with
  accessFlags := 4128
  interfaces := #[]
  cf := some (fileOf pool9 8 #[.nestHost 39] #[] 4128 29 #[] #[{ accessFlags := 4120, nameIndex := 11, descriptorIndex := 12, attributes := #[] }])
  fields := #[{ name := "$SwitchMap$org$graticule$core$Conversion$Status", type := (.array .int), accessFlags := 4120, slot := 0, constantValue := 0 }]
  methods := #[]
  instanceTypes := #[]
  staticTypes := #[(.array .int)]
  resolved := Array.replicate 46 none
  statics := some 1 }

def pool10 : Array CpInfo := pool [(1, u "java/lang/Cloneable"), (0, .class_ 1), (0, u "java/lang/Object"), (0, .class_ 3)] 3

/-- java/lang/Cloneable -/
def k10 : Class := { plain "java/lang/Cloneable" (some 0) with
  accessFlags := 1537
  interfaces := #[]
  cf := some (fileOf pool10 2 #[] #[] 1537 4 #[] #[])
  fields := #[]
  methods := #[]
  instanceTypes := #[]
  staticTypes := #[]
  resolved := Array.replicate 8 none
  statics := none }

/-- the primitive byte -/
def k11 : Class := { plain "byte" none with kind := .primitive 'B', accessFlags := 0x411 }
/-- [B -/
def k12 : Class := { plain "[B" (some 0) with kind := .array 11 .byte, interfaces := #[10, 6], accessFlags := 1041 }

/-- the primitive int -/
def k13 : Class := { plain "int" none with kind := .primitive 'I', accessFlags := 0x411 }
/-- [I -/
def k14 : Class := { plain "[I" (some 0) with kind := .array 13 .int, interfaces := #[10, 6], accessFlags := 1041 }

def heap : Heap := #[{ cls := 8, slots := #[.ref 2, .ref 3, .ref 4, .null], vm := .statics 8 },
  { cls := 9, slots := #[.ref 5], vm := .statics 9 },
  { cls := 8, slots := #[.null, .int 0, .int 0, .null], vm := .none },
  { cls := 8, slots := #[.null, .int 1, .int 0, .null], vm := .none },
  { cls := 8, slots := #[.null, .int 2, .int 0, .null], vm := .none },
  { cls := 14, slots := #[.int 1, .int 2, .int 3], vm := .none }]
def classes : Array Class := #[k0, k1, k2, k3, k4, k5, k6, k7, k8, k9, k10, k11, k12, k13, k14]
def interned : List (Array UInt16 × Addr) := []
def slotsUsed : Nat := 20
def theMethod : MethodId := ⟨1, 1⟩
def args0 : Array Value := #[.long 5, .long 7, .long 9, .long 11]
def aboutOver (below : List Frame) : State where
  vm := { classes := classes, interned := interned.toArray }
  heap := heap
  slotsUsed := slotsUsed
  threads := #[{ frames := .invoking theMethod args0 :: below }]
def below0 : List Frame := [.native { method := ⟨0, 0⟩, args := #[] }]
def about1 : State := aboutOver below0
def p0 : Program := .bare "" "" ""
def e0 : Env := launch0.env 0 0 0
theorem w_frames : about1.frames = Frame.invoking theMethod args0 :: below0 := rfl
set_option maxRecDepth 65536 in
theorem w_args : argsFit about1.vm theMethod args0 = true := by decide +kernel
set_option maxRecDepth 65536 in
theorem w_heap : heapFits about1 = true := by decide +kernel
set_option maxRecDepth 65536 in
theorem w_runnable : about1.curStatus? = some .runnable := by decide +kernel
set_option maxRecDepth 65536 in
theorem w_alone : about1.alone = true := by decide +kernel
set_option maxRecDepth 65536 in
theorem w_named : about1.methodNamed? x = some theMethod := by decide +kernel
set_option maxRecDepth 65536 in
theorem w_hears : about1.hears theMethod below0 = true := by decide +kernel
set_option maxRecDepth 65536 in
theorem w_ripe : about1.ripe theMethod args0 below0 = true := by decide +kernel
theorem w_running : about1.status = .running := rfl
set_option maxRecDepth 65536 in
theorem w_room : about1.hasRoom e0.platform room_1 = true :=
  launch0.hasRoom_least _ room_1 (by decide +kernel) (by decide +kernel) (by decide +kernel) (by decide +kernel) (by decide +kernel) (by decide +kernel)
theorem allAtoms_all (ts : List Jvm.Cond) (a : Array Jvm.Value) (st : Jvm.State) : (allAtoms ts).before a st = ts.all (fun c => c.before a st) := by
  induction ts with
  | nil => rfl
  | cons c t ih =>
    show (Jvm.Cond.and c (allAtoms t)).before a st = _
    rw [Jvm.Cond.before_and, ih, List.all_cons]
def words1 : List Jvm.Cond := Jvm.Cond.code x code maxLocals ret :: tables_1
/-- a 'code' word, met by the world's own term for the bytes: nothing is compared byte by byte -/
theorem code_word {y : MethodName} {bytes : ByteArray} {mx : Nat} {rt : Option FieldType} {a : Array Value} {s : State} {m : MethodId} {meth : Method} {c : Code} (h1 : s.methodNamed? y = some m) (h2 : s.vm.method? m = some meth) (h3 : meth.code = some c) (h4 : c.code = bytes)
    (h5 : (c.maxLocals == mx && c.exceptionTable.isEmpty && decide (c.maxStack ≤ mostOperands) && decide (meth.sig.returnType = rt) && !meth.locks && decide (parseMethodDescriptor y.desc = some meth.sig)) = true) : (Jvm.Cond.code y bytes mx rt).before a s = true := by
  simp only [Bool.and_eq_true, beq_iff_eq, Bool.not_eq_true', decide_eq_true_eq] at h5
  obtain ⟨⟨⟨⟨⟨g1, g2⟩, g3⟩, g4⟩, g5⟩, g6⟩ := h5
  simp [Cond.before, Cond.holds, Cond.value, h1, h2, h3, h4, g1, g2, g3, g4, g5, g6]
def isCode : Jvm.Cond → Bool
  | .code _ _ _ _ => true
  | _ => false
theorem all_split {L : List Jvm.Cond} {P : Jvm.Cond → Bool} (h1 : L.all (fun c => isCode c || P c) = true) (h2 : ∀ c ∈ L.filter isCode, P c = true) : L.all P = true := by
  refine List.all_eq_true.mpr fun c hc => ?_
  have h := List.all_eq_true.mp h1 c hc
  rcases Bool.eq_false_or_eq_true (isCode c) with hi | hi
  · exact h2 c (List.mem_filter.mpr ⟨hc, hi⟩)
  · simpa [hi] using h
set_option maxRecDepth 65536 in
theorem w_c0 : (Jvm.Cond.code x code maxLocals ret).before args0 about1 = true := code_word (m := ⟨1, 1⟩) (meth := k1m1) (c := k1c1) (by decide +kernel) rfl rfl rfl (by decide +kernel)
set_option maxRecDepth 65536 in
theorem w_c1 : (Jvm.Cond.code ({ cls := "org/graticule/result/Tally", name := "<init>", desc := "(JJJJ)V" } : Jvm.MethodName) prog_21_method_1_code (9 : Nat) (Option.none : Option Jvm.ClassFile.FieldType)).before args0 about1 = true := code_word (m := ⟨3, 0⟩) (meth := k3m0) (c := k3c0) (by decide +kernel) rfl rfl rfl (by decide +kernel)
set_option maxRecDepth 65536 in
theorem w_c2 : (Jvm.Cond.code ({ cls := "java/lang/Record", name := "<init>", desc := "()V" } : Jvm.MethodName) jdk_30_method_1_code (1 : Nat) (Option.none : Option Jvm.ClassFile.FieldType)).before args0 about1 = true := code_word (m := ⟨2, 0⟩) (meth := k2m0) (c := k2c0) (by decide +kernel) rfl rfl rfl (by decide +kernel)
set_option maxRecDepth 65536 in
theorem w_c3 : (Jvm.Cond.code ({ cls := "java/lang/Object", name := "<init>", desc := "()V" } : Jvm.MethodName) object_method_1_code (1 : Nat) (Option.none : Option Jvm.ClassFile.FieldType)).before args0 about1 = true := code_word (m := ⟨0, 0⟩) (meth := k0m0) (c := k0c0) (by decide +kernel) rfl rfl rfl (by decide +kernel)
set_option maxRecDepth 65536 in
theorem w_c4 : (Jvm.Cond.code ({ cls := "org/graticule/result/Tally", name := "fields", desc := "()J" } : Jvm.MethodName) prog_21_method_2_code (1 : Nat) (Option.some Jvm.ClassFile.FieldType.long)).before args0 about1 = true := code_word (m := ⟨3, 1⟩) (meth := k3m1) (c := k3c1) (by decide +kernel) rfl rfl rfl (by decide +kernel)
set_option maxRecDepth 65536 in
theorem w_c5 : (Jvm.Cond.code ({ cls := "org/graticule/result/Tally", name := "count", desc := "(Lorg/graticule/core/Conversion$Status;)J" } : Jvm.MethodName) prog_21_method_3_code (2 : Nat) (Option.some Jvm.ClassFile.FieldType.long)).before args0 about1 = true := code_word (m := ⟨3, 2⟩) (meth := k3m2) (c := k3c2) (by decide +kernel) rfl rfl rfl (by decide +kernel)
set_option maxRecDepth 65536 in
theorem w_c6 : (Jvm.Cond.code ({ cls := "java/lang/Enum", name := "ordinal", desc := "()I" } : Jvm.MethodName) jdk_37_method_2_code (1 : Nat) (Option.some Jvm.ClassFile.FieldType.int)).before args0 about1 = true := code_word (m := ⟨7, 0⟩) (meth := k7m0) (c := k7c0) (by decide +kernel) rfl rfl rfl (by decide +kernel)
def codes1 : List Jvm.Cond := [Jvm.Cond.code x code maxLocals ret, Jvm.Cond.code ({ cls := "org/graticule/result/Tally", name := "<init>", desc := "(JJJJ)V" } : Jvm.MethodName) prog_21_method_1_code (9 : Nat) (Option.none : Option Jvm.ClassFile.FieldType), Jvm.Cond.code ({ cls := "java/lang/Record", name := "<init>", desc := "()V" } : Jvm.MethodName) jdk_30_method_1_code (1 : Nat) (Option.none : Option Jvm.ClassFile.FieldType), Jvm.Cond.code ({ cls := "java/lang/Object", name := "<init>", desc := "()V" } : Jvm.MethodName) object_method_1_code (1 : Nat) (Option.none : Option Jvm.ClassFile.FieldType), Jvm.Cond.code ({ cls := "org/graticule/result/Tally", name := "fields", desc := "()J" } : Jvm.MethodName) prog_21_method_2_code (1 : Nat) (Option.some Jvm.ClassFile.FieldType.long), Jvm.Cond.code ({ cls := "org/graticule/result/Tally", name := "count", desc := "(Lorg/graticule/core/Conversion$Status;)J" } : Jvm.MethodName) prog_21_method_3_code (2 : Nat) (Option.some Jvm.ClassFile.FieldType.long), Jvm.Cond.code ({ cls := "java/lang/Enum", name := "ordinal", desc := "()I" } : Jvm.MethodName) jdk_37_method_2_code (1 : Nat) (Option.some Jvm.ClassFile.FieldType.int)]
set_option maxRecDepth 65536 in
theorem codes_eq : words1.filter isCode = codes1 := rfl
theorem w_codes : ∀ c ∈ words1.filter isCode, c.before args0 about1 = true := by
  rw [codes_eq]
  intro c hc
  simp only [codes1, List.mem_cons, List.not_mem_nil, or_false] at hc
  rcases hc with rfl | rfl | rfl | rfl | rfl | rfl | rfl
  · exact w_c0
  · exact w_c1
  · exact w_c2
  · exact w_c3
  · exact w_c4
  · exact w_c5
  · exact w_c6
set_option maxRecDepth 65536 in
theorem w_t1 : (words1.take 24).all (fun c => isCode c || c.before args0 about1) = true := by decide +kernel
set_option maxRecDepth 65536 in
theorem w_t2 : ((words1.drop 24).take 24).all (fun c => isCode c || c.before args0 about1) = true := by decide +kernel
set_option maxRecDepth 65536 in
theorem w_t3 : ((words1.drop 24).drop 24).all (fun c => isCode c || c.before args0 about1) = true := by decide +kernel
theorem w_tables : (allAtoms (Jvm.Cond.code x code maxLocals ret :: tables_1)).before args0 about1 = true := by
  rw [allAtoms_all]
  show words1.all (fun c => c.before args0 about1) = true
  refine all_split ?_ w_codes
  rw [← List.take_append_drop 24 words1, List.all_append, w_t1, ← List.take_append_drop 24 (words1.drop 24), List.all_append, w_t2, w_t3]
  rfl
set_option maxRecDepth 65536 in
theorem w_case : (Jvm.Cond.and given_1 narrow_1).before args0 about1 = true := by decide +kernel
theorem w_applies : (headSpec (Jvm.Cond.code x code maxLocals ret :: tables_1) room_1).applies x e0.platform about1 = true :=
  (Spec.applies_iff w_frames).mpr ⟨w_running, w_runnable, w_alone, w_named, w_hears, w_ripe, w_room, w_tables⟩
theorem atStart : AtStart classFile x code maxLocals ret World_1 tables_1 room_1 Calls_1 rest_1 Pre_1 launch0 p0 e0 about1 theMethod args0 below0 :=
  ⟨lists_1, trivial, launch0.admits_env _ _ _, launch0.least_env, fairChoices_fair.cas, fairChoices_fair.clock, w_frames, w_args, w_heap, w_applies, trivial, trivial, w_case⟩
end start1
theorem witness_1 : WitnessClaimed_1 := ⟨start1.p0, start1.e0, start1.about1, start1.theMethod, start1.args0, start1.below0, start1.atStart⟩
end Jvm.Pilot.@@N@@
