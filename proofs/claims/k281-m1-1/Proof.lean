import JvmDerived
import JvmDerived.Pilot.@@N@@Statement
import JvmDerived.Pilot.@@N@@Code
set_option linter.unusedVariables false
set_option linter.unusedSimpArgs false
namespace Jvm.Pilot.@@N@@
open Jvm Jvm.ClassFile Sem Op Lib Jvm.Free Jvm.Stand Jvm.LawKit Jvm.RoadKit Bundle Jvm.Pilot.@@N@@.Jvm.D
theorem own_lt {x y : Int32} (h : x < y) : if_icmp.holds .lt x y = true ∧ if_icmp.holds .ge x y = false := by simp [if_icmp.holds, h, Int32.not_le.mpr h]
def own_Goes (p : Program) (e : Env) (below : List Frame) (s : State) (Q : Option Value → Heap → List Loc → Prop) (kc ks : Nat) (U : State) : Prop :=
  ∃ t o, Steps p.tables e below U t ∧ t.status = .running ∧ Ended t below o ∧ ∃ v L, o = .returned v ∧ Q v t.heap L ∧ FrameEnd s o t L kc ks
theorem own_go {p : Program} {e : Env} {below : List Frame} {s : State} {Q : Option Value → Heap → List Loc → Prop} {kc ks : Nat} {U V : State} (h : ∀ t, Steps p.tables e below V t → Steps p.tables e below U t) (g : own_Goes p e below s Q kc ks V) : own_Goes p e below s Q kc ks U := by
  obtain ⟨t, o, h1, r⟩ := g
  exact ⟨t, o, h t h1, r⟩
theorem own_out {p : Program} {l : Launch} {e : Env} {R : Room} {s : State} {m : MethodId} {args : Array Value} {below : List Frame} {meth : Method} {c : Code} {T : State} {locs : List Loc} {cells slots : Nat} {h : Heap} {Q : Option Value → Heap → List Loc → Prop} {kc ks : Nat} {U : State} {v : Option Value}
    (X : Stand p l e R s m args below meth c T locs cells slots) (hlk : meth.locks = false) (hv : meth.sig.returnType = none → v = none)
    (hs : ∀ fs, (∀ (f : JFrame) (acts : List Action), f.method = m → f.locked = none → f.entered = [] → (doReturn e (T.setTop f) acts v).1 = T.setFrames fs) → Steps p.tables e below U (T.setFrames fs))
    (eT : T.heap = h) (hQ : Q v h locs) (hc : cells ≤ kc) (hsl : slots ≤ ks) : own_Goes p e below s Q kc ks U := by
  obtain ⟨fs, hr, hrun, hended, hW, hsame⟩ := X.leave hv hlk
  subst eT
  exact ⟨_, _, hs fs hr, hrun, hended, _, _, rfl, hQ, ⟨_, rfl⟩, hW, hsame.mono hc hsl⟩
theorem own_ks {h0 h : Heap} {ws : List Addr} (K : Keep h0 h ws) : h0.size ≤ h.size := K.1
theorem own_cmpL (x : Int64) : XT.cmpL x x = 0 := by simp [XT.cmpL]
theorem own_vne {a b : Int32} (h : a ≠ b) : Value.int a ≠ .int b := fun q => h (Value.int.inj q)
theorem own_nn (x : Int32) : ¬ (x &&& 2147483647) < 0 := fun h => absurd ((XT.and_neg32 x 2147483647).mp h).2 (by decide)
theorem own_lk {p : Program} {l : Launch} {x : MethodName} {S : Spec} {code : ByteArray} {maxLocals : Nat} {ret : Option FieldType} {e : Env} {s : State} {m : MethodId} {args : Array Value} {below : List Frame} {meth : Method} {c : Code} {s₁ : State} (B : BodyLoose p l x S code maxLocals ret e s m args below meth c s₁) : meth.locks = false := B.notSynchronized
theorem own_if (cd : ClassFile.Cond) {x : Int32} {b : Bool} (h : if_icmp.holds cd x 0 = b) : ifCond.holds cd x = b := by rw [if0]; exact h
theorem own_aeq {a b : Addr} (h : a = b) : XT.acmp .eq (.ref a) (.ref b) = true ∧ XT.acmp .ne (.ref a) (.ref b) = false := by subst h; exact ⟨XT.aa_eq_t rfl, XT.aa_ne_f rfl⟩
theorem own_ane {a b : Addr} (h : ¬ a = b) : XT.acmp .eq (.ref a) (.ref b) = false ∧ XT.acmp .ne (.ref a) (.ref b) = true := ⟨XT.aa_eq_f (fun q => h (Value.ref.inj q)), XT.aa_ne_t (fun q => h (Value.ref.inj q))⟩
theorem own_eqI {args : Array Value} {s : State} {u : Term} {k : Int32} (h : (Jvm.Cond.eq u (.int k)).value args s none s [] = some true) : u.eval args s none [] s = some (.int k) := by
  simp only [Jvm.Cond.value] at h
  cases hf : u.eval args s none [] s with
  | none => simp [hf] at h
  | some v => cases v <;> simp [hf, Term.eval] at h; subst h; rfl
theorem own_eqJ {args : Array Value} {s : State} {u : Term} {k : Int64} (h : (Jvm.Cond.eq u (.long k)).value args s none s [] = some true) : u.eval args s none [] s = some (.long k) := by
  simp only [Jvm.Cond.value] at h
  cases hf : u.eval args s none [] s with
  | none => simp [hf] at h
  | some v => cases v <;> simp [hf, Term.eval] at h; subst h; rfl
theorem own_cl_gt (x y : Int64) : 0 < XT.cmpL x y ↔ y < x := by
  unfold XT.cmpL
  by_cases h : y < x
  · simp [h]
  · by_cases g : x = y
    · subst g; simp [h]
    · simp [h, g]
theorem own_cl_lt (x y : Int64) : XT.cmpL x y < 0 ↔ x < y := by
  unfold XT.cmpL
  by_cases h : y < x
  · have : ¬ x < y := fun q => by rw [Int64.lt_iff_toInt_lt] at h q; omega
    simp [h, this]
  · by_cases g : x = y
    · subst g; simp [h]
    · have : x < y := by
        rw [Int64.lt_iff_toInt_lt] at h ⊢
        have ne : x.toInt ≠ y.toInt := fun q => g (Int64.toInt_inj.mp q)
        omega
      simp [h, g, this]
theorem own_privateBack {p : Program} {l : Launch} {e : Env} {R : Room} {s : State} {m : MethodId} {args : Array Value} {below : List Frame} {meth : Method} {c : Code} {T : State} {locs : List Loc} {cells slots : Nat}
    (X : Stand p l e R s m args below meth c T locs cells slots) (hexec : p.tables.exec = Jvm.exec) {own : String} {index k : Nat} {y : MethodName} {bytes : ByteArray} {maxL : Nat} {ret : Option FieldType}
    (hown : s.vm.findClass own = some m.cls) (hlink : (Jvm.Cond.methodLink own index y).before args s = true) (hinst : (Jvm.Cond.instanceMethod y).before args s = true) (hmk : (Jvm.Cond.instantiable y.cls k).before args s = true)
    (hpriv : s.PrivateAt y) (hcode : (Jvm.Cond.code y bytes maxL ret).before args s = true) (hy : y.cls ≠ "java/lang/invoke/MethodHandle" ∧ y.cls ≠ "java/lang/invoke/VarHandle")
    {W : Nat} {Pre : Free.Pt → Array Value → Prop} {Post : Free.Pt → Array Value → Option Value → Free.Pt → Prop} (hK : Free.Back l R p e below s args y 3 W Pre Post)
    {g : JFrame} (hg : g.method = m) (hsize : g.locals.size = c.maxLocals) {s₀ : State} (hcome : Steps p.tables e below s₀ (T.setTop g)) {a : Addr} {cell : Cell} (hcell : T.heap[a]? = some cell) (hobj : ∀ q, cell.vm ≠ .statics q)
    {argsL rest : List Value} (hlen : ∀ sig, parseMethodDescriptor y.desc = some sig → argsL.length = sig.parameters.length)
    (hstack : g.stack = argsL.reverse ++ .ref a :: rest) (hW : 2 * g.monitorRoom + (rest.map fun v => v.category).sum ≤ W) (hdg : decode c.code g.pc = .ok (.invokevirtual index, 3))
    (hpre : ∀ vm₁, s.WarmedH vm₁ → Pre ⟨T.setVm vm₁, locs, cells, slots⟩ (.ref a :: argsL).toArray) :
    ∃ (v : Option Value) (vm₁ : Vm) (B : Free.Pt), s.WarmedH vm₁ ∧ Stand p l e R s m args below meth c B.U B.locs B.cells B.slots ∧ Post ⟨T.setVm vm₁, locs, cells, slots⟩ (.ref a :: argsL).toArray v B ∧
      Steps p.tables e below s₀ (B.U.setTop { g with pc := g.pc + 3, stack := v.toList ++ rest }) := by
  obtain ⟨mk, r, named, found, inst, abs⟩ := Cond.instanceMethod_spec hinst
  obtain ⟨r', cM, found', -, -, -, -, -, -, sig⟩ := Cond.code_spec named hcode
  cases found.symm.trans found'
  obtain ⟨cC, kC, k1, k2, -, k4, -⟩ := Cond.instantiable_spec hmk
  cases (findClass_of_methodNamed named).symm.trans k1
  have face : kC.isInterface = false := (Bool.or_eq_false_iff.mp k4).1
  have sel : selectMethod e.platform s.vm cell.cls mk = .method mk := selectMethod_private found (hpriv mk r named found)
  obtain ⟨vm₁, X₁, go⟩ := X.invokevirtual hexec hown hlink named found inst k2 face hy (a := a) (cell := cell) hcell hobj sel found abs k2 face (g := g) hg (argsL := argsL) (rest := rest) (hlen _ sig) hstack hdg
  obtain ⟨v, B, X', post, back⟩ := hK m meth c ⟨T.setVm vm₁, locs, cells, slots⟩ { g with stack := rest } (.invokevirtual index) mk (.ref a :: argsL).toArray X₁ hg hsize hdg hW (X₁.named named) (hpre vm₁ X₁.warmed)
  exact ⟨v, vm₁, B, X₁.warmed, X', post, (hcome.trans (go _ fun acts => by rw [doInvoke_state]; exact Steps.refl _)).trans back⟩
theorem own_fitR {C : String} {v : Value} (h : v.isRef = true) : fits (.object C) v = true := by rcases ref_cases h with rfl | ⟨a, rfl⟩ <;> rfl
theorem own_fI {args : Array Value} {s : State} {t : Term} {a : Addr} {O n d : String} {k : Int32} (ev : t.eval args s none [] s = some (.ref a)) (h : (Jvm.Cond.eq (.field t O n d) (.int k)).value args s none s [] = some true) : Fld s s.heap a O n d (.int k) := by
  refine Fld.start ?_
  simp only [Jvm.Cond.value, fld_at ev] at h
  cases hf : s.fieldOf? a O n d with
  | none => simp [hf] at h
  | some v => cases v <;> simp [hf, Term.eval] at h; subst h; rfl
theorem own_fJ {args : Array Value} {s : State} {t : Term} {a : Addr} {O n d : String} {k : Int64} (ev : t.eval args s none [] s = some (.ref a)) (h : (Jvm.Cond.eq (.field t O n d) (.long k)).value args s none s [] = some true) : Fld s s.heap a O n d (.long k) := by
  refine Fld.start ?_
  simp only [Jvm.Cond.value, fld_at ev] at h
  cases hf : s.fieldOf? a O n d with
  | none => simp [hf] at h
  | some v => cases v <;> simp [hf, Term.eval] at h; subst h; rfl
theorem own_fN {args : Array Value} {s : State} {t : Term} {a : Addr} {O n d : String} (ev : t.eval args s none [] s = some (.ref a)) (h : (Jvm.Cond.eq (.field t O n d) .null).value args s none s [] = some true) : Fld s s.heap a O n d .null := Fld.start ((fld_at ev).symm.trans (null_v h))
theorem pn_0 : plainName "com/example/izin/izin/Headcount" = true := by first | (simp [plainName, overriddenIn]; done) | decide +kernel
theorem pn_1 : plainName "java/lang/Record" = true := by first | (simp [plainName, overriddenIn]; done) | decide +kernel
theorem pn_2 : plainName "com/example/izin/izin/HeadcountIsActivePinLaw" = true := by first | (simp [plainName, overriddenIn]; done) | decide +kernel
theorem pd_0 : parseMethodDescriptor "()V" = some ⟨[], none⟩ := by decide +kernel
theorem pd_1 : parseMethodDescriptor "(J)Z" = some ⟨[.long], some .boolean⟩ := by decide +kernel
theorem pd_2 : parseMethodDescriptor "(J)J" = some ⟨[.long], some .long⟩ := by decide +kernel
theorem pd_3 : parseMethodDescriptor "(JJ)V" = some ⟨[.long, .long], none⟩ := by decide +kernel
theorem pd_4 : parseMethodDescriptor "(JJ)J" = some ⟨[.long, .long], some .long⟩ := by decide +kernel
theorem pd_5 : parseMethodDescriptor "(J)Lcom/example/izin/izin/Headcount;" = some ⟨[.long], some (.object "com/example/izin/izin/Headcount")⟩ := by decide +kernel
theorem pd_6 : parseMethodDescriptor "()J" = some ⟨[], some .long⟩ := by decide +kernel
theorem d1_0 : decode prog_14_method_4_code 0 = .ok (.lload_n 0, 1) := by decide +kernel
theorem d1_1 : decode prog_14_method_4_code 1 = .ok (.lconst 0, 1) := by decide +kernel
theorem d1_2 : decode prog_14_method_4_code 2 = .ok (.lcmp, 1) := by decide +kernel
theorem d1_3 : decode prog_14_method_4_code 3 = .ok (.ifCond .le 7, 3) := by decide +kernel
theorem d1_6 : decode prog_14_method_4_code 6 = .ok (.iconst 1, 1) := by decide +kernel
theorem d1_7 : decode prog_14_method_4_code 7 = .ok (.goto 4, 3) := by decide +kernel
theorem d1_11 : decode prog_14_method_4_code 11 = .ok (.ireturn, 1) := by decide +kernel
theorem d1_10 : decode prog_14_method_4_code 10 = .ok (.iconst 0, 1) := by decide +kernel
theorem ef_act (m : MethodId) (x1 : Int64) (r : Int32) : entryFrame m #[(.long x1)] 2 = mkF m 0 #[.val (.long x1), .second] [] := by first | (simp [entryFrame, mkF, argsToLocals, Value.category]; done) | rfl
def Q_act (Z : State) (x1 : Int64) (r : Int32) (h0 : Heap) (n0 : Nat) (v : Option Value) (h : Heap) (L : List Loc) : Prop := v = some (.int r) ∧ Fr n0 L ∧ h = h0
set_option maxRecDepth 65536 in
set_option maxHeartbeats 40000000 in
theorem rm_act (l : Launch) (Z : State) (a0 : Array Value) (hw : ∀ d ∈ tables_1, d.before a0 Z = true) (ws : List Jvm.Cond) (x1 : Int64) (r : Int32) (h0 : Heap) (n0 : Nat) (O0 : Old Z n0 h0) (hr1 : (0 : Int64) < x1 → r = 1) (hr0 : ¬ ((0 : Int64) < x1) → r = 0) :
    MetFree l (⟨"com/example/izin/izin/Headcount", "isActive", "(J)Z"⟩ : MethodName) (head1 (Jvm.Cond.code (⟨"com/example/izin/izin/Headcount", "isActive", "(J)Z"⟩ : MethodName) prog_14_method_4_code 2 (some .boolean) :: ws) ({ frames := 0, cells := 0, slots := 0, locals := 0 } : Room)) (fun av_ U => av_ = #[(.long x1)] ∧ Z.Warmed39 U.vm ∧ U.heap = h0) (fun _ _ _ _ _ => True) (fun _ U o_ U' => ∃ v L, o_ = .returned v ∧ Q_act Z x1 r h0 n0 v U'.heap L ∧ FrameEnd U o_ U' L ({ frames := 0, cells := 0, slots := 0, locals := 0 } : Room).cells ({ frames := 0, cells := 0, slots := 0, locals := 0 } : Room).slots) := by
  refine MetFree.of_bodySF (plainFor_of_name pn_0) hisR ?_
  intro p e s m args below meth c s₁ Bd hml0 hP hK
  obtain ⟨rfl, hZ, hh⟩ := hP
  have hx := Bd.exec
  have hby := Bd.bytes
  have hml : c.maxLocals = 2 := hml0
  have hown : s.vm.findClass "com/example/izin/izin/Headcount" = some m.cls := findClass_of_methodNamed Bd.named
  have hnm := (name_of_methodNamed Bd.named Bd.method).1
  have hlk := own_lk Bd
  have hret := Bd.returns
  have X0 : Stand p l e ({ frames := 0, cells := 0, slots := 0, locals := 0 } : Room) s m #[(.long x1)] below meth c s₁ [] 0 0 := Stand.of_body Bd
  have e0 : s₁.heap = h0 := by rw [← hh, Bd.state]; rfl
  have N0 := Fr.nil n0
  show own_Goes p e below s (Q_act Z x1 r h0 n0) ({ frames := 0, cells := 0, slots := 0, locals := 0 } : Room).cells ({ frames := 0, cells := 0, slots := 0, locals := 0 } : Room).slots (s₁.setTop (entryFrame m #[(.long x1)] 2))
  refine own_go (fun _ ww => castTop (ef_act m x1 r) ww) ?_
  show own_Goes _ _ _ _ _ _ _ (s₁.setTop (mkF m 0 #[.val (.long x1), .second] []))
  refine own_go (fun _ ww => XT.lloadN X0.here hx rfl (hb hby d1_0) rfl  ww) ?_
  show own_Goes _ _ _ _ _ _ _ (s₁.setTop (mkF m 1 #[.val (.long x1), .second] [(.long x1)]))
  refine own_go (fun _ ww => XT.lconst X0.here hx rfl (hb hby d1_1) ww) ?_
  show own_Goes _ _ _ _ _ _ _ (s₁.setTop (mkF m 2 #[.val (.long x1), .second] [(.long (0 : Int64)), (.long x1)]))
  refine own_go (fun _ ww => XT.lcmp X0.here hx rfl (hb hby d1_2) rfl ww) ?_
  show own_Goes _ _ _ _ _ _ _ (s₁.setTop (mkF m 3 #[.val (.long x1), .second] [(.int (XT.cmpL x1 (0 : Int64)))]))
  by_cases hc1 : (0 : Int32) < (XT.cmpL x1 (0 : Int64))
  ·
    refine own_go (fun _ ww => XS.ifNo X0.here hx rfl (hb hby d1_3) rfl (own_if .le (tlt hc1).2.2.2) ww) ?_
    show own_Goes _ _ _ _ _ _ _ (s₁.setTop (mkF m 6 #[.val (.long x1), .second] []))
    refine own_go (fun _ ww => XS.iconst X0.here hx rfl (hb hby d1_6) ww) ?_
    show own_Goes _ _ _ _ _ _ _ (s₁.setTop (mkF m 7 #[.val (.long x1), .second] [(.int (1 : Int32))]))
    refine own_go (fun _ ww => XS.goto X0.here hx rfl (pc0 := 7) (pc' := 11) rfl (hb hby d1_7) (by decide) (by decide) ww) ?_
    show own_Goes _ _ _ _ _ _ _ (s₁.setTop (mkF m 11 #[.val (.long x1), .second] [(.int (1 : Int32))]))
    exact own_out X0 hlk (v := some (.int (1 : Int32))) (fun h => by rw [hret] at h; cases h) (fun fs hr => retOut X0 hx (t := .boolean) hret (by decide) (Or.inl ⟨rfl, by simp, _, rfl⟩) (hb hby d1_11) hr) e0 ⟨by rw [hr1 ((own_cl_gt _ _).mp hc1)], N0, rfl⟩ (by decide) (by decide)
  ·
    refine own_go (fun _ ww => XS.ifYes X0.here hx rfl (pc0 := 3) (pc' := 10) rfl (hb hby d1_3) rfl (own_if .le (flt hc1).2.2.2) (by decide) (by decide) ww) ?_
    show own_Goes _ _ _ _ _ _ _ (s₁.setTop (mkF m 10 #[.val (.long x1), .second] []))
    refine own_go (fun _ ww => XS.iconst X0.here hx rfl (hb hby d1_10) ww) ?_
    show own_Goes _ _ _ _ _ _ _ (s₁.setTop (mkF m 11 #[.val (.long x1), .second] [(.int (0 : Int32))]))
    exact own_out X0 hlk (v := some (.int (0 : Int32))) (fun h => by rw [hret] at h; cases h) (fun fs hr => retOut X0 hx (t := .boolean) hret (by decide) (Or.inl ⟨rfl, by simp, _, rfl⟩) (hb hby d1_11) hr) e0 ⟨by rw [hr0 (fun q => hc1 ((own_cl_gt _ _).mpr q))], N0, rfl⟩ (by decide) (by decide)
theorem d2_0 : decode jdk_29_method_70_code 0 = .ok (.lload_n 0, 1) := by decide +kernel
theorem d2_1 : decode jdk_29_method_70_code 1 = .ok (.lload_n 2, 1) := by decide +kernel
theorem d2_2 : decode jdk_29_method_70_code 2 = .ok (.lcmp, 1) := by decide +kernel
theorem d2_3 : decode jdk_29_method_70_code 3 = .ok (.ifCond .gt 7, 3) := by decide +kernel
theorem d2_10 : decode jdk_29_method_70_code 10 = .ok (.lload_n 2, 1) := by decide +kernel
theorem d2_11 : decode jdk_29_method_70_code 11 = .ok (.lreturn, 1) := by decide +kernel
theorem d2_6 : decode jdk_29_method_70_code 6 = .ok (.lload_n 0, 1) := by decide +kernel
theorem d2_7 : decode jdk_29_method_70_code 7 = .ok (.goto 4, 3) := by decide +kernel
theorem ef_min (m : MethodId) (x1 : Int64) (x2 : Int64) (r : Int64) : entryFrame m #[(.long x1), (.long x2)] 4 = mkF m 0 #[.val (.long x1), .second, .val (.long x2), .second] [] := by first | (simp [entryFrame, mkF, argsToLocals, Value.category]; done) | rfl
def Q_min (Z : State) (x1 : Int64) (x2 : Int64) (r : Int64) (h0 : Heap) (n0 : Nat) (v : Option Value) (h : Heap) (L : List Loc) : Prop := v = some (.long r) ∧ Fr n0 L ∧ h = h0
set_option maxRecDepth 65536 in
set_option maxHeartbeats 40000000 in
theorem rm_min (l : Launch) (Z : State) (a0 : Array Value) (hw : ∀ d ∈ tables_1, d.before a0 Z = true) (ws : List Jvm.Cond) (x1 : Int64) (x2 : Int64) (r : Int64) (h0 : Heap) (n0 : Nat) (O0 : Old Z n0 h0) (hr1 : x2 < x1 → r = x2) (hr0 : ¬ (x2 < x1) → r = x1) :
    MetFree l (⟨"java/lang/Math", "min", "(JJ)J"⟩ : MethodName) (head1 (Jvm.Cond.code (⟨"java/lang/Math", "min", "(JJ)J"⟩ : MethodName) jdk_29_method_70_code 4 (some .long) :: ws) ({ frames := 0, cells := 0, slots := 0, locals := 0 } : Room)) (fun av_ U => av_ = #[(.long x1), (.long x2)] ∧ Z.Warmed39 U.vm ∧ U.heap = h0) (fun _ _ _ _ _ => True) (fun _ U o_ U' => ∃ v L, o_ = .returned v ∧ Q_min Z x1 x2 r h0 n0 v U'.heap L ∧ FrameEnd U o_ U' L ({ frames := 0, cells := 0, slots := 0, locals := 0 } : Room).cells ({ frames := 0, cells := 0, slots := 0, locals := 0 } : Room).slots) := by
  refine MetFree.of_bodySF (Jvm.Free.JP.mathPlain rfl (by decide +kernel)) hisR ?_
  intro p e s m args below meth c s₁ Bd hml0 hP hK
  obtain ⟨rfl, hZ, hh⟩ := hP
  have hx := Bd.exec
  have hby := Bd.bytes
  have hml : c.maxLocals = 4 := hml0
  have hown : s.vm.findClass "java/lang/Math" = some m.cls := findClass_of_methodNamed Bd.named
  have hnm := (name_of_methodNamed Bd.named Bd.method).1
  have hlk := own_lk Bd
  have hret := Bd.returns
  have X0 : Stand p l e ({ frames := 0, cells := 0, slots := 0, locals := 0 } : Room) s m #[(.long x1), (.long x2)] below meth c s₁ [] 0 0 := Stand.of_body Bd
  have e0 : s₁.heap = h0 := by rw [← hh, Bd.state]; rfl
  have N0 := Fr.nil n0
  show own_Goes p e below s (Q_min Z x1 x2 r h0 n0) ({ frames := 0, cells := 0, slots := 0, locals := 0 } : Room).cells ({ frames := 0, cells := 0, slots := 0, locals := 0 } : Room).slots (s₁.setTop (entryFrame m #[(.long x1), (.long x2)] 4))
  refine own_go (fun _ ww => castTop (ef_min m x1 x2 r) ww) ?_
  show own_Goes _ _ _ _ _ _ _ (s₁.setTop (mkF m 0 #[.val (.long x1), .second, .val (.long x2), .second] []))
  refine own_go (fun _ ww => XT.lloadN X0.here hx rfl (hb hby d2_0) rfl  ww) ?_
  show own_Goes _ _ _ _ _ _ _ (s₁.setTop (mkF m 1 #[.val (.long x1), .second, .val (.long x2), .second] [(.long x1)]))
  refine own_go (fun _ ww => XT.lloadN X0.here hx rfl (hb hby d2_1) rfl  ww) ?_
  show own_Goes _ _ _ _ _ _ _ (s₁.setTop (mkF m 2 #[.val (.long x1), .second, .val (.long x2), .second] [(.long x2), (.long x1)]))
  refine own_go (fun _ ww => XT.lcmp X0.here hx rfl (hb hby d2_2) rfl ww) ?_
  show own_Goes _ _ _ _ _ _ _ (s₁.setTop (mkF m 3 #[.val (.long x1), .second, .val (.long x2), .second] [(.int (XT.cmpL x1 x2))]))
  by_cases hc2 : (0 : Int32) < (XT.cmpL x1 x2)
  ·
    refine own_go (fun _ ww => XS.ifYes X0.here hx rfl (pc0 := 3) (pc' := 10) rfl (hb hby d2_3) rfl (own_if .gt (tlt hc2).2.2.1) (by decide) (by decide) ww) ?_
    show own_Goes _ _ _ _ _ _ _ (s₁.setTop (mkF m 10 #[.val (.long x1), .second, .val (.long x2), .second] []))
    refine own_go (fun _ ww => XT.lloadN X0.here hx rfl (hb hby d2_10) rfl  ww) ?_
    show own_Goes _ _ _ _ _ _ _ (s₁.setTop (mkF m 11 #[.val (.long x1), .second, .val (.long x2), .second] [(.long x2)]))
    exact own_out X0 hlk (v := some (.long x2)) (fun h => by rw [hret] at h; cases h) (fun fs hr => retOut X0 hx (t := .long) hret rfl (Or.inr (Or.inl ⟨rfl, rfl, _, rfl⟩)) (hb hby d2_11) hr) e0 ⟨by rw [hr1 ((own_cl_gt _ _).mp hc2)], N0, rfl⟩ (by decide) (by decide)
  ·
    refine own_go (fun _ ww => XS.ifNo X0.here hx rfl (hb hby d2_3) rfl (own_if .gt (flt hc2).2.2.1) ww) ?_
    show own_Goes _ _ _ _ _ _ _ (s₁.setTop (mkF m 6 #[.val (.long x1), .second, .val (.long x2), .second] []))
    refine own_go (fun _ ww => XT.lloadN X0.here hx rfl (hb hby d2_6) rfl  ww) ?_
    show own_Goes _ _ _ _ _ _ _ (s₁.setTop (mkF m 7 #[.val (.long x1), .second, .val (.long x2), .second] [(.long x1)]))
    refine own_go (fun _ ww => XS.goto X0.here hx rfl (pc0 := 7) (pc' := 11) rfl (hb hby d2_7) (by decide) (by decide) ww) ?_
    show own_Goes _ _ _ _ _ _ _ (s₁.setTop (mkF m 11 #[.val (.long x1), .second, .val (.long x2), .second] [(.long x1)]))
    exact own_out X0 hlk (v := some (.long x1)) (fun h => by rw [hret] at h; cases h) (fun fs hr => retOut X0 hx (t := .long) hret rfl (Or.inr (Or.inl ⟨rfl, rfl, _, rfl⟩)) (hb hby d2_11) hr) e0 ⟨by rw [hr0 (fun q => hc2 ((own_cl_gt _ _).mpr q))], N0, rfl⟩ (by decide) (by decide)
theorem d3_0 : decode jdk_29_method_66_code 0 = .ok (.lload_n 0, 1) := by decide +kernel
theorem d3_1 : decode jdk_29_method_66_code 1 = .ok (.lload_n 2, 1) := by decide +kernel
theorem d3_2 : decode jdk_29_method_66_code 2 = .ok (.lcmp, 1) := by decide +kernel
theorem d3_3 : decode jdk_29_method_66_code 3 = .ok (.ifCond .lt 7, 3) := by decide +kernel
theorem d3_10 : decode jdk_29_method_66_code 10 = .ok (.lload_n 2, 1) := by decide +kernel
theorem d3_11 : decode jdk_29_method_66_code 11 = .ok (.lreturn, 1) := by decide +kernel
theorem d3_6 : decode jdk_29_method_66_code 6 = .ok (.lload_n 0, 1) := by decide +kernel
theorem d3_7 : decode jdk_29_method_66_code 7 = .ok (.goto 4, 3) := by decide +kernel
theorem ef_max (m : MethodId) (x1 : Int64) (x2 : Int64) (r : Int64) : entryFrame m #[(.long x1), (.long x2)] 4 = mkF m 0 #[.val (.long x1), .second, .val (.long x2), .second] [] := by first | (simp [entryFrame, mkF, argsToLocals, Value.category]; done) | rfl
def Q_max (Z : State) (x1 : Int64) (x2 : Int64) (r : Int64) (h0 : Heap) (n0 : Nat) (v : Option Value) (h : Heap) (L : List Loc) : Prop := v = some (.long r) ∧ Fr n0 L ∧ h = h0
set_option maxRecDepth 65536 in
set_option maxHeartbeats 40000000 in
theorem rm_max (l : Launch) (Z : State) (a0 : Array Value) (hw : ∀ d ∈ tables_1, d.before a0 Z = true) (ws : List Jvm.Cond) (x1 : Int64) (x2 : Int64) (r : Int64) (h0 : Heap) (n0 : Nat) (O0 : Old Z n0 h0) (hr1 : x1 < x2 → r = x2) (hr0 : ¬ (x1 < x2) → r = x1) :
    MetFree l (⟨"java/lang/Math", "max", "(JJ)J"⟩ : MethodName) (head1 (Jvm.Cond.code (⟨"java/lang/Math", "max", "(JJ)J"⟩ : MethodName) jdk_29_method_66_code 4 (some .long) :: ws) ({ frames := 0, cells := 0, slots := 0, locals := 0 } : Room)) (fun av_ U => av_ = #[(.long x1), (.long x2)] ∧ Z.Warmed39 U.vm ∧ U.heap = h0) (fun _ _ _ _ _ => True) (fun _ U o_ U' => ∃ v L, o_ = .returned v ∧ Q_max Z x1 x2 r h0 n0 v U'.heap L ∧ FrameEnd U o_ U' L ({ frames := 0, cells := 0, slots := 0, locals := 0 } : Room).cells ({ frames := 0, cells := 0, slots := 0, locals := 0 } : Room).slots) := by
  refine MetFree.of_bodySF (Jvm.Free.JP.mathPlain rfl (by decide +kernel)) hisR ?_
  intro p e s m args below meth c s₁ Bd hml0 hP hK
  obtain ⟨rfl, hZ, hh⟩ := hP
  have hx := Bd.exec
  have hby := Bd.bytes
  have hml : c.maxLocals = 4 := hml0
  have hown : s.vm.findClass "java/lang/Math" = some m.cls := findClass_of_methodNamed Bd.named
  have hnm := (name_of_methodNamed Bd.named Bd.method).1
  have hlk := own_lk Bd
  have hret := Bd.returns
  have X0 : Stand p l e ({ frames := 0, cells := 0, slots := 0, locals := 0 } : Room) s m #[(.long x1), (.long x2)] below meth c s₁ [] 0 0 := Stand.of_body Bd
  have e0 : s₁.heap = h0 := by rw [← hh, Bd.state]; rfl
  have N0 := Fr.nil n0
  show own_Goes p e below s (Q_max Z x1 x2 r h0 n0) ({ frames := 0, cells := 0, slots := 0, locals := 0 } : Room).cells ({ frames := 0, cells := 0, slots := 0, locals := 0 } : Room).slots (s₁.setTop (entryFrame m #[(.long x1), (.long x2)] 4))
  refine own_go (fun _ ww => castTop (ef_max m x1 x2 r) ww) ?_
  show own_Goes _ _ _ _ _ _ _ (s₁.setTop (mkF m 0 #[.val (.long x1), .second, .val (.long x2), .second] []))
  refine own_go (fun _ ww => XT.lloadN X0.here hx rfl (hb hby d3_0) rfl  ww) ?_
  show own_Goes _ _ _ _ _ _ _ (s₁.setTop (mkF m 1 #[.val (.long x1), .second, .val (.long x2), .second] [(.long x1)]))
  refine own_go (fun _ ww => XT.lloadN X0.here hx rfl (hb hby d3_1) rfl  ww) ?_
  show own_Goes _ _ _ _ _ _ _ (s₁.setTop (mkF m 2 #[.val (.long x1), .second, .val (.long x2), .second] [(.long x2), (.long x1)]))
  refine own_go (fun _ ww => XT.lcmp X0.here hx rfl (hb hby d3_2) rfl ww) ?_
  show own_Goes _ _ _ _ _ _ _ (s₁.setTop (mkF m 3 #[.val (.long x1), .second, .val (.long x2), .second] [(.int (XT.cmpL x1 x2))]))
  by_cases hc3 : (XT.cmpL x1 x2) < (0 : Int32)
  ·
    refine own_go (fun _ ww => XS.ifYes X0.here hx rfl (pc0 := 3) (pc' := 10) rfl (hb hby d3_3) rfl (own_if .lt (tlt hc3).1) (by decide) (by decide) ww) ?_
    show own_Goes _ _ _ _ _ _ _ (s₁.setTop (mkF m 10 #[.val (.long x1), .second, .val (.long x2), .second] []))
    refine own_go (fun _ ww => XT.lloadN X0.here hx rfl (hb hby d3_10) rfl  ww) ?_
    show own_Goes _ _ _ _ _ _ _ (s₁.setTop (mkF m 11 #[.val (.long x1), .second, .val (.long x2), .second] [(.long x2)]))
    exact own_out X0 hlk (v := some (.long x2)) (fun h => by rw [hret] at h; cases h) (fun fs hr => retOut X0 hx (t := .long) hret rfl (Or.inr (Or.inl ⟨rfl, rfl, _, rfl⟩)) (hb hby d3_11) hr) e0 ⟨by rw [hr1 ((own_cl_lt _ _).mp hc3)], N0, rfl⟩ (by decide) (by decide)
  ·
    refine own_go (fun _ ww => XS.ifNo X0.here hx rfl (hb hby d3_3) rfl (own_if .lt (flt hc3).1) ww) ?_
    show own_Goes _ _ _ _ _ _ _ (s₁.setTop (mkF m 6 #[.val (.long x1), .second, .val (.long x2), .second] []))
    refine own_go (fun _ ww => XT.lloadN X0.here hx rfl (hb hby d3_6) rfl  ww) ?_
    show own_Goes _ _ _ _ _ _ _ (s₁.setTop (mkF m 7 #[.val (.long x1), .second, .val (.long x2), .second] [(.long x1)]))
    refine own_go (fun _ ww => XS.goto X0.here hx rfl (pc0 := 7) (pc' := 11) rfl (hb hby d3_7) (by decide) (by decide) ww) ?_
    show own_Goes _ _ _ _ _ _ _ (s₁.setTop (mkF m 11 #[.val (.long x1), .second, .val (.long x2), .second] [(.long x1)]))
    exact own_out X0 hlk (v := some (.long x1)) (fun h => by rw [hret] at h; cases h) (fun fs hr => retOut X0 hx (t := .long) hret rfl (Or.inr (Or.inl ⟨rfl, rfl, _, rfl⟩)) (hb hby d3_11) hr) e0 ⟨by rw [hr0 (fun q => hc3 ((own_cl_lt _ _).mpr q))], N0, rfl⟩ (by decide) (by decide)
theorem d7_0 : decode jdk_30_method_1_code 0 = .ok (.aload_n 0, 1) := by decide +kernel
theorem d7_1 : decode jdk_30_method_1_code 1 = .ok (.invokespecial 1, 3) := by decide +kernel
theorem d7_4 : decode jdk_30_method_1_code 4 = .ok (.return_, 1) := by decide +kernel
theorem ef_recinit (m : MethodId) (a : Addr) : entryFrame m #[(.ref a)] 1 = mkF m 0 #[.val (.ref a)] [] := by first | (simp [entryFrame, mkF, argsToLocals, Value.category]; done) | rfl
def Q_recinit (Z : State) (a : Addr) (h0 : Heap) (n0 : Nat) (v : Option Value) (h : Heap) (L : List Loc) : Prop := v = none ∧ Fr n0 L ∧ h = h0
set_option maxRecDepth 65536 in
set_option maxHeartbeats 40000000 in
theorem rm_recinit (l : Launch) (Z : State) (a0 : Array Value) (hw : ∀ d ∈ tables_1, d.before a0 Z = true) (ws : List Jvm.Cond) (a : Addr) (h0 : Heap) (n0 : Nat) (O0 : Old Z n0 h0) :
    MetFree l (⟨"java/lang/Record", "<init>", "()V"⟩ : MethodName) (head1 (Jvm.Cond.code (⟨"java/lang/Record", "<init>", "()V"⟩ : MethodName) jdk_30_method_1_code 1 none :: ws) ({ frames := 1, cells := 0, slots := 0, locals := 12 } : Room)) (fun av_ U => av_ = #[(.ref a)] ∧ Z.Warmed39 U.vm ∧ U.heap = h0) (fun _ _ _ _ _ => True) (fun _ U o_ U' => ∃ v L, o_ = .returned v ∧ Q_recinit Z a h0 n0 v U'.heap L ∧ FrameEnd U o_ U' L ({ frames := 1, cells := 0, slots := 0, locals := 12 } : Room).cells ({ frames := 1, cells := 0, slots := 0, locals := 12 } : Room).slots) := by
  refine MetFree.of_bodySF (plainFor_of_name pn_1) hisR ?_
  intro p e s m args below meth c s₁ Bd hml0 hP hK
  obtain ⟨rfl, hZ, hh⟩ := hP
  have hx := Bd.exec
  have hby := Bd.bytes
  have hml : c.maxLocals = 1 := hml0
  have hown : s.vm.findClass "java/lang/Record" = some m.cls := findClass_of_methodNamed Bd.named
  have hnm := (name_of_methodNamed Bd.named Bd.method).1
  have hlk := own_lk Bd
  have hret := Bd.returns
  have X0 : Stand p l e ({ frames := 1, cells := 0, slots := 0, locals := 12 } : Room) s m #[(.ref a)] below meth c s₁ [] 0 0 := Stand.of_body Bd
  have e0 : s₁.heap = h0 := by rw [← hh, Bd.state]; rfl
  have N0 := Fr.nil n0
  show own_Goes p e below s (Q_recinit Z a h0 n0) ({ frames := 1, cells := 0, slots := 0, locals := 12 } : Room).cells ({ frames := 1, cells := 0, slots := 0, locals := 12 } : Room).slots (s₁.setTop (entryFrame m #[(.ref a)] 1))
  refine own_go (fun _ ww => castTop (ef_recinit m a) ww) ?_
  show own_Goes _ _ _ _ _ _ _ (s₁.setTop (mkF m 0 #[.val (.ref a)] []))
  refine own_go (fun _ ww => XS.aloadN X0.here hx rfl (hb hby d7_0) rfl rfl ww) ?_
  show own_Goes _ _ _ _ _ _ _ (s₁.setTop (mkF m 1 #[.val (.ref a)] [(.ref a)]))
  obtain ⟨T4, X4, e4, st4⟩ := initO X0 hx hZ hown (hw _ (List.mem_of_getElem? (i := 39) rfl)) (hw _ (List.mem_of_getElem? (i := 40) rfl)) (hw _ (List.mem_of_getElem? (i := 41) rfl)) e0 (g := (mkF m 1 #[.val (.ref a)] [(.ref a)])) rfl (by rw [hml]; rfl) rfl (hb hby d7_1) (by decide) (W := 0) (by show 2 * 0 + _ ≤ _; exact Nat.le_of_eq rfl) (by decide)
  refine own_go st4 ?_
  show own_Goes _ _ _ _ _ _ _ (T4.setTop (mkF m 4 #[.val (.ref a)] []))
  exact own_out X4 hlk (v := none) (fun _ => rfl) (fun fs hr => X4.returnOut hx hret (hb hby d7_4) hr) e4 ⟨rfl, N0, rfl⟩ (by decide) (by decide)
theorem d6_0 : decode prog_14_method_1_code 0 = .ok (.aload_n 0, 1) := by decide +kernel
theorem d6_1 : decode prog_14_method_1_code 1 = .ok (.invokespecial 1, 3) := by decide +kernel
theorem d6_4 : decode prog_14_method_1_code 4 = .ok (.aload_n 0, 1) := by decide +kernel
theorem d6_5 : decode prog_14_method_1_code 5 = .ok (.lload_n 1, 1) := by decide +kernel
theorem d6_6 : decode prog_14_method_1_code 6 = .ok (.putfield 7, 3) := by decide +kernel
theorem d6_9 : decode prog_14_method_1_code 9 = .ok (.aload_n 0, 1) := by decide +kernel
theorem d6_10 : decode prog_14_method_1_code 10 = .ok (.lload_n 3, 1) := by decide +kernel
theorem d6_11 : decode prog_14_method_1_code 11 = .ok (.putfield 13, 3) := by decide +kernel
theorem d6_14 : decode prog_14_method_1_code 14 = .ok (.return_, 1) := by decide +kernel
theorem ef_init (m : MethodId) (a : Addr) (x1 : Int64) (x2 : Int64) : entryFrame m #[(.ref a), (.long x1), (.long x2)] 5 = mkF m 0 #[.val (.ref a), .val (.long x1), .second, .val (.long x2), .second] [] := by first | (simp [entryFrame, mkF, argsToLocals, Value.category]; done) | rfl
def Q_init (Z : State) (a : Addr) (x1 : Int64) (x2 : Int64) (h0 : Heap) (n0 : Nat) (v : Option Value) (h : Heap) (L : List Loc) : Prop := v = none ∧ Fr n0 L ∧ Keep h0 h [a] ∧ Fld Z h a "com/example/izin/izin/Headcount" "participants" "J" (.long x1) ∧ Fld Z h a "com/example/izin/izin/Headcount" "active" "J" (.long x2)
set_option maxRecDepth 65536 in
set_option maxHeartbeats 40000000 in
theorem rm_init (l : Launch) (Z : State) (a0 : Array Value) (hw : ∀ d ∈ tables_1, d.before a0 Z = true) (ws : List Jvm.Cond) (a : Addr) (x1 : Int64) (x2 : Int64) (h0 : Heap) (n0 : Nat) (O0 : Old Z n0 h0) (F1 : Fld Z h0 a "com/example/izin/izin/Headcount" "participants" "J" (.long (0 : Int64))) (F2 : Fld Z h0 a "com/example/izin/izin/Headcount" "active" "J" (.long (0 : Int64))) (Ea : Exa Z h0 a "com/example/izin/izin/Headcount") (g_a : n0 ≤ a) :
    MetFree l (⟨"com/example/izin/izin/Headcount", "<init>", "(JJ)V"⟩ : MethodName) (head1 (Jvm.Cond.code (⟨"com/example/izin/izin/Headcount", "<init>", "(JJ)V"⟩ : MethodName) prog_14_method_1_code 5 none :: ws) ({ frames := 2, cells := 0, slots := 0, locals := 24 } : Room)) (fun av_ U => av_ = #[(.ref a), (.long x1), (.long x2)] ∧ Z.Warmed39 U.vm ∧ U.heap = h0) (fun _ _ _ _ _ => True) (fun _ U o_ U' => ∃ v L, o_ = .returned v ∧ Q_init Z a x1 x2 h0 n0 v U'.heap L ∧ FrameEnd U o_ U' L ({ frames := 2, cells := 0, slots := 0, locals := 24 } : Room).cells ({ frames := 2, cells := 0, slots := 0, locals := 24 } : Room).slots) := by
  refine MetFree.of_bodySF (plainFor_of_name pn_0) hisR ?_
  intro p e s m args below meth c s₁ Bd hml0 hP hK
  obtain ⟨rfl, hZ, hh⟩ := hP
  have hx := Bd.exec
  have hby := Bd.bytes
  have hml : c.maxLocals = 5 := hml0
  have hown : s.vm.findClass "com/example/izin/izin/Headcount" = some m.cls := findClass_of_methodNamed Bd.named
  have hnm := (name_of_methodNamed Bd.named Bd.method).1
  have hlk := own_lk Bd
  have hret := Bd.returns
  have X0 : Stand p l e ({ frames := 2, cells := 0, slots := 0, locals := 24 } : Room) s m #[(.ref a), (.long x1), (.long x2)] below meth c s₁ [] 0 0 := Stand.of_body Bd
  have e0 : s₁.heap = h0 := by rw [← hh, Bd.state]; rfl
  have N0 := Fr.nil n0
  show own_Goes p e below s (Q_init Z a x1 x2 h0 n0) ({ frames := 2, cells := 0, slots := 0, locals := 24 } : Room).cells ({ frames := 2, cells := 0, slots := 0, locals := 24 } : Room).slots (s₁.setTop (entryFrame m #[(.ref a), (.long x1), (.long x2)] 5))
  refine own_go (fun _ ww => castTop (ef_init m a x1 x2) ww) ?_
  show own_Goes _ _ _ _ _ _ _ (s₁.setTop (mkF m 0 #[.val (.ref a), .val (.long x1), .second, .val (.long x2), .second] []))
  refine own_go (fun _ ww => XS.aloadN X0.here hx rfl (hb hby d6_0) rfl rfl ww) ?_
  show own_Goes _ _ _ _ _ _ _ (s₁.setTop (mkF m 1 #[.val (.ref a), .val (.long x1), .second, .val (.long x2), .second] [(.ref a)]))
  obtain ⟨_, _, ⟨T5, L5, k5, n5⟩, -, X5, ⟨Lc5, hQ5, l5, y5, z5⟩, st5⟩ := X0.specialBack hx (y := (⟨"java/lang/Record", "<init>", "()V"⟩ : MethodName)) rfl hown (mvT hZ (hw _ (List.mem_of_getElem? (i := 34) rfl))) (mvT hZ (hw _ (List.mem_of_getElem? (i := 35) rfl))) (mvT hZ (hw _ (List.mem_of_getElem? (i := 38) rfl))) (by decide) (backOf (W := 0) (rm_recinit l Z a0 hw [] a h0 n0 O0 ) hZ (hw _ (List.mem_of_getElem? (i := 38) rfl)) (hw _ (List.mem_of_getElem? (i := 37) rfl)) (by decide) (by decide)) (g := (mkF m 1 #[.val (.ref a), .val (.long x1), .second, .val (.long x2), .second] [(.ref a)])) rfl (by rw [hml]; rfl) (Steps.refl _) (a := a) (argsL := []) (rest := []) (lenOf pd_0 rfl) rfl (by show 2 * 0 + _ ≤ _; exact Nat.le_of_eq rfl) (hb hby d6_1) (fun _ _ => ⟨rfl, e0, (by decide : 0 + 0 ≤ _), (by decide : 0 + 0 ≤ _)⟩)
  dsimp only [Pt.U, Pt.locs, Pt.cells, Pt.slots] at X5 l5 y5 z5 st5 hQ5
  subst l5 y5 z5
  obtain ⟨rfl, N5q, e5⟩ := hQ5
  have N5 := Fr.app N0 N5q
  refine own_go (fun _ ww => Steps.trans st5 ww) ?_
  show own_Goes _ _ _ _ _ _ _ (T5.setTop (mkF m 4 #[.val (.ref a), .val (.long x1), .second, .val (.long x2), .second] []))
  refine own_go (fun _ ww => XS.aloadN X5.here hx rfl (hb hby d6_4) rfl rfl ww) ?_
  show own_Goes _ _ _ _ _ _ _ (T5.setTop (mkF m 5 #[.val (.ref a), .val (.long x1), .second, .val (.long x2), .second] [(.ref a)]))
  refine own_go (fun _ ww => XT.lloadN X5.here hx rfl (hb hby d6_5) rfl  ww) ?_
  show own_Goes _ _ _ _ _ _ _ (T5.setTop (mkF m 6 #[.val (.ref a), .val (.long x1), .second, .val (.long x2), .second] [(.long x1), (.ref a)]))
  obtain ⟨T6, h6, X6, e6, W6, st6⟩ := putF X5 hx hZ hown (host := "") (Or.inl (hw _ (List.mem_of_getElem? (i := 23) rfl))) Via.refl e5 F1 Ea (Or.inr ⟨(hw _ (List.mem_of_getElem? (i := 24) rfl)), rfl, hnm⟩) (hw _ (List.mem_of_getElem? (i := 22) rfl)) (ty := .long) (by decide) rfl rfl (g := (mkF m 6 #[.val (.ref a), .val (.long x1), .second, .val (.long x2), .second] [(.long x1), (.ref a)])) rfl rfl (hb hby d6_6)
  have f7 : Fld Z h6 a "com/example/izin/izin/Headcount" "participants" "J" (.long x1) := (F1.same W6)
  have f8 : Fld Z h6 a "com/example/izin/izin/Headcount" "active" "J" (.long (0 : Int64)) := (F2.other W6 (Or.inr (slot_ne (Or.inr (hw _ (List.mem_of_getElem? (i := 26) rfl))) (Or.inr (hw _ (List.mem_of_getElem? (i := 24) rfl))) (by decide) (t := .long) (t' := .long) (by decide) (by decide))))
  have f9 : Exa Z h6 a "com/example/izin/izin/Headcount" := (Ea.wr W6)
  have N6 := Fr.snoc X6 N5 g_a
  have O6 := O0.wr W6 g_a
  have K6 := (Keep.refl h0 [a]).wr W6 (Or.inl (List.mem_of_getElem? (i := 0) rfl))
  refine own_go st6 ?_
  show own_Goes _ _ _ _ _ _ _ (T6.setTop (mkF m 9 #[.val (.ref a), .val (.long x1), .second, .val (.long x2), .second] []))
  refine own_go (fun _ ww => XS.aloadN X6.here hx rfl (hb hby d6_9) rfl rfl ww) ?_
  show own_Goes _ _ _ _ _ _ _ (T6.setTop (mkF m 10 #[.val (.ref a), .val (.long x1), .second, .val (.long x2), .second] [(.ref a)]))
  refine own_go (fun _ ww => XT.lloadN X6.here hx rfl (hb hby d6_10) rfl  ww) ?_
  show own_Goes _ _ _ _ _ _ _ (T6.setTop (mkF m 11 #[.val (.ref a), .val (.long x1), .second, .val (.long x2), .second] [(.long x2), (.ref a)]))
  obtain ⟨T10, h10, X10, e10, W10, st10⟩ := putF X6 hx hZ hown (host := "") (Or.inl (hw _ (List.mem_of_getElem? (i := 25) rfl))) Via.refl e6 f8 f9 (Or.inr ⟨(hw _ (List.mem_of_getElem? (i := 26) rfl)), rfl, hnm⟩) (hw _ (List.mem_of_getElem? (i := 22) rfl)) (ty := .long) (by decide) rfl rfl (g := (mkF m 11 #[.val (.ref a), .val (.long x1), .second, .val (.long x2), .second] [(.long x2), (.ref a)])) rfl rfl (hb hby d6_11)
  have f11 : Fld Z h10 a "com/example/izin/izin/Headcount" "participants" "J" (.long x1) := (f7.other W10 (Or.inr (slot_ne (Or.inr (hw _ (List.mem_of_getElem? (i := 24) rfl))) (Or.inr (hw _ (List.mem_of_getElem? (i := 26) rfl))) (by decide) (t := .long) (t' := .long) (by decide) (by decide))))
  have f12 : Fld Z h10 a "com/example/izin/izin/Headcount" "active" "J" (.long x2) := (f8.same W10)
  have f13 : Exa Z h10 a "com/example/izin/izin/Headcount" := (f9.wr W10)
  have N10 := Fr.snoc X10 N6 g_a
  have O10 := O6.wr W10 g_a
  have K10 := K6.wr W10 (Or.inl (List.mem_of_getElem? (i := 0) rfl))
  refine own_go st10 ?_
  show own_Goes _ _ _ _ _ _ _ (T10.setTop (mkF m 14 #[.val (.ref a), .val (.long x1), .second, .val (.long x2), .second] []))
  exact own_out X10 hlk (v := none) (fun _ => rfl) (fun fs hr => X10.returnOut hx hret (hb hby d6_14) hr) e10 ⟨rfl, N10, K10, f11, f12⟩ (by decide) (by decide)
theorem d5_0 : decode prog_14_method_5_code 0 = .ok (.lload_n 0, 1) := by decide +kernel
theorem d5_1 : decode prog_14_method_5_code 1 = .ok (.invokestatic 23, 3) := by decide +kernel
theorem d5_4 : decode prog_14_method_5_code 4 = .ok (.ifCond .eq 7, 3) := by decide +kernel
theorem d5_7 : decode prog_14_method_5_code 7 = .ok (.lconst 1, 1) := by decide +kernel
theorem d5_8 : decode prog_14_method_5_code 8 = .ok (.goto 4, 3) := by decide +kernel
theorem d5_12 : decode prog_14_method_5_code 12 = .ok (.lreturn, 1) := by decide +kernel
theorem d5_11 : decode prog_14_method_5_code 11 = .ok (.lconst 0, 1) := by decide +kernel
theorem ef_cnt (m : MethodId) (x1 : Int64) (r : Int64) : entryFrame m #[(.long x1)] 2 = mkF m 0 #[.val (.long x1), .second] [] := by first | (simp [entryFrame, mkF, argsToLocals, Value.category]; done) | rfl
def Q_cnt (Z : State) (x1 : Int64) (r : Int64) (h0 : Heap) (n0 : Nat) (v : Option Value) (h : Heap) (L : List Loc) : Prop := v = some (.long r) ∧ Fr n0 L ∧ h = h0
set_option maxRecDepth 65536 in
set_option maxHeartbeats 40000000 in
theorem rm_cnt (l : Launch) (Z : State) (a0 : Array Value) (hw : ∀ d ∈ tables_1, d.before a0 Z = true) (ws : List Jvm.Cond) (x1 : Int64) (r : Int64) (h0 : Heap) (n0 : Nat) (O0 : Old Z n0 h0) (hr1 : (0 : Int64) < x1 → r = 1) (hr0 : ¬ ((0 : Int64) < x1) → r = 0) :
    MetFree l (⟨"com/example/izin/izin/Headcount", "activeCount", "(J)J"⟩ : MethodName) (head1 (Jvm.Cond.code (⟨"com/example/izin/izin/Headcount", "activeCount", "(J)J"⟩ : MethodName) prog_14_method_5_code 2 (some .long) :: ws) ({ frames := 1, cells := 0, slots := 0, locals := 13 } : Room)) (fun av_ U => av_ = #[(.long x1)] ∧ Z.Warmed39 U.vm ∧ U.heap = h0) (fun _ _ _ _ _ => True) (fun _ U o_ U' => ∃ v L, o_ = .returned v ∧ Q_cnt Z x1 r h0 n0 v U'.heap L ∧ FrameEnd U o_ U' L ({ frames := 1, cells := 0, slots := 0, locals := 13 } : Room).cells ({ frames := 1, cells := 0, slots := 0, locals := 13 } : Room).slots) := by
  refine MetFree.of_bodySF (plainFor_of_name pn_0) hisR ?_
  intro p e s m args below meth c s₁ Bd hml0 hP hK
  obtain ⟨rfl, hZ, hh⟩ := hP
  have hx := Bd.exec
  have hby := Bd.bytes
  have hml : c.maxLocals = 2 := hml0
  have hown : s.vm.findClass "com/example/izin/izin/Headcount" = some m.cls := findClass_of_methodNamed Bd.named
  have hnm := (name_of_methodNamed Bd.named Bd.method).1
  have hlk := own_lk Bd
  have hret := Bd.returns
  have X0 : Stand p l e ({ frames := 1, cells := 0, slots := 0, locals := 13 } : Room) s m #[(.long x1)] below meth c s₁ [] 0 0 := Stand.of_body Bd
  have e0 : s₁.heap = h0 := by rw [← hh, Bd.state]; rfl
  have N0 := Fr.nil n0
  show own_Goes p e below s (Q_cnt Z x1 r h0 n0) ({ frames := 1, cells := 0, slots := 0, locals := 13 } : Room).cells ({ frames := 1, cells := 0, slots := 0, locals := 13 } : Room).slots (s₁.setTop (entryFrame m #[(.long x1)] 2))
  refine own_go (fun _ ww => castTop (ef_cnt m x1 r) ww) ?_
  show own_Goes _ _ _ _ _ _ _ (s₁.setTop (mkF m 0 #[.val (.long x1), .second] []))
  by_cases hp : (0 : Int64) < x1
  ·
    show own_Goes _ _ _ _ _ _ _ (s₁.setTop (mkF m 0 #[.val (.long x1), .second] []))
    refine own_go (fun _ ww => XT.lloadN X0.here hx rfl (hb hby d5_0) rfl  ww) ?_
    show own_Goes _ _ _ _ _ _ _ (s₁.setTop (mkF m 1 #[.val (.long x1), .second] [(.long x1)]))
    obtain ⟨_, _, ⟨T14, L14, k14, n14⟩, -, X14, ⟨Lc14, hQ14, l14, y14, z14⟩, st14⟩ := Jvm.LawKit.callS X0 hx (y := (⟨"com/example/izin/izin/Headcount", "isActive", "(J)Z"⟩ : MethodName)) hown (mvT hZ (hw _ (List.mem_of_getElem? (i := 30) rfl))) (mvT hZ (hw _ (List.mem_of_getElem? (i := 1) rfl))) (mvT hZ (hw _ (List.mem_of_getElem? (i := 2) rfl))) (mvT hZ (hw _ (List.mem_of_getElem? (i := 3) rfl))) (by decide) (backOf (W := 0) (rm_act l Z a0 hw [] x1 (1 : Int32) h0 n0 O0 (fun _ => rfl) (fun q => absurd hp q)) hZ (hw _ (List.mem_of_getElem? (i := 3) rfl)) (hw _ (List.mem_of_getElem? (i := 2) rfl)) (by decide) (by decide)) (g := (mkF m 1 #[.val (.long x1), .second] [(.long x1)])) rfl (by rw [hml]; rfl) (argsL := [(.long x1)]) (rest := []) (lenOf pd_1 rfl) rfl (by show 2 * 0 + _ ≤ _; exact Nat.le_of_eq rfl) (hb hby d5_1) (fun _ _ => ⟨rfl, e0, (by decide : 0 + 0 ≤ _), (by decide : 0 + 0 ≤ _)⟩)
    dsimp only [Pt.U, Pt.locs, Pt.cells, Pt.slots] at X14 l14 y14 z14 st14 hQ14
    subst l14 y14 z14
    obtain ⟨rfl, N14q, e14⟩ := hQ14
    have N14 := Fr.app N0 N14q
    refine own_go st14 ?_
    show own_Goes _ _ _ _ _ _ _ (T14.setTop (mkF m 4 #[.val (.long x1), .second] [(.int (1 : Int32))]))
    refine own_go (fun _ ww => XS.ifNo X14.here hx rfl (hb hby d5_4) rfl (own_if .eq (feq (by decide : ¬ ((1 : Int32) = (0 : Int32)))).1) ww) ?_
    show own_Goes _ _ _ _ _ _ _ (T14.setTop (mkF m 7 #[.val (.long x1), .second] []))
    refine own_go (fun _ ww => XT.lconst X14.here hx rfl (hb hby d5_7) ww) ?_
    show own_Goes _ _ _ _ _ _ _ (T14.setTop (mkF m 8 #[.val (.long x1), .second] [(.long (1 : Int64))]))
    refine own_go (fun _ ww => XS.goto X14.here hx rfl (pc0 := 8) (pc' := 12) rfl (hb hby d5_8) (by decide) (by decide) ww) ?_
    show own_Goes _ _ _ _ _ _ _ (T14.setTop (mkF m 12 #[.val (.long x1), .second] [(.long (1 : Int64))]))
    exact own_out X14 hlk (v := some (.long (1 : Int64))) (fun h => by rw [hret] at h; cases h) (fun fs hr => retOut X14 hx (t := .long) hret rfl (Or.inr (Or.inl ⟨rfl, rfl, _, rfl⟩)) (hb hby d5_12) hr) e14 ⟨by rw [hr1 hp], N14, rfl⟩ (by decide) (by decide)
  ·
    show own_Goes _ _ _ _ _ _ _ (s₁.setTop (mkF m 0 #[.val (.long x1), .second] []))
    refine own_go (fun _ ww => XT.lloadN X0.here hx rfl (hb hby d5_0) rfl  ww) ?_
    show own_Goes _ _ _ _ _ _ _ (s₁.setTop (mkF m 1 #[.val (.long x1), .second] [(.long x1)]))
    obtain ⟨_, _, ⟨T15, L15, k15, n15⟩, -, X15, ⟨Lc15, hQ15, l15, y15, z15⟩, st15⟩ := Jvm.LawKit.callS X0 hx (y := (⟨"com/example/izin/izin/Headcount", "isActive", "(J)Z"⟩ : MethodName)) hown (mvT hZ (hw _ (List.mem_of_getElem? (i := 30) rfl))) (mvT hZ (hw _ (List.mem_of_getElem? (i := 1) rfl))) (mvT hZ (hw _ (List.mem_of_getElem? (i := 2) rfl))) (mvT hZ (hw _ (List.mem_of_getElem? (i := 3) rfl))) (by decide) (backOf (W := 0) (rm_act l Z a0 hw [] x1 (0 : Int32) h0 n0 O0 (fun q => absurd q hp) (fun _ => rfl)) hZ (hw _ (List.mem_of_getElem? (i := 3) rfl)) (hw _ (List.mem_of_getElem? (i := 2) rfl)) (by decide) (by decide)) (g := (mkF m 1 #[.val (.long x1), .second] [(.long x1)])) rfl (by rw [hml]; rfl) (argsL := [(.long x1)]) (rest := []) (lenOf pd_1 rfl) rfl (by show 2 * 0 + _ ≤ _; exact Nat.le_of_eq rfl) (hb hby d5_1) (fun _ _ => ⟨rfl, e0, (by decide : 0 + 0 ≤ _), (by decide : 0 + 0 ≤ _)⟩)
    dsimp only [Pt.U, Pt.locs, Pt.cells, Pt.slots] at X15 l15 y15 z15 st15 hQ15
    subst l15 y15 z15
    obtain ⟨rfl, N15q, e15⟩ := hQ15
    have N15 := Fr.app N0 N15q
    refine own_go st15 ?_
    show own_Goes _ _ _ _ _ _ _ (T15.setTop (mkF m 4 #[.val (.long x1), .second] [(.int (0 : Int32))]))
    refine own_go (fun _ ww => XS.ifYes X15.here hx rfl (pc0 := 4) (pc' := 11) rfl (hb hby d5_4) rfl (own_if .eq (teq (by decide : (0 : Int32) = (0 : Int32))).1) (by decide) (by decide) ww) ?_
    show own_Goes _ _ _ _ _ _ _ (T15.setTop (mkF m 11 #[.val (.long x1), .second] []))
    refine own_go (fun _ ww => XT.lconst X15.here hx rfl (hb hby d5_11) ww) ?_
    show own_Goes _ _ _ _ _ _ _ (T15.setTop (mkF m 12 #[.val (.long x1), .second] [(.long (0 : Int64))]))
    exact own_out X15 hlk (v := some (.long (0 : Int64))) (fun h => by rw [hret] at h; cases h) (fun fs hr => retOut X15 hx (t := .long) hret rfl (Or.inr (Or.inl ⟨rfl, rfl, _, rfl⟩)) (hb hby d5_12) hr) e15 ⟨by rw [hr0 hp], N15, rfl⟩ (by decide) (by decide)
theorem d4_0 : decode prog_14_method_2_code 0 = .ok (.new 8, 3) := by decide +kernel
theorem d4_3 : decode prog_14_method_2_code 3 = .ok (.dup, 1) := by decide +kernel
theorem d4_4 : decode prog_14_method_2_code 4 = .ok (.aload_n 0, 1) := by decide +kernel
theorem d4_5 : decode prog_14_method_2_code 5 = .ok (.getfield 7, 3) := by decide +kernel
theorem d4_8 : decode prog_14_method_2_code 8 = .ok (.lconst 1, 1) := by decide +kernel
theorem d4_9 : decode prog_14_method_2_code 9 = .ok (.ladd, 1) := by decide +kernel
theorem d4_10 : decode prog_14_method_2_code 10 = .ok (.aload_n 0, 1) := by decide +kernel
theorem d4_11 : decode prog_14_method_2_code 11 = .ok (.getfield 13, 3) := by decide +kernel
theorem d4_14 : decode prog_14_method_2_code 14 = .ok (.lload_n 1, 1) := by decide +kernel
theorem d4_15 : decode prog_14_method_2_code 15 = .ok (.invokestatic 16, 3) := by decide +kernel
theorem d4_18 : decode prog_14_method_2_code 18 = .ok (.ladd, 1) := by decide +kernel
theorem d4_19 : decode prog_14_method_2_code 19 = .ok (.invokespecial 20, 3) := by decide +kernel
theorem d4_22 : decode prog_14_method_2_code 22 = .ok (.areturn, 1) := by decide +kernel
theorem ef_plus (m : MethodId) (o : Addr) (x1 : Int64) (r : Int64) : entryFrame m #[(.ref o), (.long x1)] 3 = mkF m 0 #[.val (.ref o), .val (.long x1), .second] [] := by first | (simp [entryFrame, mkF, argsToLocals, Value.category]; done) | rfl
def Q_plus (Z : State) (o : Addr) (x1 : Int64) (r : Int64) (h0 : Heap) (n0 : Nat) (v : Option Value) (h : Heap) (L : List Loc) : Prop := ∃ b, v = some (.ref b) ∧ Fr n0 L ∧ h0.size ≤ b ∧ Keep h0 h [] ∧ Exa Z h b "com/example/izin/izin/Headcount" ∧ Fld Z h b "com/example/izin/izin/Headcount" "active" "J" (.long ((0 : Int64) + r))
set_option maxRecDepth 65536 in
set_option maxHeartbeats 40000000 in
theorem rm_plus (l : Launch) (Z : State) (a0 : Array Value) (hw : ∀ d ∈ tables_1, d.before a0 Z = true) (ws : List Jvm.Cond) (o : Addr) (x1 : Int64) (r : Int64) (h0 : Heap) (n0 : Nat) (O0 : Old Z n0 h0) (F1 : Fld Z Z.heap o "com/example/izin/izin/Headcount" "participants" "J" (.long (0 : Int64))) (F2 : Fld Z Z.heap o "com/example/izin/izin/Headcount" "active" "J" (.long (0 : Int64))) (hr1 : (0 : Int64) < x1 → r = 1) (hr0 : ¬ ((0 : Int64) < x1) → r = 0) :
    MetFree l (⟨"com/example/izin/izin/Headcount", "plus", "(J)Lcom/example/izin/izin/Headcount;"⟩ : MethodName) (head1 (Jvm.Cond.code (⟨"com/example/izin/izin/Headcount", "plus", "(J)Lcom/example/izin/izin/Headcount;"⟩ : MethodName) prog_14_method_2_code 3 (some (.object "com/example/izin/izin/Headcount")) :: ws) ({ frames := 3, cells := 1, slots := 2, locals := 41 } : Room)) (fun av_ U => av_ = #[(.ref o), (.long x1)] ∧ Z.Warmed39 U.vm ∧ U.heap = h0) (fun _ _ _ _ _ => True) (fun _ U o_ U' => ∃ v L, o_ = .returned v ∧ Q_plus Z o x1 r h0 n0 v U'.heap L ∧ FrameEnd U o_ U' L ({ frames := 3, cells := 1, slots := 2, locals := 41 } : Room).cells ({ frames := 3, cells := 1, slots := 2, locals := 41 } : Room).slots) := by
  refine MetFree.of_bodySF (plainFor_of_name pn_0) hisR ?_
  intro p e s m args below meth c s₁ Bd hml0 hP hK
  obtain ⟨rfl, hZ, hh⟩ := hP
  have hx := Bd.exec
  have hby := Bd.bytes
  have hml : c.maxLocals = 3 := hml0
  have hown : s.vm.findClass "com/example/izin/izin/Headcount" = some m.cls := findClass_of_methodNamed Bd.named
  have hnm := (name_of_methodNamed Bd.named Bd.method).1
  have hlk := own_lk Bd
  have hret := Bd.returns
  have X0 : Stand p l e ({ frames := 3, cells := 1, slots := 2, locals := 41 } : Room) s m #[(.ref o), (.long x1)] below meth c s₁ [] 0 0 := Stand.of_body Bd
  have e0 : s₁.heap = h0 := by rw [← hh, Bd.state]; rfl
  have N0 := Fr.nil n0
  show own_Goes p e below s (Q_plus Z o x1 r h0 n0) ({ frames := 3, cells := 1, slots := 2, locals := 41 } : Room).cells ({ frames := 3, cells := 1, slots := 2, locals := 41 } : Room).slots (s₁.setTop (entryFrame m #[(.ref o), (.long x1)] 3))
  refine own_go (fun _ ww => castTop (ef_plus m o x1 r) ww) ?_
  show own_Goes _ _ _ _ _ _ _ (s₁.setTop (mkF m 0 #[.val (.ref o), .val (.long x1), .second] []))
  obtain ⟨T16, h16, X16, e16, E16, A16, D16, -, st16⟩ := newO X0 hx hZ hown (hw _ (List.mem_of_getElem? (i := 21) rfl)) (hw _ (List.mem_of_getElem? (i := 22) rfl)) (hw _ (List.mem_of_getElem? (i := 2) rfl)) e0 (g := (mkF m 0 #[.val (.ref o), .val (.long x1), .second] [])) rfl (hb hby d4_0) (by decide) (by decide)
  obtain ⟨b16, g16⟩ : ∃ z, z = h0.size := ⟨_, rfl⟩
  rw [← g16] at A16 D16 st16
  have ne_o_b16 : o ≠ b16 := Nat.ne_of_lt (Nat.lt_of_lt_of_le (F1.ext O0.2).lt (Nat.le_of_eq g16.symm))
  have g_b16 : n0 ≤ b16 := Nat.le_trans (O0.1 ▸ O0.2.1) (Nat.le_of_eq g16.symm)
  have O16 := O0.ext E16
  have sz_b16 : h0.size ≤ b16 := Nat.le_trans (own_ks (Keep.refl h0 [])) (Nat.le_of_eq g16.symm)
  have K16 := (Keep.refl h0 []).ext E16
  have f17 : Fld Z h16 b16 "com/example/izin/izin/Headcount" "participants" "J" (.long (0 : Int64)) := D16 (Or.inr (hw _ (List.mem_of_getElem? (i := 24) rfl))) (ty := .long) (by decide)
  have f18 : Fld Z h16 b16 "com/example/izin/izin/Headcount" "active" "J" (.long (0 : Int64)) := D16 (Or.inr (hw _ (List.mem_of_getElem? (i := 26) rfl))) (ty := .long) (by decide)
  refine own_go st16 ?_
  show own_Goes _ _ _ _ _ _ _ (T16.setTop (mkF m 3 #[.val (.ref o), .val (.long x1), .second] [(.ref b16)]))
  refine own_go (fun _ ww => XS.dup X16.here hx rfl (hb hby d4_3) rfl rfl ww) ?_
  show own_Goes _ _ _ _ _ _ _ (T16.setTop (mkF m 4 #[.val (.ref o), .val (.long x1), .second] [(.ref b16), (.ref b16)]))
  refine own_go (fun _ ww => XS.aloadN X16.here hx rfl (hb hby d4_4) rfl rfl ww) ?_
  show own_Goes _ _ _ _ _ _ _ (T16.setTop (mkF m 5 #[.val (.ref o), .val (.long x1), .second] [(.ref o), (.ref b16), (.ref b16)]))
  obtain ⟨T19, X19, e19, st19⟩ := getF X16 hx hZ hown (host := "") (Or.inl (hw _ (List.mem_of_getElem? (i := 23) rfl))) Via.refl e16 (F1.ext O16.2) (g := (mkF m 5 #[.val (.ref o), .val (.long x1), .second] [(.ref o), (.ref b16), (.ref b16)])) rfl rfl (hb hby d4_5)
  refine own_go st19 ?_
  show own_Goes _ _ _ _ _ _ _ (T19.setTop (mkF m 8 #[.val (.ref o), .val (.long x1), .second] [(.long (0 : Int64)), (.ref b16), (.ref b16)]))
  refine own_go (fun _ ww => XT.lconst X19.here hx rfl (hb hby d4_8) ww) ?_
  show own_Goes _ _ _ _ _ _ _ (T19.setTop (mkF m 9 #[.val (.ref o), .val (.long x1), .second] [(.long (1 : Int64)), (.long (0 : Int64)), (.ref b16), (.ref b16)]))
  refine own_go (fun _ ww => XT.ladd X19.here hx rfl (hb hby d4_9) rfl ww) ?_
  show own_Goes _ _ _ _ _ _ _ (T19.setTop (mkF m 10 #[.val (.ref o), .val (.long x1), .second] [(.long ((0 : Int64) + (1 : Int64))), (.ref b16), (.ref b16)]))
  rw [(by decide : ((0 : Int64) + (1 : Int64)) = (1 : Int64))]
  show own_Goes _ _ _ _ _ _ _ (T19.setTop (mkF m 10 #[.val (.ref o), .val (.long x1), .second] [(.long (1 : Int64)), (.ref b16), (.ref b16)]))
  refine own_go (fun _ ww => XS.aloadN X19.here hx rfl (hb hby d4_10) rfl rfl ww) ?_
  show own_Goes _ _ _ _ _ _ _ (T19.setTop (mkF m 11 #[.val (.ref o), .val (.long x1), .second] [(.ref o), (.long (1 : Int64)), (.ref b16), (.ref b16)]))
  obtain ⟨T20, X20, e20, st20⟩ := getF X19 hx hZ hown (host := "") (Or.inl (hw _ (List.mem_of_getElem? (i := 25) rfl))) Via.refl e19 (F2.ext O16.2) (g := (mkF m 11 #[.val (.ref o), .val (.long x1), .second] [(.ref o), (.long (1 : Int64)), (.ref b16), (.ref b16)])) rfl rfl (hb hby d4_11)
  refine own_go st20 ?_
  show own_Goes _ _ _ _ _ _ _ (T20.setTop (mkF m 14 #[.val (.ref o), .val (.long x1), .second] [(.long (0 : Int64)), (.long (1 : Int64)), (.ref b16), (.ref b16)]))
  refine own_go (fun _ ww => XT.lloadN X20.here hx rfl (hb hby d4_14) rfl  ww) ?_
  show own_Goes _ _ _ _ _ _ _ (T20.setTop (mkF m 15 #[.val (.ref o), .val (.long x1), .second] [(.long x1), (.long (0 : Int64)), (.long (1 : Int64)), (.ref b16), (.ref b16)]))
  obtain ⟨_, _, ⟨T21, L21, k21, n21⟩, -, X21, ⟨Lc21, hQ21, l21, y21, z21⟩, st21⟩ := Jvm.LawKit.callS X20 hx (y := (⟨"com/example/izin/izin/Headcount", "activeCount", "(J)J"⟩ : MethodName)) hown (mvT hZ (hw _ (List.mem_of_getElem? (i := 27) rfl))) (mvT hZ (hw _ (List.mem_of_getElem? (i := 28) rfl))) (mvT hZ (hw _ (List.mem_of_getElem? (i := 2) rfl))) (mvT hZ (hw _ (List.mem_of_getElem? (i := 29) rfl))) (by decide) (backOf (W := 6) (rm_cnt l Z a0 hw [] x1 r h16 n0 O16 hr1 hr0) hZ (hw _ (List.mem_of_getElem? (i := 29) rfl)) (hw _ (List.mem_of_getElem? (i := 2) rfl)) (by decide) (by decide)) (g := (mkF m 15 #[.val (.ref o), .val (.long x1), .second] [(.long x1), (.long (0 : Int64)), (.long (1 : Int64)), (.ref b16), (.ref b16)])) rfl (by rw [hml]; rfl) (argsL := [(.long x1)]) (rest := [(.long (0 : Int64)), (.long (1 : Int64)), (.ref b16), (.ref b16)]) (lenOf pd_2 rfl) rfl (by show 2 * 0 + _ ≤ _; exact Nat.le_of_eq rfl) (hb hby d4_15) (fun _ _ => ⟨rfl, e20, (by decide : 1 + 0 ≤ _), (by decide : 2 + 0 ≤ _)⟩)
  dsimp only [Pt.U, Pt.locs, Pt.cells, Pt.slots] at X21 l21 y21 z21 st21 hQ21
  subst l21 y21 z21
  obtain ⟨rfl, N21q, e21⟩ := hQ21
  have N21 := Fr.app N0 N21q
  refine own_go st21 ?_
  show own_Goes _ _ _ _ _ _ _ (T21.setTop (mkF m 18 #[.val (.ref o), .val (.long x1), .second] [(.long r), (.long (0 : Int64)), (.long (1 : Int64)), (.ref b16), (.ref b16)]))
  refine own_go (fun _ ww => XT.ladd X21.here hx rfl (hb hby d4_18) rfl ww) ?_
  show own_Goes _ _ _ _ _ _ _ (T21.setTop (mkF m 19 #[.val (.ref o), .val (.long x1), .second] [(.long ((0 : Int64) + r)), (.long (1 : Int64)), (.ref b16), (.ref b16)]))
  obtain ⟨_, _, ⟨T22, L22, k22, n22⟩, -, X22, ⟨Lc22, hQ22, l22, y22, z22⟩, st22⟩ := X21.specialBack hx (y := (⟨"com/example/izin/izin/Headcount", "<init>", "(JJ)V"⟩ : MethodName)) rfl hown (mvT hZ (hw _ (List.mem_of_getElem? (i := 31) rfl))) (mvT hZ (hw _ (List.mem_of_getElem? (i := 32) rfl))) (mvT hZ (hw _ (List.mem_of_getElem? (i := 33) rfl))) (by decide) (backOf (W := 1) (rm_init l Z a0 hw [] b16 (1 : Int64) ((0 : Int64) + r) h16 n0 O16 f17 f18 A16 g_b16) hZ (hw _ (List.mem_of_getElem? (i := 33) rfl)) (hw _ (List.mem_of_getElem? (i := 2) rfl)) (by decide) (by decide)) (g := (mkF m 19 #[.val (.ref o), .val (.long x1), .second] [(.long ((0 : Int64) + r)), (.long (1 : Int64)), (.ref b16), (.ref b16)])) rfl (by rw [hml]; rfl) (Steps.refl _) (a := b16) (argsL := [(.long (1 : Int64)), (.long ((0 : Int64) + r))]) (rest := [(.ref b16)]) (lenOf pd_3 rfl) rfl (by show 2 * 0 + _ ≤ _; exact Nat.le_of_eq rfl) (hb hby d4_19) (fun _ _ => ⟨rfl, e21, (by decide : 1 + 0 ≤ _), (by decide : 2 + 0 ≤ _)⟩)
  dsimp only [Pt.U, Pt.locs, Pt.cells, Pt.slots] at X22 l22 y22 z22 st22 hQ22
  subst l22 y22 z22
  obtain ⟨rfl, N22q, K22q, P22, A22q⟩ := hQ22
  have N22 := Fr.app N21 N22q
  have f23 : Exa Z T22.heap b16 "com/example/izin/izin/Headcount" := (A16.keep K22q)
  have O22 := O16.keep K22q (allS g_b16 all0)
  have K22 := K16.trans K22q (allS (Or.inr sz_b16) all0)
  refine own_go (fun _ ww => Steps.trans st22 ww) ?_
  show own_Goes _ _ _ _ _ _ _ (T22.setTop (mkF m 22 #[.val (.ref o), .val (.long x1), .second] [(.ref b16)]))
  exact own_out X22 hlk (v := some (.ref b16)) (fun h => by rw [hret] at h; cases h) (fun fs hr => retOut X22 hx (t := (.object "com/example/izin/izin/Headcount")) hret rfl (Or.inr (Or.inr (Or.inr (Or.inr ⟨rfl, rfl, rfl⟩)))) (hb hby d4_22) hr) rfl ⟨_, rfl, N22, sz_b16, K22, f23, A22q⟩ (by decide) (by decide)
theorem d9_0 : decode prog_14_method_10_code 0 = .ok (.aload_n 0, 1) := by decide +kernel
theorem d9_1 : decode prog_14_method_10_code 1 = .ok (.getfield 13, 3) := by decide +kernel
theorem d9_4 : decode prog_14_method_10_code 4 = .ok (.lreturn, 1) := by decide +kernel
theorem ef_active (m : MethodId) (a : Addr) (x1 : Int64) : entryFrame m #[(.ref a)] 1 = mkF m 0 #[.val (.ref a)] [] := by first | (simp [entryFrame, mkF, argsToLocals, Value.category]; done) | rfl
def Q_active (Z : State) (a : Addr) (x1 : Int64) (h0 : Heap) (n0 : Nat) (v : Option Value) (h : Heap) (L : List Loc) : Prop := v = some (.long x1) ∧ Fr n0 L ∧ h = h0
set_option maxRecDepth 65536 in
set_option maxHeartbeats 40000000 in
theorem rm_active (l : Launch) (Z : State) (a0 : Array Value) (hw : ∀ d ∈ tables_1, d.before a0 Z = true) (ws : List Jvm.Cond) (a : Addr) (x1 : Int64) (h0 : Heap) (n0 : Nat) (O0 : Old Z n0 h0) (Fa : Fld Z h0 a "com/example/izin/izin/Headcount" "active" "J" (.long x1)) :
    MetFree l (⟨"com/example/izin/izin/Headcount", "active", "()J"⟩ : MethodName) (head1 (Jvm.Cond.code (⟨"com/example/izin/izin/Headcount", "active", "()J"⟩ : MethodName) prog_14_method_10_code 1 (some .long) :: ws) ({ frames := 0, cells := 0, slots := 0, locals := 0 } : Room)) (fun av_ U => av_ = #[(.ref a)] ∧ Z.Warmed39 U.vm ∧ U.heap = h0) (fun _ _ _ _ _ => True) (fun _ U o_ U' => ∃ v L, o_ = .returned v ∧ Q_active Z a x1 h0 n0 v U'.heap L ∧ FrameEnd U o_ U' L ({ frames := 0, cells := 0, slots := 0, locals := 0 } : Room).cells ({ frames := 0, cells := 0, slots := 0, locals := 0 } : Room).slots) := by
  refine MetFree.of_bodySF (plainFor_of_name pn_0) hisR ?_
  intro p e s m args below meth c s₁ Bd hml0 hP hK
  obtain ⟨rfl, hZ, hh⟩ := hP
  have hx := Bd.exec
  have hby := Bd.bytes
  have hml : c.maxLocals = 1 := hml0
  have hown : s.vm.findClass "com/example/izin/izin/Headcount" = some m.cls := findClass_of_methodNamed Bd.named
  have hnm := (name_of_methodNamed Bd.named Bd.method).1
  have hlk := own_lk Bd
  have hret := Bd.returns
  have X0 : Stand p l e ({ frames := 0, cells := 0, slots := 0, locals := 0 } : Room) s m #[(.ref a)] below meth c s₁ [] 0 0 := Stand.of_body Bd
  have e0 : s₁.heap = h0 := by rw [← hh, Bd.state]; rfl
  have N0 := Fr.nil n0
  show own_Goes p e below s (Q_active Z a x1 h0 n0) ({ frames := 0, cells := 0, slots := 0, locals := 0 } : Room).cells ({ frames := 0, cells := 0, slots := 0, locals := 0 } : Room).slots (s₁.setTop (entryFrame m #[(.ref a)] 1))
  refine own_go (fun _ ww => castTop (ef_active m a x1) ww) ?_
  show own_Goes _ _ _ _ _ _ _ (s₁.setTop (mkF m 0 #[.val (.ref a)] []))
  refine own_go (fun _ ww => XS.aloadN X0.here hx rfl (hb hby d9_0) rfl rfl ww) ?_
  show own_Goes _ _ _ _ _ _ _ (s₁.setTop (mkF m 1 #[.val (.ref a)] [(.ref a)]))
  obtain ⟨T24, X24, e24, st24⟩ := getF X0 hx hZ hown (host := "") (Or.inl (hw _ (List.mem_of_getElem? (i := 25) rfl))) Via.refl e0 Fa (g := (mkF m 1 #[.val (.ref a)] [(.ref a)])) rfl rfl (hb hby d9_1)
  refine own_go st24 ?_
  show own_Goes _ _ _ _ _ _ _ (T24.setTop (mkF m 4 #[.val (.ref a)] [(.long x1)]))
  exact own_out X24 hlk (v := some (.long x1)) (fun h => by rw [hret] at h; cases h) (fun fs hr => retOut X24 hx (t := .long) hret rfl (Or.inr (Or.inl ⟨rfl, rfl, _, rfl⟩)) (hb hby d9_4) hr) e24 ⟨rfl, N0, rfl⟩ (by decide) (by decide)
theorem own_ge1 {x : Int64} (h : (0 : Int64) < x) : ¬ XT.cmpL x 1 < 0 := fun q => by
  rw [own_cl_lt, Int64.lt_iff_toInt_lt] at q
  rw [Int64.lt_iff_toInt_lt] at h
  have e0 : (0 : Int64).toInt = 0 := rfl
  have e1 : (1 : Int64).toInt = 1 := rfl
  omega
theorem own_lt1 {x : Int64} (h : ¬ (0 : Int64) < x) : XT.cmpL x 1 < 0 := by
  rw [own_cl_lt, Int64.lt_iff_toInt_lt]
  rw [Int64.lt_iff_toInt_lt] at h
  have e0 : (0 : Int64).toInt = 0 := rfl
  have e1 : (1 : Int64).toInt = 1 := rfl
  omega
theorem own_mm (x y : Int64) : ∃ lo hi : Int64, (y < x → lo = y) ∧ (¬ y < x → lo = x) ∧ (x < y → hi = y) ∧ (¬ x < y → hi = x) ∧ ((0 : Int64) < lo → (0 : Int64) < hi) := by
  refine ⟨if y < x then y else x, if x < y then y else x, fun h => if_pos h, fun h => if_neg h, fun h => if_pos h, fun h => if_neg h, ?_⟩
  intro h
  by_cases h1 : y < x
  · have h2 : ¬ x < y := fun q => by rw [Int64.lt_iff_toInt_lt] at h1 q; omega
    rw [if_pos h1] at h
    rw [if_neg h2]
    rw [Int64.lt_iff_toInt_lt] at h h1 ⊢
    omega
  · rw [if_neg h1] at h
    by_cases h2 : x < y
    · rw [if_pos h2]
      rw [Int64.lt_iff_toInt_lt] at h h2 ⊢
      omega
    · rw [if_neg h2]; exact h
theorem ef_law (m : MethodId) (x1 : Int64) (x2 : Int64) (aN : Addr) : entryFrame m #[(.long x1), (.long x2)] maxLocals = mkF m 0 #[.val (.long x1), .second, .val (.long x2), .second, .unset, .unset, .unset, .unset, .unset, .unset, .unset, .unset, .unset, .unset] [] := by first | (simp [entryFrame, mkF, argsToLocals, Value.category, maxLocals]; done) | rfl
def Q_law (Z : State) (x1 : Int64) (x2 : Int64) (aN : Addr) (h0 : Heap) (n0 : Nat) (v : Option Value) (h : Heap) (L : List Loc) : Prop := v = some (.int 1) ∧ Fr n0 L
set_option maxRecDepth 65536 in
set_option maxHeartbeats 40000000 in
theorem rm_law (l : Launch) (Z : State) (a0 : Array Value) (hw : ∀ d ∈ tables_1, d.before a0 Z = true) (ws : List Jvm.Cond) (x1 : Int64) (x2 : Int64) (aN : Addr) (h0 : Heap) (n0 : Nat) (O0 : Old Z n0 h0) (SN : Sta Z Z.heap "com/example/izin/izin/Headcount" "NONE" "Lcom/example/izin/izin/Headcount;" (.ref aN)) (EN : Exa Z Z.heap aN "com/example/izin/izin/Headcount") (F1 : Fld Z Z.heap aN "com/example/izin/izin/Headcount" "participants" "J" (.long (0 : Int64))) (F2 : Fld Z Z.heap aN "com/example/izin/izin/Headcount" "active" "J" (.long (0 : Int64))) :
    MetFree l x (head1 (Jvm.Cond.code x code maxLocals ret :: ws) room_1) (fun av_ U => av_ = #[(.long x1), (.long x2)] ∧ Z.Warmed39 U.vm ∧ U.heap = h0) (fun _ _ _ _ _ => True) (fun _ U o_ U' => ∃ v L, o_ = .returned v ∧ Q_law Z x1 x2 aN h0 n0 v U'.heap L ∧ FrameEnd U o_ U' L room_1.cells room_1.slots) := by
  refine MetFree.of_bodySF (plainFor_of_name pn_2) hisR ?_
  intro p e s m args below meth c s₁ Bd hml0 hP hK
  obtain ⟨rfl, hZ, hh⟩ := hP
  have hx := Bd.exec
  have hby := Bd.bytes
  have hml : c.maxLocals = 14 := hml0
  have hown : s.vm.findClass "com/example/izin/izin/HeadcountIsActivePinLaw" = some m.cls := findClass_of_methodNamed Bd.named
  have hnm := (name_of_methodNamed Bd.named Bd.method).1
  have hlk := own_lk Bd
  have hret := Bd.returns
  have X0 : Stand p l e room_1 s m #[(.long x1), (.long x2)] below meth c s₁ [] 0 0 := Stand.of_body Bd
  have e0 : s₁.heap = h0 := by rw [← hh, Bd.state]; rfl
  have N0 := Fr.nil n0
  show own_Goes p e below s (Q_law Z x1 x2 aN h0 n0) room_1.cells room_1.slots (s₁.setTop (entryFrame m #[(.long x1), (.long x2)] maxLocals))
  refine own_go (fun _ ww => castTop (ef_law m x1 x2 aN) ww) ?_
  show own_Goes _ _ _ _ _ _ _ (s₁.setTop (mkF m 0 #[.val (.long x1), .second, .val (.long x2), .second, .unset, .unset, .unset, .unset, .unset, .unset, .unset, .unset, .unset, .unset] []))
  by_cases hp : (0 : Int64) < x1
  ·
    show own_Goes _ _ _ _ _ _ _ (s₁.setTop (mkF m 0 #[.val (.long x1), .second, .val (.long x2), .second, .unset, .unset, .unset, .unset, .unset, .unset, .unset, .unset, .unset, .unset] []))
    refine own_go (fun _ ww => XT.lloadN X0.here hx rfl (hb hby at_0) rfl  ww) ?_
    show own_Goes _ _ _ _ _ _ _ (s₁.setTop (mkF m 1 #[.val (.long x1), .second, .val (.long x2), .second, .unset, .unset, .unset, .unset, .unset, .unset, .unset, .unset, .unset, .unset] [(.long x1)]))
    obtain ⟨_, _, ⟨T25, L25, k25, n25⟩, -, X25, ⟨Lc25, hQ25, l25, y25, z25⟩, st25⟩ := Jvm.LawKit.callS X0 hx (y := (⟨"com/example/izin/izin/Headcount", "isActive", "(J)Z"⟩ : MethodName)) hown (mvT hZ (hw _ (List.mem_of_getElem? (i := 0) rfl))) (mvT hZ (hw _ (List.mem_of_getElem? (i := 1) rfl))) (mvT hZ (hw _ (List.mem_of_getElem? (i := 2) rfl))) (mvT hZ (hw _ (List.mem_of_getElem? (i := 3) rfl))) (by decide) (backOf (W := 0) (rm_act l Z a0 hw [] x1 (1 : Int32) h0 n0 O0 (fun _ => rfl) (fun q => absurd hp q)) hZ (hw _ (List.mem_of_getElem? (i := 3) rfl)) (hw _ (List.mem_of_getElem? (i := 2) rfl)) (by decide) (by decide)) (g := (mkF m 1 #[.val (.long x1), .second, .val (.long x2), .second, .unset, .unset, .unset, .unset, .unset, .unset, .unset, .unset, .unset, .unset] [(.long x1)])) rfl (by rw [hml]; rfl) (argsL := [(.long x1)]) (rest := []) (lenOf pd_1 rfl) rfl (by show 2 * 0 + _ ≤ _; exact Nat.le_of_eq rfl) (hb hby at_1) (fun _ _ => ⟨rfl, e0, (by decide : 0 + 0 ≤ _), (by decide : 0 + 0 ≤ _)⟩)
    dsimp only [Pt.U, Pt.locs, Pt.cells, Pt.slots] at X25 l25 y25 z25 st25 hQ25
    subst l25 y25 z25
    obtain ⟨rfl, N25q, e25⟩ := hQ25
    have N25 := Fr.app N0 N25q
    refine own_go st25 ?_
    show own_Goes _ _ _ _ _ _ _ (T25.setTop (mkF m 4 #[.val (.long x1), .second, .val (.long x2), .second, .unset, .unset, .unset, .unset, .unset, .unset, .unset, .unset, .unset, .unset] [(.int (1 : Int32))]))
    refine own_go (fun _ ww => XS.istore X25.here hx rfl (hb hby at_4) rfl (l' := #[.val (.long x1), .second, .val (.long x2), .second, .val (.int (1 : Int32)), .unset, .unset, .unset, .unset, .unset, .unset, .unset, .unset, .unset]) rfl ww) ?_
    show own_Goes _ _ _ _ _ _ _ (T25.setTop (mkF m 6 #[.val (.long x1), .second, .val (.long x2), .second, .val (.int (1 : Int32)), .unset, .unset, .unset, .unset, .unset, .unset, .unset, .unset, .unset] []))
    refine own_go (fun _ ww => XT.lloadN X25.here hx rfl (hb hby at_6) rfl  ww) ?_
    show own_Goes _ _ _ _ _ _ _ (T25.setTop (mkF m 7 #[.val (.long x1), .second, .val (.long x2), .second, .val (.int (1 : Int32)), .unset, .unset, .unset, .unset, .unset, .unset, .unset, .unset, .unset] [(.long x1)]))
    refine own_go (fun _ ww => XT.lconst X25.here hx rfl (hb hby at_7) ww) ?_
    show own_Goes _ _ _ _ _ _ _ (T25.setTop (mkF m 8 #[.val (.long x1), .second, .val (.long x2), .second, .val (.int (1 : Int32)), .unset, .unset, .unset, .unset, .unset, .unset, .unset, .unset, .unset] [(.long (1 : Int64)), (.long x1)]))
    refine own_go (fun _ ww => XT.lcmp X25.here hx rfl (hb hby at_8) rfl ww) ?_
    show own_Goes _ _ _ _ _ _ _ (T25.setTop (mkF m 9 #[.val (.long x1), .second, .val (.long x2), .second, .val (.int (1 : Int32)), .unset, .unset, .unset, .unset, .unset, .unset, .unset, .unset, .unset] [(.int (XT.cmpL x1 (1 : Int64)))]))
    refine own_go (fun _ ww => XS.ifNo X25.here hx rfl (hb hby at_9) rfl (own_if .lt (flt (own_ge1 hp)).1) ww) ?_
    show own_Goes _ _ _ _ _ _ _ (T25.setTop (mkF m 12 #[.val (.long x1), .second, .val (.long x2), .second, .val (.int (1 : Int32)), .unset, .unset, .unset, .unset, .unset, .unset, .unset, .unset, .unset] []))
    refine own_go (fun _ ww => XS.iconst X25.here hx rfl (hb hby at_12) ww) ?_
    show own_Goes _ _ _ _ _ _ _ (T25.setTop (mkF m 13 #[.val (.long x1), .second, .val (.long x2), .second, .val (.int (1 : Int32)), .unset, .unset, .unset, .unset, .unset, .unset, .unset, .unset, .unset] [(.int (1 : Int32))]))
    refine own_go (fun _ ww => XS.goto X25.here hx rfl (pc0 := 13) (pc' := 17) rfl (hb hby at_13) (by decide) (by decide) ww) ?_
    show own_Goes _ _ _ _ _ _ _ (T25.setTop (mkF m 17 #[.val (.long x1), .second, .val (.long x2), .second, .val (.int (1 : Int32)), .unset, .unset, .unset, .unset, .unset, .unset, .unset, .unset, .unset] [(.int (1 : Int32))]))
    refine own_go (fun _ ww => XS.istore X25.here hx rfl (hb hby at_17) rfl (l' := #[.val (.long x1), .second, .val (.long x2), .second, .val (.int (1 : Int32)), .val (.int (1 : Int32)), .unset, .unset, .unset, .unset, .unset, .unset, .unset, .unset]) rfl ww) ?_
    show own_Goes _ _ _ _ _ _ _ (T25.setTop (mkF m 19 #[.val (.long x1), .second, .val (.long x2), .second, .val (.int (1 : Int32)), .val (.int (1 : Int32)), .unset, .unset, .unset, .unset, .unset, .unset, .unset, .unset] []))
    refine own_go (fun _ ww => XS.iload X25.here hx rfl (hb hby at_19) rfl  ww) ?_
    show own_Goes _ _ _ _ _ _ _ (T25.setTop (mkF m 21 #[.val (.long x1), .second, .val (.long x2), .second, .val (.int (1 : Int32)), .val (.int (1 : Int32)), .unset, .unset, .unset, .unset, .unset, .unset, .unset, .unset] [(.int (1 : Int32))]))
    refine own_go (fun _ ww => XS.iload X25.here hx rfl (hb hby at_21) rfl  ww) ?_
    show own_Goes _ _ _ _ _ _ _ (T25.setTop (mkF m 23 #[.val (.long x1), .second, .val (.long x2), .second, .val (.int (1 : Int32)), .val (.int (1 : Int32)), .unset, .unset, .unset, .unset, .unset, .unset, .unset, .unset] [(.int (1 : Int32)), (.int (1 : Int32))]))
    refine own_go (fun _ ww => XS.icmpYes X25.here hx rfl (pc0 := 23) (pc' := 28) rfl (hb hby at_23) rfl (teq (by decide : (1 : Int32) = (1 : Int32))).1 (by decide) (by decide) ww) ?_
    show own_Goes _ _ _ _ _ _ _ (T25.setTop (mkF m 28 #[.val (.long x1), .second, .val (.long x2), .second, .val (.int (1 : Int32)), .val (.int (1 : Int32)), .unset, .unset, .unset, .unset, .unset, .unset, .unset, .unset] []))
    obtain ⟨lo, hi, mn1, mn0, mx1, mx0, hlh⟩ := own_mm x1 x2
    refine own_go (fun _ ww => XT.lloadN X25.here hx rfl (hb hby at_28) rfl  ww) ?_
    show own_Goes _ _ _ _ _ _ _ (T25.setTop (mkF m 29 #[.val (.long x1), .second, .val (.long x2), .second, .val (.int (1 : Int32)), .val (.int (1 : Int32)), .unset, .unset, .unset, .unset, .unset, .unset, .unset, .unset] [(.long x1)]))
    refine own_go (fun _ ww => XT.lloadN X25.here hx rfl (hb hby at_29) rfl  ww) ?_
    show own_Goes _ _ _ _ _ _ _ (T25.setTop (mkF m 30 #[.val (.long x1), .second, .val (.long x2), .second, .val (.int (1 : Int32)), .val (.int (1 : Int32)), .unset, .unset, .unset, .unset, .unset, .unset, .unset, .unset] [(.long x2), (.long x1)]))
    obtain ⟨_, _, ⟨T26, L26, k26, n26⟩, -, X26, ⟨Lc26, hQ26, l26, y26, z26⟩, st26⟩ := Jvm.LawKit.callS X25 hx (y := (⟨"java/lang/Math", "min", "(JJ)J"⟩ : MethodName)) hown (mvT hZ (hw _ (List.mem_of_getElem? (i := 4) rfl))) (mvT hZ (hw _ (List.mem_of_getElem? (i := 5) rfl))) (mvT hZ (hw _ (List.mem_of_getElem? (i := 6) rfl))) (mvT hZ (hw _ (List.mem_of_getElem? (i := 7) rfl))) (by decide) (backOf (W := 0) (rm_min l Z a0 hw [] x1 x2 lo h0 n0 O0 mn1 mn0) hZ (hw _ (List.mem_of_getElem? (i := 7) rfl)) (hw _ (List.mem_of_getElem? (i := 6) rfl)) (by decide) (by decide)) (g := (mkF m 30 #[.val (.long x1), .second, .val (.long x2), .second, .val (.int (1 : Int32)), .val (.int (1 : Int32)), .unset, .unset, .unset, .unset, .unset, .unset, .unset, .unset] [(.long x2), (.long x1)])) rfl (by rw [hml]; rfl) (argsL := [(.long x1), (.long x2)]) (rest := []) (lenOf pd_4 rfl) rfl (by show 2 * 0 + _ ≤ _; exact Nat.le_of_eq rfl) (hb hby at_30) (fun _ _ => ⟨rfl, e25, (by decide : 0 + 0 ≤ _), (by decide : 0 + 0 ≤ _)⟩)
    dsimp only [Pt.U, Pt.locs, Pt.cells, Pt.slots] at X26 l26 y26 z26 st26 hQ26
    subst l26 y26 z26
    obtain ⟨rfl, N26q, e26⟩ := hQ26
    have N26 := Fr.app N25 N26q
    refine own_go st26 ?_
    show own_Goes _ _ _ _ _ _ _ (T26.setTop (mkF m 33 #[.val (.long x1), .second, .val (.long x2), .second, .val (.int (1 : Int32)), .val (.int (1 : Int32)), .unset, .unset, .unset, .unset, .unset, .unset, .unset, .unset] [(.long lo)]))
    refine own_go (fun _ ww => XT.lstore X26.here hx rfl (hb hby at_33) rfl (l' := #[.val (.long x1), .second, .val (.long x2), .second, .val (.int (1 : Int32)), .val (.int (1 : Int32)), .val (.long lo), .second, .unset, .unset, .unset, .unset, .unset, .unset]) rfl ww) ?_
    show own_Goes _ _ _ _ _ _ _ (T26.setTop (mkF m 35 #[.val (.long x1), .second, .val (.long x2), .second, .val (.int (1 : Int32)), .val (.int (1 : Int32)), .val (.long lo), .second, .unset, .unset, .unset, .unset, .unset, .unset] []))
    refine own_go (fun _ ww => XT.lloadN X26.here hx rfl (hb hby at_35) rfl  ww) ?_
    show own_Goes _ _ _ _ _ _ _ (T26.setTop (mkF m 36 #[.val (.long x1), .second, .val (.long x2), .second, .val (.int (1 : Int32)), .val (.int (1 : Int32)), .val (.long lo), .second, .unset, .unset, .unset, .unset, .unset, .unset] [(.long x1)]))
    refine own_go (fun _ ww => XT.lloadN X26.here hx rfl (hb hby at_36) rfl  ww) ?_
    show own_Goes _ _ _ _ _ _ _ (T26.setTop (mkF m 37 #[.val (.long x1), .second, .val (.long x2), .second, .val (.int (1 : Int32)), .val (.int (1 : Int32)), .val (.long lo), .second, .unset, .unset, .unset, .unset, .unset, .unset] [(.long x2), (.long x1)]))
    obtain ⟨_, _, ⟨T27, L27, k27, n27⟩, -, X27, ⟨Lc27, hQ27, l27, y27, z27⟩, st27⟩ := Jvm.LawKit.callS X26 hx (y := (⟨"java/lang/Math", "max", "(JJ)J"⟩ : MethodName)) hown (mvT hZ (hw _ (List.mem_of_getElem? (i := 8) rfl))) (mvT hZ (hw _ (List.mem_of_getElem? (i := 9) rfl))) (mvT hZ (hw _ (List.mem_of_getElem? (i := 6) rfl))) (mvT hZ (hw _ (List.mem_of_getElem? (i := 10) rfl))) (by decide) (backOf (W := 0) (rm_max l Z a0 hw [] x1 x2 hi h0 n0 O0 mx1 mx0) hZ (hw _ (List.mem_of_getElem? (i := 10) rfl)) (hw _ (List.mem_of_getElem? (i := 6) rfl)) (by decide) (by decide)) (g := (mkF m 37 #[.val (.long x1), .second, .val (.long x2), .second, .val (.int (1 : Int32)), .val (.int (1 : Int32)), .val (.long lo), .second, .unset, .unset, .unset, .unset, .unset, .unset] [(.long x2), (.long x1)])) rfl (by rw [hml]; rfl) (argsL := [(.long x1), (.long x2)]) (rest := []) (lenOf pd_4 rfl) rfl (by show 2 * 0 + _ ≤ _; exact Nat.le_of_eq rfl) (hb hby at_37) (fun _ _ => ⟨rfl, e26, (by decide : 0 + 0 ≤ _), (by decide : 0 + 0 ≤ _)⟩)
    dsimp only [Pt.U, Pt.locs, Pt.cells, Pt.slots] at X27 l27 y27 z27 st27 hQ27
    subst l27 y27 z27
    obtain ⟨rfl, N27q, e27⟩ := hQ27
    have N27 := Fr.app N26 N27q
    refine own_go st27 ?_
    show own_Goes _ _ _ _ _ _ _ (T27.setTop (mkF m 40 #[.val (.long x1), .second, .val (.long x2), .second, .val (.int (1 : Int32)), .val (.int (1 : Int32)), .val (.long lo), .second, .unset, .unset, .unset, .unset, .unset, .unset] [(.long hi)]))
    refine own_go (fun _ ww => XT.lstore X27.here hx rfl (hb hby at_40) rfl (l' := #[.val (.long x1), .second, .val (.long x2), .second, .val (.int (1 : Int32)), .val (.int (1 : Int32)), .val (.long lo), .second, .val (.long hi), .second, .unset, .unset, .unset, .unset]) rfl ww) ?_
    show own_Goes _ _ _ _ _ _ _ (T27.setTop (mkF m 42 #[.val (.long x1), .second, .val (.long x2), .second, .val (.int (1 : Int32)), .val (.int (1 : Int32)), .val (.long lo), .second, .val (.long hi), .second, .unset, .unset, .unset, .unset] []))
    refine own_go (fun _ ww => XT.lload X27.here hx rfl (hb hby at_42) rfl  ww) ?_
    show own_Goes _ _ _ _ _ _ _ (T27.setTop (mkF m 44 #[.val (.long x1), .second, .val (.long x2), .second, .val (.int (1 : Int32)), .val (.int (1 : Int32)), .val (.long lo), .second, .val (.long hi), .second, .unset, .unset, .unset, .unset] [(.long lo)]))
    by_cases hl : (0 : Int64) < lo
    ·
      have hh := hlh hl
      show own_Goes _ _ _ _ _ _ _ (T27.setTop (mkF m 44 #[.val (.long x1), .second, .val (.long x2), .second, .val (.int (1 : Int32)), .val (.int (1 : Int32)), .val (.long lo), .second, .val (.long hi), .second, .unset, .unset, .unset, .unset] [(.long lo)]))
      obtain ⟨_, _, ⟨T28, L28, k28, n28⟩, -, X28, ⟨Lc28, hQ28, l28, y28, z28⟩, st28⟩ := Jvm.LawKit.callS X27 hx (y := (⟨"com/example/izin/izin/Headcount", "isActive", "(J)Z"⟩ : MethodName)) hown (mvT hZ (hw _ (List.mem_of_getElem? (i := 0) rfl))) (mvT hZ (hw _ (List.mem_of_getElem? (i := 1) rfl))) (mvT hZ (hw _ (List.mem_of_getElem? (i := 2) rfl))) (mvT hZ (hw _ (List.mem_of_getElem? (i := 3) rfl))) (by decide) (backOf (W := 0) (rm_act l Z a0 hw [] lo (1 : Int32) h0 n0 O0 (fun _ => rfl) (fun q => absurd hl q)) hZ (hw _ (List.mem_of_getElem? (i := 3) rfl)) (hw _ (List.mem_of_getElem? (i := 2) rfl)) (by decide) (by decide)) (g := (mkF m 44 #[.val (.long x1), .second, .val (.long x2), .second, .val (.int (1 : Int32)), .val (.int (1 : Int32)), .val (.long lo), .second, .val (.long hi), .second, .unset, .unset, .unset, .unset] [(.long lo)])) rfl (by rw [hml]; rfl) (argsL := [(.long lo)]) (rest := []) (lenOf pd_1 rfl) rfl (by show 2 * 0 + _ ≤ _; exact Nat.le_of_eq rfl) (hb hby at_44) (fun _ _ => ⟨rfl, e27, (by decide : 0 + 0 ≤ _), (by decide : 0 + 0 ≤ _)⟩)
      dsimp only [Pt.U, Pt.locs, Pt.cells, Pt.slots] at X28 l28 y28 z28 st28 hQ28
      subst l28 y28 z28
      obtain ⟨rfl, N28q, e28⟩ := hQ28
      have N28 := Fr.app N27 N28q
      refine own_go st28 ?_
      show own_Goes _ _ _ _ _ _ _ (T28.setTop (mkF m 47 #[.val (.long x1), .second, .val (.long x2), .second, .val (.int (1 : Int32)), .val (.int (1 : Int32)), .val (.long lo), .second, .val (.long hi), .second, .unset, .unset, .unset, .unset] [(.int (1 : Int32))]))
      refine own_go (fun _ ww => XS.ifNo X28.here hx rfl (hb hby at_47) rfl (own_if .eq (feq (by decide : ¬ ((1 : Int32) = (0 : Int32)))).1) ww) ?_
      show own_Goes _ _ _ _ _ _ _ (T28.setTop (mkF m 50 #[.val (.long x1), .second, .val (.long x2), .second, .val (.int (1 : Int32)), .val (.int (1 : Int32)), .val (.long lo), .second, .val (.long hi), .second, .unset, .unset, .unset, .unset] []))
      refine own_go (fun _ ww => XT.lload X28.here hx rfl (hb hby at_50) rfl  ww) ?_
      show own_Goes _ _ _ _ _ _ _ (T28.setTop (mkF m 52 #[.val (.long x1), .second, .val (.long x2), .second, .val (.int (1 : Int32)), .val (.int (1 : Int32)), .val (.long lo), .second, .val (.long hi), .second, .unset, .unset, .unset, .unset] [(.long hi)]))
      obtain ⟨_, _, ⟨T29, L29, k29, n29⟩, -, X29, ⟨Lc29, hQ29, l29, y29, z29⟩, st29⟩ := Jvm.LawKit.callS X28 hx (y := (⟨"com/example/izin/izin/Headcount", "isActive", "(J)Z"⟩ : MethodName)) hown (mvT hZ (hw _ (List.mem_of_getElem? (i := 0) rfl))) (mvT hZ (hw _ (List.mem_of_getElem? (i := 1) rfl))) (mvT hZ (hw _ (List.mem_of_getElem? (i := 2) rfl))) (mvT hZ (hw _ (List.mem_of_getElem? (i := 3) rfl))) (by decide) (backOf (W := 0) (rm_act l Z a0 hw [] hi (1 : Int32) h0 n0 O0 (fun _ => rfl) (fun q => absurd hh q)) hZ (hw _ (List.mem_of_getElem? (i := 3) rfl)) (hw _ (List.mem_of_getElem? (i := 2) rfl)) (by decide) (by decide)) (g := (mkF m 52 #[.val (.long x1), .second, .val (.long x2), .second, .val (.int (1 : Int32)), .val (.int (1 : Int32)), .val (.long lo), .second, .val (.long hi), .second, .unset, .unset, .unset, .unset] [(.long hi)])) rfl (by rw [hml]; rfl) (argsL := [(.long hi)]) (rest := []) (lenOf pd_1 rfl) rfl (by show 2 * 0 + _ ≤ _; exact Nat.le_of_eq rfl) (hb hby at_52) (fun _ _ => ⟨rfl, e28, (by decide : 0 + 0 ≤ _), (by decide : 0 + 0 ≤ _)⟩)
      dsimp only [Pt.U, Pt.locs, Pt.cells, Pt.slots] at X29 l29 y29 z29 st29 hQ29
      subst l29 y29 z29
      obtain ⟨rfl, N29q, e29⟩ := hQ29
      have N29 := Fr.app N28 N29q
      refine own_go st29 ?_
      show own_Goes _ _ _ _ _ _ _ (T29.setTop (mkF m 55 #[.val (.long x1), .second, .val (.long x2), .second, .val (.int (1 : Int32)), .val (.int (1 : Int32)), .val (.long lo), .second, .val (.long hi), .second, .unset, .unset, .unset, .unset] [(.int (1 : Int32))]))
      refine own_go (fun _ ww => XS.ifYes X29.here hx rfl (pc0 := 55) (pc' := 60) rfl (hb hby at_55) rfl (own_if .ne (feq (by decide : ¬ ((1 : Int32) = (0 : Int32)))).2) (by decide) (by decide) ww) ?_
      show own_Goes _ _ _ _ _ _ _ (T29.setTop (mkF m 60 #[.val (.long x1), .second, .val (.long x2), .second, .val (.int (1 : Int32)), .val (.int (1 : Int32)), .val (.long lo), .second, .val (.long hi), .second, .unset, .unset, .unset, .unset] []))
      refine own_go (fun _ ww => XT.lconst X29.here hx rfl (hb hby at_60) ww) ?_
      show own_Goes _ _ _ _ _ _ _ (T29.setTop (mkF m 61 #[.val (.long x1), .second, .val (.long x2), .second, .val (.int (1 : Int32)), .val (.int (1 : Int32)), .val (.long lo), .second, .val (.long hi), .second, .unset, .unset, .unset, .unset] [(.long (0 : Int64))]))
      obtain ⟨_, _, ⟨T30, L30, k30, n30⟩, -, X30, ⟨Lc30, hQ30, l30, y30, z30⟩, st30⟩ := Jvm.LawKit.callS X29 hx (y := (⟨"com/example/izin/izin/Headcount", "isActive", "(J)Z"⟩ : MethodName)) hown (mvT hZ (hw _ (List.mem_of_getElem? (i := 0) rfl))) (mvT hZ (hw _ (List.mem_of_getElem? (i := 1) rfl))) (mvT hZ (hw _ (List.mem_of_getElem? (i := 2) rfl))) (mvT hZ (hw _ (List.mem_of_getElem? (i := 3) rfl))) (by decide) (backOf (W := 0) (rm_act l Z a0 hw [] (0 : Int64) (0 : Int32) h0 n0 O0 (by decide) (by decide)) hZ (hw _ (List.mem_of_getElem? (i := 3) rfl)) (hw _ (List.mem_of_getElem? (i := 2) rfl)) (by decide) (by decide)) (g := (mkF m 61 #[.val (.long x1), .second, .val (.long x2), .second, .val (.int (1 : Int32)), .val (.int (1 : Int32)), .val (.long lo), .second, .val (.long hi), .second, .unset, .unset, .unset, .unset] [(.long (0 : Int64))])) rfl (by rw [hml]; rfl) (argsL := [(.long (0 : Int64))]) (rest := []) (lenOf pd_1 rfl) rfl (by show 2 * 0 + _ ≤ _; exact Nat.le_of_eq rfl) (hb hby at_61) (fun _ _ => ⟨rfl, e29, (by decide : 0 + 0 ≤ _), (by decide : 0 + 0 ≤ _)⟩)
      dsimp only [Pt.U, Pt.locs, Pt.cells, Pt.slots] at X30 l30 y30 z30 st30 hQ30
      subst l30 y30 z30
      obtain ⟨rfl, N30q, e30⟩ := hQ30
      have N30 := Fr.app N29 N30q
      refine own_go st30 ?_
      show own_Goes _ _ _ _ _ _ _ (T30.setTop (mkF m 64 #[.val (.long x1), .second, .val (.long x2), .second, .val (.int (1 : Int32)), .val (.int (1 : Int32)), .val (.long lo), .second, .val (.long hi), .second, .unset, .unset, .unset, .unset] [(.int (0 : Int32))]))
      refine own_go (fun _ ww => XS.ifYes X30.here hx rfl (pc0 := 64) (pc' := 69) rfl (hb hby at_64) rfl (own_if .eq (teq (by decide : (0 : Int32) = (0 : Int32))).1) (by decide) (by decide) ww) ?_
      show own_Goes _ _ _ _ _ _ _ (T30.setTop (mkF m 69 #[.val (.long x1), .second, .val (.long x2), .second, .val (.int (1 : Int32)), .val (.int (1 : Int32)), .val (.long lo), .second, .val (.long hi), .second, .unset, .unset, .unset, .unset] []))
      refine own_go (fun _ ww => XT.lconst X30.here hx rfl (hb hby at_69) ww) ?_
      show own_Goes _ _ _ _ _ _ _ (T30.setTop (mkF m 70 #[.val (.long x1), .second, .val (.long x2), .second, .val (.int (1 : Int32)), .val (.int (1 : Int32)), .val (.long lo), .second, .val (.long hi), .second, .unset, .unset, .unset, .unset] [(.long (1 : Int64))]))
      obtain ⟨_, _, ⟨T31, L31, k31, n31⟩, -, X31, ⟨Lc31, hQ31, l31, y31, z31⟩, st31⟩ := Jvm.LawKit.callS X30 hx (y := (⟨"com/example/izin/izin/Headcount", "isActive", "(J)Z"⟩ : MethodName)) hown (mvT hZ (hw _ (List.mem_of_getElem? (i := 0) rfl))) (mvT hZ (hw _ (List.mem_of_getElem? (i := 1) rfl))) (mvT hZ (hw _ (List.mem_of_getElem? (i := 2) rfl))) (mvT hZ (hw _ (List.mem_of_getElem? (i := 3) rfl))) (by decide) (backOf (W := 0) (rm_act l Z a0 hw [] (1 : Int64) (1 : Int32) h0 n0 O0 (by decide) (by decide)) hZ (hw _ (List.mem_of_getElem? (i := 3) rfl)) (hw _ (List.mem_of_getElem? (i := 2) rfl)) (by decide) (by decide)) (g := (mkF m 70 #[.val (.long x1), .second, .val (.long x2), .second, .val (.int (1 : Int32)), .val (.int (1 : Int32)), .val (.long lo), .second, .val (.long hi), .second, .unset, .unset, .unset, .unset] [(.long (1 : Int64))])) rfl (by rw [hml]; rfl) (argsL := [(.long (1 : Int64))]) (rest := []) (lenOf pd_1 rfl) rfl (by show 2 * 0 + _ ≤ _; exact Nat.le_of_eq rfl) (hb hby at_70) (fun _ _ => ⟨rfl, e30, (by decide : 0 + 0 ≤ _), (by decide : 0 + 0 ≤ _)⟩)
      dsimp only [Pt.U, Pt.locs, Pt.cells, Pt.slots] at X31 l31 y31 z31 st31 hQ31
      subst l31 y31 z31
      obtain ⟨rfl, N31q, e31⟩ := hQ31
      have N31 := Fr.app N30 N31q
      refine own_go st31 ?_
      show own_Goes _ _ _ _ _ _ _ (T31.setTop (mkF m 73 #[.val (.long x1), .second, .val (.long x2), .second, .val (.int (1 : Int32)), .val (.int (1 : Int32)), .val (.long lo), .second, .val (.long hi), .second, .unset, .unset, .unset, .unset] [(.int (1 : Int32))]))
      refine own_go (fun _ ww => XS.ifYes X31.here hx rfl (pc0 := 73) (pc' := 78) rfl (hb hby at_73) rfl (own_if .ne (feq (by decide : ¬ ((1 : Int32) = (0 : Int32)))).2) (by decide) (by decide) ww) ?_
      show own_Goes _ _ _ _ _ _ _ (T31.setTop (mkF m 78 #[.val (.long x1), .second, .val (.long x2), .second, .val (.int (1 : Int32)), .val (.int (1 : Int32)), .val (.long lo), .second, .val (.long hi), .second, .unset, .unset, .unset, .unset] []))
      refine own_go (fun _ ww => X31.ldc2J hx hown (mvT hZ (hw _ (List.mem_of_getElem? (i := 11) rfl))) rfl (hb hby at_78) ww) ?_
      show own_Goes _ _ _ _ _ _ _ (T31.setTop (mkF m 81 #[.val (.long x1), .second, .val (.long x2), .second, .val (.int (1 : Int32)), .val (.int (1 : Int32)), .val (.long lo), .second, .val (.long hi), .second, .unset, .unset, .unset, .unset] [(.long (-1 : Int64))]))
      obtain ⟨_, _, ⟨T32, L32, k32, n32⟩, -, X32, ⟨Lc32, hQ32, l32, y32, z32⟩, st32⟩ := Jvm.LawKit.callS X31 hx (y := (⟨"com/example/izin/izin/Headcount", "isActive", "(J)Z"⟩ : MethodName)) hown (mvT hZ (hw _ (List.mem_of_getElem? (i := 0) rfl))) (mvT hZ (hw _ (List.mem_of_getElem? (i := 1) rfl))) (mvT hZ (hw _ (List.mem_of_getElem? (i := 2) rfl))) (mvT hZ (hw _ (List.mem_of_getElem? (i := 3) rfl))) (by decide) (backOf (W := 0) (rm_act l Z a0 hw [] (-1 : Int64) (0 : Int32) h0 n0 O0 (by decide) (by decide)) hZ (hw _ (List.mem_of_getElem? (i := 3) rfl)) (hw _ (List.mem_of_getElem? (i := 2) rfl)) (by decide) (by decide)) (g := (mkF m 81 #[.val (.long x1), .second, .val (.long x2), .second, .val (.int (1 : Int32)), .val (.int (1 : Int32)), .val (.long lo), .second, .val (.long hi), .second, .unset, .unset, .unset, .unset] [(.long (-1 : Int64))])) rfl (by rw [hml]; rfl) (argsL := [(.long (-1 : Int64))]) (rest := []) (lenOf pd_1 rfl) rfl (by show 2 * 0 + _ ≤ _; exact Nat.le_of_eq rfl) (hb hby at_81) (fun _ _ => ⟨rfl, e31, (by decide : 0 + 0 ≤ _), (by decide : 0 + 0 ≤ _)⟩)
      dsimp only [Pt.U, Pt.locs, Pt.cells, Pt.slots] at X32 l32 y32 z32 st32 hQ32
      subst l32 y32 z32
      obtain ⟨rfl, N32q, e32⟩ := hQ32
      have N32 := Fr.app N31 N32q
      refine own_go st32 ?_
      show own_Goes _ _ _ _ _ _ _ (T32.setTop (mkF m 84 #[.val (.long x1), .second, .val (.long x2), .second, .val (.int (1 : Int32)), .val (.int (1 : Int32)), .val (.long lo), .second, .val (.long hi), .second, .unset, .unset, .unset, .unset] [(.int (0 : Int32))]))
      refine own_go (fun _ ww => XS.ifYes X32.here hx rfl (pc0 := 84) (pc' := 89) rfl (hb hby at_84) rfl (own_if .eq (teq (by decide : (0 : Int32) = (0 : Int32))).1) (by decide) (by decide) ww) ?_
      show own_Goes _ _ _ _ _ _ _ (T32.setTop (mkF m 89 #[.val (.long x1), .second, .val (.long x2), .second, .val (.int (1 : Int32)), .val (.int (1 : Int32)), .val (.long lo), .second, .val (.long hi), .second, .unset, .unset, .unset, .unset] []))
      refine own_go (fun _ ww => X32.ldc2J hx hown (mvT hZ (hw _ (List.mem_of_getElem? (i := 12) rfl))) rfl (hb hby at_89) ww) ?_
      show own_Goes _ _ _ _ _ _ _ (T32.setTop (mkF m 92 #[.val (.long x1), .second, .val (.long x2), .second, .val (.int (1 : Int32)), .val (.int (1 : Int32)), .val (.long lo), .second, .val (.long hi), .second, .unset, .unset, .unset, .unset] [(.long (-9223372036854775808 : Int64))]))
      obtain ⟨_, _, ⟨T33, L33, k33, n33⟩, -, X33, ⟨Lc33, hQ33, l33, y33, z33⟩, st33⟩ := Jvm.LawKit.callS X32 hx (y := (⟨"com/example/izin/izin/Headcount", "isActive", "(J)Z"⟩ : MethodName)) hown (mvT hZ (hw _ (List.mem_of_getElem? (i := 0) rfl))) (mvT hZ (hw _ (List.mem_of_getElem? (i := 1) rfl))) (mvT hZ (hw _ (List.mem_of_getElem? (i := 2) rfl))) (mvT hZ (hw _ (List.mem_of_getElem? (i := 3) rfl))) (by decide) (backOf (W := 0) (rm_act l Z a0 hw [] (-9223372036854775808 : Int64) (0 : Int32) h0 n0 O0 (by decide) (by decide)) hZ (hw _ (List.mem_of_getElem? (i := 3) rfl)) (hw _ (List.mem_of_getElem? (i := 2) rfl)) (by decide) (by decide)) (g := (mkF m 92 #[.val (.long x1), .second, .val (.long x2), .second, .val (.int (1 : Int32)), .val (.int (1 : Int32)), .val (.long lo), .second, .val (.long hi), .second, .unset, .unset, .unset, .unset] [(.long (-9223372036854775808 : Int64))])) rfl (by rw [hml]; rfl) (argsL := [(.long (-9223372036854775808 : Int64))]) (rest := []) (lenOf pd_1 rfl) rfl (by show 2 * 0 + _ ≤ _; exact Nat.le_of_eq rfl) (hb hby at_92) (fun _ _ => ⟨rfl, e32, (by decide : 0 + 0 ≤ _), (by decide : 0 + 0 ≤ _)⟩)
      dsimp only [Pt.U, Pt.locs, Pt.cells, Pt.slots] at X33 l33 y33 z33 st33 hQ33
      subst l33 y33 z33
      obtain ⟨rfl, N33q, e33⟩ := hQ33
      have N33 := Fr.app N32 N33q
      refine own_go st33 ?_
      show own_Goes _ _ _ _ _ _ _ (T33.setTop (mkF m 95 #[.val (.long x1), .second, .val (.long x2), .second, .val (.int (1 : Int32)), .val (.int (1 : Int32)), .val (.long lo), .second, .val (.long hi), .second, .unset, .unset, .unset, .unset] [(.int (0 : Int32))]))
      refine own_go (fun _ ww => XS.ifYes X33.here hx rfl (pc0 := 95) (pc' := 100) rfl (hb hby at_95) rfl (own_if .eq (teq (by decide : (0 : Int32) = (0 : Int32))).1) (by decide) (by decide) ww) ?_
      show own_Goes _ _ _ _ _ _ _ (T33.setTop (mkF m 100 #[.val (.long x1), .second, .val (.long x2), .second, .val (.int (1 : Int32)), .val (.int (1 : Int32)), .val (.long lo), .second, .val (.long hi), .second, .unset, .unset, .unset, .unset] []))
      refine own_go (fun _ ww => X33.ldc2J hx hown (mvT hZ (hw _ (List.mem_of_getElem? (i := 13) rfl))) rfl (hb hby at_100) ww) ?_
      show own_Goes _ _ _ _ _ _ _ (T33.setTop (mkF m 103 #[.val (.long x1), .second, .val (.long x2), .second, .val (.int (1 : Int32)), .val (.int (1 : Int32)), .val (.long lo), .second, .val (.long hi), .second, .unset, .unset, .unset, .unset] [(.long (9223372036854775807 : Int64))]))
      obtain ⟨_, _, ⟨T34, L34, k34, n34⟩, -, X34, ⟨Lc34, hQ34, l34, y34, z34⟩, st34⟩ := Jvm.LawKit.callS X33 hx (y := (⟨"com/example/izin/izin/Headcount", "isActive", "(J)Z"⟩ : MethodName)) hown (mvT hZ (hw _ (List.mem_of_getElem? (i := 0) rfl))) (mvT hZ (hw _ (List.mem_of_getElem? (i := 1) rfl))) (mvT hZ (hw _ (List.mem_of_getElem? (i := 2) rfl))) (mvT hZ (hw _ (List.mem_of_getElem? (i := 3) rfl))) (by decide) (backOf (W := 0) (rm_act l Z a0 hw [] (9223372036854775807 : Int64) (1 : Int32) h0 n0 O0 (by decide) (by decide)) hZ (hw _ (List.mem_of_getElem? (i := 3) rfl)) (hw _ (List.mem_of_getElem? (i := 2) rfl)) (by decide) (by decide)) (g := (mkF m 103 #[.val (.long x1), .second, .val (.long x2), .second, .val (.int (1 : Int32)), .val (.int (1 : Int32)), .val (.long lo), .second, .val (.long hi), .second, .unset, .unset, .unset, .unset] [(.long (9223372036854775807 : Int64))])) rfl (by rw [hml]; rfl) (argsL := [(.long (9223372036854775807 : Int64))]) (rest := []) (lenOf pd_1 rfl) rfl (by show 2 * 0 + _ ≤ _; exact Nat.le_of_eq rfl) (hb hby at_103) (fun _ _ => ⟨rfl, e33, (by decide : 0 + 0 ≤ _), (by decide : 0 + 0 ≤ _)⟩)
      dsimp only [Pt.U, Pt.locs, Pt.cells, Pt.slots] at X34 l34 y34 z34 st34 hQ34
      subst l34 y34 z34
      obtain ⟨rfl, N34q, e34⟩ := hQ34
      have N34 := Fr.app N33 N34q
      refine own_go st34 ?_
      show own_Goes _ _ _ _ _ _ _ (T34.setTop (mkF m 106 #[.val (.long x1), .second, .val (.long x2), .second, .val (.int (1 : Int32)), .val (.int (1 : Int32)), .val (.long lo), .second, .val (.long hi), .second, .unset, .unset, .unset, .unset] [(.int (1 : Int32))]))
      refine own_go (fun _ ww => XS.ifYes X34.here hx rfl (pc0 := 106) (pc' := 111) rfl (hb hby at_106) rfl (own_if .ne (feq (by decide : ¬ ((1 : Int32) = (0 : Int32)))).2) (by decide) (by decide) ww) ?_
      show own_Goes _ _ _ _ _ _ _ (T34.setTop (mkF m 111 #[.val (.long x1), .second, .val (.long x2), .second, .val (.int (1 : Int32)), .val (.int (1 : Int32)), .val (.long lo), .second, .val (.long hi), .second, .unset, .unset, .unset, .unset] []))
      obtain ⟨T35, X35, e35, st35⟩ := getS X34 hx hZ hown (host := "") (hw _ (List.mem_of_getElem? (i := 14) rfl)) Via.refl e34 (SN.ext O0.2) (g := (mkF m 111 #[.val (.long x1), .second, .val (.long x2), .second, .val (.int (1 : Int32)), .val (.int (1 : Int32)), .val (.long lo), .second, .val (.long hi), .second, .unset, .unset, .unset, .unset] [])) rfl (hb hby at_111)
      refine own_go st35 ?_
      show own_Goes _ _ _ _ _ _ _ (T35.setTop (mkF m 114 #[.val (.long x1), .second, .val (.long x2), .second, .val (.int (1 : Int32)), .val (.int (1 : Int32)), .val (.long lo), .second, .val (.long hi), .second, .unset, .unset, .unset, .unset] [(.ref aN)]))
      refine own_go (fun _ ww => XT.lloadN X35.here hx rfl (hb hby at_114) rfl  ww) ?_
      show own_Goes _ _ _ _ _ _ _ (T35.setTop (mkF m 115 #[.val (.long x1), .second, .val (.long x2), .second, .val (.int (1 : Int32)), .val (.int (1 : Int32)), .val (.long lo), .second, .val (.long hi), .second, .unset, .unset, .unset, .unset] [(.long x1), (.ref aN)]))
      obtain ⟨cq36, kq36, q36a, q36b, q36c⟩ := isOf hZ e35 (EN.ext O0.2)
      obtain ⟨_, _, ⟨T36, L36, k36, n36⟩, -, X36, ⟨Lc36, hQ36, l36, y36, z36⟩, st36⟩ := X35.virtualBack hx (y := (⟨"com/example/izin/izin/Headcount", "plus", "(J)Lcom/example/izin/izin/Headcount;"⟩ : MethodName)) (z := (⟨"com/example/izin/izin/Headcount", "plus", "(J)Lcom/example/izin/izin/Headcount;"⟩ : MethodName)) hown (mvT hZ (hw _ (List.mem_of_getElem? (i := 16) rfl))) (mvT hZ (hw _ (List.mem_of_getElem? (i := 17) rfl))) (notFace_of_selects (args := #[]) (mvT hZ (hw _ (List.mem_of_getElem? (i := 19) rfl)))) (mvT hZ (hw _ (List.mem_of_getElem? (i := 19) rfl))) (mvT hZ (hw _ (List.mem_of_getElem? (i := 18) rfl))) (by decide) (backOf (W := 0) (rm_plus l Z a0 hw [] aN x1 (1 : Int64) h0 n0 O0 F1 F2 (fun _ => rfl) (fun q => absurd hp q)) hZ (hw _ (List.mem_of_getElem? (i := 20) rfl)) (hw _ (List.mem_of_getElem? (i := 2) rfl)) (by decide) (by decide)) q36a q36c (g := (mkF m 115 #[.val (.long x1), .second, .val (.long x2), .second, .val (.int (1 : Int32)), .val (.int (1 : Int32)), .val (.long lo), .second, .val (.long hi), .second, .unset, .unset, .unset, .unset] [(.long x1), (.ref aN)])) rfl (by rw [hml]; rfl) (Steps.refl _) (argsL := [(.long x1)]) (rest := []) (lenOf pd_5 rfl) rfl (by show 2 * 0 + _ ≤ _; exact Nat.le_of_eq rfl) (hb hby at_115) (fun _ _ => ⟨rfl, e35, (by decide : 0 + 1 ≤ _), (by decide : 0 + 2 ≤ _)⟩)
      dsimp only [Pt.U, Pt.locs, Pt.cells, Pt.slots] at X36 l36 y36 z36 st36 hQ36
      subst l36 y36 z36
      obtain ⟨r36, rfl, N36q, B36, K36q, E36q, A36q⟩ := hQ36
      have N36 := Fr.app N34 N36q
      have ne_aN_r36 : aN ≠ r36 := Nat.ne_of_lt (Nat.lt_of_lt_of_le (EN.ext O0.2).lt B36)
      have g_r36 : n0 ≤ r36 := Nat.le_trans (O0.1 ▸ O0.2.1) B36
      have O36 := O0.keep K36q all0
      refine own_go (fun _ ww => Steps.trans st36 ww) ?_
      show own_Goes _ _ _ _ _ _ _ (T36.setTop (mkF m 118 #[.val (.long x1), .second, .val (.long x2), .second, .val (.int (1 : Int32)), .val (.int (1 : Int32)), .val (.long lo), .second, .val (.long hi), .second, .unset, .unset, .unset, .unset] [(.ref r36)]))
      obtain ⟨cq37, kq37, q37a, q37b, q37c⟩ := isOf hZ rfl E36q
      obtain ⟨_, _, ⟨T37, L37, k37, n37⟩, -, X37, ⟨Lc37, hQ37, l37, y37, z37⟩, st37⟩ := X36.virtualBack hx (y := (⟨"com/example/izin/izin/Headcount", "active", "()J"⟩ : MethodName)) (z := (⟨"com/example/izin/izin/Headcount", "active", "()J"⟩ : MethodName)) hown (mvT hZ (hw _ (List.mem_of_getElem? (i := 42) rfl))) (mvT hZ (hw _ (List.mem_of_getElem? (i := 43) rfl))) (notFace_of_selects (args := #[]) (mvT hZ (hw _ (List.mem_of_getElem? (i := 45) rfl)))) (mvT hZ (hw _ (List.mem_of_getElem? (i := 45) rfl))) (mvT hZ (hw _ (List.mem_of_getElem? (i := 44) rfl))) (by decide) (backOf (W := 0) (rm_active l Z a0 hw [] r36 ((0 : Int64) + (1 : Int64)) T36.heap n0 O36 A36q) hZ (hw _ (List.mem_of_getElem? (i := 46) rfl)) (hw _ (List.mem_of_getElem? (i := 2) rfl)) (by decide) (by decide)) q37a q37c (g := (mkF m 118 #[.val (.long x1), .second, .val (.long x2), .second, .val (.int (1 : Int32)), .val (.int (1 : Int32)), .val (.long lo), .second, .val (.long hi), .second, .unset, .unset, .unset, .unset] [(.ref r36)])) rfl (by rw [hml]; rfl) (Steps.refl _) (argsL := []) (rest := []) (lenOf pd_6 rfl) rfl (by show 2 * 0 + _ ≤ _; exact Nat.le_of_eq rfl) (hb hby at_118) (fun _ _ => ⟨rfl, rfl, (by decide : 1 + 0 ≤ _), (by decide : 2 + 0 ≤ _)⟩)
      dsimp only [Pt.U, Pt.locs, Pt.cells, Pt.slots] at X37 l37 y37 z37 st37 hQ37
      subst l37 y37 z37
      obtain ⟨rfl, N37q, e37⟩ := hQ37
      have N37 := Fr.app N36 N37q
      refine own_go (fun _ ww => Steps.trans st37 ww) ?_
      show own_Goes _ _ _ _ _ _ _ (T37.setTop (mkF m 121 #[.val (.long x1), .second, .val (.long x2), .second, .val (.int (1 : Int32)), .val (.int (1 : Int32)), .val (.long lo), .second, .val (.long hi), .second, .unset, .unset, .unset, .unset] [(.long ((0 : Int64) + (1 : Int64)))]))
      refine own_go (fun _ ww => XT.lstore X37.here hx rfl (hb hby at_121) rfl (l' := #[.val (.long x1), .second, .val (.long x2), .second, .val (.int (1 : Int32)), .val (.int (1 : Int32)), .val (.long lo), .second, .val (.long hi), .second, .val (.long ((0 : Int64) + (1 : Int64))), .second, .unset, .unset]) rfl ww) ?_
      show own_Goes _ _ _ _ _ _ _ (T37.setTop (mkF m 123 #[.val (.long x1), .second, .val (.long x2), .second, .val (.int (1 : Int32)), .val (.int (1 : Int32)), .val (.long lo), .second, .val (.long hi), .second, .val (.long ((0 : Int64) + (1 : Int64))), .second, .unset, .unset] []))
      refine own_go (fun _ ww => XS.iload X37.here hx rfl (hb hby at_123) rfl  ww) ?_
      show own_Goes _ _ _ _ _ _ _ (T37.setTop (mkF m 125 #[.val (.long x1), .second, .val (.long x2), .second, .val (.int (1 : Int32)), .val (.int (1 : Int32)), .val (.long lo), .second, .val (.long hi), .second, .val (.long ((0 : Int64) + (1 : Int64))), .second, .unset, .unset] [(.int (1 : Int32))]))
      refine own_go (fun _ ww => XS.ifNo X37.here hx rfl (hb hby at_125) rfl (own_if .eq (feq (by decide : ¬ ((1 : Int32) = (0 : Int32)))).1) ww) ?_
      show own_Goes _ _ _ _ _ _ _ (T37.setTop (mkF m 128 #[.val (.long x1), .second, .val (.long x2), .second, .val (.int (1 : Int32)), .val (.int (1 : Int32)), .val (.long lo), .second, .val (.long hi), .second, .val (.long ((0 : Int64) + (1 : Int64))), .second, .unset, .unset] []))
      refine own_go (fun _ ww => XT.lconst X37.here hx rfl (hb hby at_128) ww) ?_
      show own_Goes _ _ _ _ _ _ _ (T37.setTop (mkF m 129 #[.val (.long x1), .second, .val (.long x2), .second, .val (.int (1 : Int32)), .val (.int (1 : Int32)), .val (.long lo), .second, .val (.long hi), .second, .val (.long ((0 : Int64) + (1 : Int64))), .second, .unset, .unset] [(.long (1 : Int64))]))
      refine own_go (fun _ ww => XS.goto X37.here hx rfl (pc0 := 129) (pc' := 133) rfl (hb hby at_129) (by decide) (by decide) ww) ?_
      show own_Goes _ _ _ _ _ _ _ (T37.setTop (mkF m 133 #[.val (.long x1), .second, .val (.long x2), .second, .val (.int (1 : Int32)), .val (.int (1 : Int32)), .val (.long lo), .second, .val (.long hi), .second, .val (.long ((0 : Int64) + (1 : Int64))), .second, .unset, .unset] [(.long (1 : Int64))]))
      refine own_go (fun _ ww => XT.lstore X37.here hx rfl (hb hby at_133) rfl (l' := #[.val (.long x1), .second, .val (.long x2), .second, .val (.int (1 : Int32)), .val (.int (1 : Int32)), .val (.long lo), .second, .val (.long hi), .second, .val (.long ((0 : Int64) + (1 : Int64))), .second, .val (.long (1 : Int64)), .second]) rfl ww) ?_
      show own_Goes _ _ _ _ _ _ _ (T37.setTop (mkF m 135 #[.val (.long x1), .second, .val (.long x2), .second, .val (.int (1 : Int32)), .val (.int (1 : Int32)), .val (.long lo), .second, .val (.long hi), .second, .val (.long ((0 : Int64) + (1 : Int64))), .second, .val (.long (1 : Int64)), .second] []))
      refine own_go (fun _ ww => XT.lload X37.here hx rfl (hb hby at_135) rfl  ww) ?_
      show own_Goes _ _ _ _ _ _ _ (T37.setTop (mkF m 137 #[.val (.long x1), .second, .val (.long x2), .second, .val (.int (1 : Int32)), .val (.int (1 : Int32)), .val (.long lo), .second, .val (.long hi), .second, .val (.long ((0 : Int64) + (1 : Int64))), .second, .val (.long (1 : Int64)), .second] [(.long ((0 : Int64) + (1 : Int64)))]))
      refine own_go (fun _ ww => XT.lload X37.here hx rfl (hb hby at_137) rfl  ww) ?_
      show own_Goes _ _ _ _ _ _ _ (T37.setTop (mkF m 139 #[.val (.long x1), .second, .val (.long x2), .second, .val (.int (1 : Int32)), .val (.int (1 : Int32)), .val (.long lo), .second, .val (.long hi), .second, .val (.long ((0 : Int64) + (1 : Int64))), .second, .val (.long (1 : Int64)), .second] [(.long (1 : Int64)), (.long ((0 : Int64) + (1 : Int64)))]))
      refine own_go (fun _ ww => XT.lcmp X37.here hx rfl (hb hby at_139) rfl ww) ?_
      show own_Goes _ _ _ _ _ _ _ (T37.setTop (mkF m 140 #[.val (.long x1), .second, .val (.long x2), .second, .val (.int (1 : Int32)), .val (.int (1 : Int32)), .val (.long lo), .second, .val (.long hi), .second, .val (.long ((0 : Int64) + (1 : Int64))), .second, .val (.long (1 : Int64)), .second] [(.int (XT.cmpL ((0 : Int64) + (1 : Int64)) (1 : Int64)))]))
      refine own_go (fun _ ww => XS.ifNo X37.here hx rfl (hb hby at_140) rfl (own_if .ne (teq (by decide)).2) ww) ?_
      show own_Goes _ _ _ _ _ _ _ (T37.setTop (mkF m 143 #[.val (.long x1), .second, .val (.long x2), .second, .val (.int (1 : Int32)), .val (.int (1 : Int32)), .val (.long lo), .second, .val (.long hi), .second, .val (.long ((0 : Int64) + (1 : Int64))), .second, .val (.long (1 : Int64)), .second] []))
      refine own_go (fun _ ww => XS.iconst X37.here hx rfl (hb hby at_143) ww) ?_
      show own_Goes _ _ _ _ _ _ _ (T37.setTop (mkF m 144 #[.val (.long x1), .second, .val (.long x2), .second, .val (.int (1 : Int32)), .val (.int (1 : Int32)), .val (.long lo), .second, .val (.long hi), .second, .val (.long ((0 : Int64) + (1 : Int64))), .second, .val (.long (1 : Int64)), .second] [(.int (1 : Int32))]))
      refine own_go (fun _ ww => XS.goto X37.here hx rfl (pc0 := 144) (pc' := 148) rfl (hb hby at_144) (by decide) (by decide) ww) ?_
      show own_Goes _ _ _ _ _ _ _ (T37.setTop (mkF m 148 #[.val (.long x1), .second, .val (.long x2), .second, .val (.int (1 : Int32)), .val (.int (1 : Int32)), .val (.long lo), .second, .val (.long hi), .second, .val (.long ((0 : Int64) + (1 : Int64))), .second, .val (.long (1 : Int64)), .second] [(.int (1 : Int32))]))
      exact own_out X37 hlk (v := some (.int (1 : Int32))) (fun h => by rw [hret] at h; cases h) (fun fs hr => retOut X37 hx (t := .boolean) hret (by decide) (Or.inl ⟨rfl, by simp, _, rfl⟩) (hb hby at_148) hr) e37 ⟨rfl, N37⟩ (by decide) (by decide)
    ·
      show own_Goes _ _ _ _ _ _ _ (T27.setTop (mkF m 44 #[.val (.long x1), .second, .val (.long x2), .second, .val (.int (1 : Int32)), .val (.int (1 : Int32)), .val (.long lo), .second, .val (.long hi), .second, .unset, .unset, .unset, .unset] [(.long lo)]))
      obtain ⟨_, _, ⟨T38, L38, k38, n38⟩, -, X38, ⟨Lc38, hQ38, l38, y38, z38⟩, st38⟩ := Jvm.LawKit.callS X27 hx (y := (⟨"com/example/izin/izin/Headcount", "isActive", "(J)Z"⟩ : MethodName)) hown (mvT hZ (hw _ (List.mem_of_getElem? (i := 0) rfl))) (mvT hZ (hw _ (List.mem_of_getElem? (i := 1) rfl))) (mvT hZ (hw _ (List.mem_of_getElem? (i := 2) rfl))) (mvT hZ (hw _ (List.mem_of_getElem? (i := 3) rfl))) (by decide) (backOf (W := 0) (rm_act l Z a0 hw [] lo (0 : Int32) h0 n0 O0 (fun q => absurd q hl) (fun _ => rfl)) hZ (hw _ (List.mem_of_getElem? (i := 3) rfl)) (hw _ (List.mem_of_getElem? (i := 2) rfl)) (by decide) (by decide)) (g := (mkF m 44 #[.val (.long x1), .second, .val (.long x2), .second, .val (.int (1 : Int32)), .val (.int (1 : Int32)), .val (.long lo), .second, .val (.long hi), .second, .unset, .unset, .unset, .unset] [(.long lo)])) rfl (by rw [hml]; rfl) (argsL := [(.long lo)]) (rest := []) (lenOf pd_1 rfl) rfl (by show 2 * 0 + _ ≤ _; exact Nat.le_of_eq rfl) (hb hby at_44) (fun _ _ => ⟨rfl, e27, (by decide : 0 + 0 ≤ _), (by decide : 0 + 0 ≤ _)⟩)
      dsimp only [Pt.U, Pt.locs, Pt.cells, Pt.slots] at X38 l38 y38 z38 st38 hQ38
      subst l38 y38 z38
      obtain ⟨rfl, N38q, e38⟩ := hQ38
      have N38 := Fr.app N27 N38q
      refine own_go st38 ?_
      show own_Goes _ _ _ _ _ _ _ (T38.setTop (mkF m 47 #[.val (.long x1), .second, .val (.long x2), .second, .val (.int (1 : Int32)), .val (.int (1 : Int32)), .val (.long lo), .second, .val (.long hi), .second, .unset, .unset, .unset, .unset] [(.int (0 : Int32))]))
      refine own_go (fun _ ww => XS.ifYes X38.here hx rfl (pc0 := 47) (pc' := 60) rfl (hb hby at_47) rfl (own_if .eq (teq (by decide : (0 : Int32) = (0 : Int32))).1) (by decide) (by decide) ww) ?_
      show own_Goes _ _ _ _ _ _ _ (T38.setTop (mkF m 60 #[.val (.long x1), .second, .val (.long x2), .second, .val (.int (1 : Int32)), .val (.int (1 : Int32)), .val (.long lo), .second, .val (.long hi), .second, .unset, .unset, .unset, .unset] []))
      refine own_go (fun _ ww => XT.lconst X38.here hx rfl (hb hby at_60) ww) ?_
      show own_Goes _ _ _ _ _ _ _ (T38.setTop (mkF m 61 #[.val (.long x1), .second, .val (.long x2), .second, .val (.int (1 : Int32)), .val (.int (1 : Int32)), .val (.long lo), .second, .val (.long hi), .second, .unset, .unset, .unset, .unset] [(.long (0 : Int64))]))
      obtain ⟨_, _, ⟨T39, L39, k39, n39⟩, -, X39, ⟨Lc39, hQ39, l39, y39, z39⟩, st39⟩ := Jvm.LawKit.callS X38 hx (y := (⟨"com/example/izin/izin/Headcount", "isActive", "(J)Z"⟩ : MethodName)) hown (mvT hZ (hw _ (List.mem_of_getElem? (i := 0) rfl))) (mvT hZ (hw _ (List.mem_of_getElem? (i := 1) rfl))) (mvT hZ (hw _ (List.mem_of_getElem? (i := 2) rfl))) (mvT hZ (hw _ (List.mem_of_getElem? (i := 3) rfl))) (by decide) (backOf (W := 0) (rm_act l Z a0 hw [] (0 : Int64) (0 : Int32) h0 n0 O0 (by decide) (by decide)) hZ (hw _ (List.mem_of_getElem? (i := 3) rfl)) (hw _ (List.mem_of_getElem? (i := 2) rfl)) (by decide) (by decide)) (g := (mkF m 61 #[.val (.long x1), .second, .val (.long x2), .second, .val (.int (1 : Int32)), .val (.int (1 : Int32)), .val (.long lo), .second, .val (.long hi), .second, .unset, .unset, .unset, .unset] [(.long (0 : Int64))])) rfl (by rw [hml]; rfl) (argsL := [(.long (0 : Int64))]) (rest := []) (lenOf pd_1 rfl) rfl (by show 2 * 0 + _ ≤ _; exact Nat.le_of_eq rfl) (hb hby at_61) (fun _ _ => ⟨rfl, e38, (by decide : 0 + 0 ≤ _), (by decide : 0 + 0 ≤ _)⟩)
      dsimp only [Pt.U, Pt.locs, Pt.cells, Pt.slots] at X39 l39 y39 z39 st39 hQ39
      subst l39 y39 z39
      obtain ⟨rfl, N39q, e39⟩ := hQ39
      have N39 := Fr.app N38 N39q
      refine own_go st39 ?_
      show own_Goes _ _ _ _ _ _ _ (T39.setTop (mkF m 64 #[.val (.long x1), .second, .val (.long x2), .second, .val (.int (1 : Int32)), .val (.int (1 : Int32)), .val (.long lo), .second, .val (.long hi), .second, .unset, .unset, .unset, .unset] [(.int (0 : Int32))]))
      refine own_go (fun _ ww => XS.ifYes X39.here hx rfl (pc0 := 64) (pc' := 69) rfl (hb hby at_64) rfl (own_if .eq (teq (by decide : (0 : Int32) = (0 : Int32))).1) (by decide) (by decide) ww) ?_
      show own_Goes _ _ _ _ _ _ _ (T39.setTop (mkF m 69 #[.val (.long x1), .second, .val (.long x2), .second, .val (.int (1 : Int32)), .val (.int (1 : Int32)), .val (.long lo), .second, .val (.long hi), .second, .unset, .unset, .unset, .unset] []))
      refine own_go (fun _ ww => XT.lconst X39.here hx rfl (hb hby at_69) ww) ?_
      show own_Goes _ _ _ _ _ _ _ (T39.setTop (mkF m 70 #[.val (.long x1), .second, .val (.long x2), .second, .val (.int (1 : Int32)), .val (.int (1 : Int32)), .val (.long lo), .second, .val (.long hi), .second, .unset, .unset, .unset, .unset] [(.long (1 : Int64))]))
      obtain ⟨_, _, ⟨T40, L40, k40, n40⟩, -, X40, ⟨Lc40, hQ40, l40, y40, z40⟩, st40⟩ := Jvm.LawKit.callS X39 hx (y := (⟨"com/example/izin/izin/Headcount", "isActive", "(J)Z"⟩ : MethodName)) hown (mvT hZ (hw _ (List.mem_of_getElem? (i := 0) rfl))) (mvT hZ (hw _ (List.mem_of_getElem? (i := 1) rfl))) (mvT hZ (hw _ (List.mem_of_getElem? (i := 2) rfl))) (mvT hZ (hw _ (List.mem_of_getElem? (i := 3) rfl))) (by decide) (backOf (W := 0) (rm_act l Z a0 hw [] (1 : Int64) (1 : Int32) h0 n0 O0 (by decide) (by decide)) hZ (hw _ (List.mem_of_getElem? (i := 3) rfl)) (hw _ (List.mem_of_getElem? (i := 2) rfl)) (by decide) (by decide)) (g := (mkF m 70 #[.val (.long x1), .second, .val (.long x2), .second, .val (.int (1 : Int32)), .val (.int (1 : Int32)), .val (.long lo), .second, .val (.long hi), .second, .unset, .unset, .unset, .unset] [(.long (1 : Int64))])) rfl (by rw [hml]; rfl) (argsL := [(.long (1 : Int64))]) (rest := []) (lenOf pd_1 rfl) rfl (by show 2 * 0 + _ ≤ _; exact Nat.le_of_eq rfl) (hb hby at_70) (fun _ _ => ⟨rfl, e39, (by decide : 0 + 0 ≤ _), (by decide : 0 + 0 ≤ _)⟩)
      dsimp only [Pt.U, Pt.locs, Pt.cells, Pt.slots] at X40 l40 y40 z40 st40 hQ40
      subst l40 y40 z40
      obtain ⟨rfl, N40q, e40⟩ := hQ40
      have N40 := Fr.app N39 N40q
      refine own_go st40 ?_
      show own_Goes _ _ _ _ _ _ _ (T40.setTop (mkF m 73 #[.val (.long x1), .second, .val (.long x2), .second, .val (.int (1 : Int32)), .val (.int (1 : Int32)), .val (.long lo), .second, .val (.long hi), .second, .unset, .unset, .unset, .unset] [(.int (1 : Int32))]))
      refine own_go (fun _ ww => XS.ifYes X40.here hx rfl (pc0 := 73) (pc' := 78) rfl (hb hby at_73) rfl (own_if .ne (feq (by decide : ¬ ((1 : Int32) = (0 : Int32)))).2) (by decide) (by decide) ww) ?_
      show own_Goes _ _ _ _ _ _ _ (T40.setTop (mkF m 78 #[.val (.long x1), .second, .val (.long x2), .second, .val (.int (1 : Int32)), .val (.int (1 : Int32)), .val (.long lo), .second, .val (.long hi), .second, .unset, .unset, .unset, .unset] []))
      refine own_go (fun _ ww => X40.ldc2J hx hown (mvT hZ (hw _ (List.mem_of_getElem? (i := 11) rfl))) rfl (hb hby at_78) ww) ?_
      show own_Goes _ _ _ _ _ _ _ (T40.setTop (mkF m 81 #[.val (.long x1), .second, .val (.long x2), .second, .val (.int (1 : Int32)), .val (.int (1 : Int32)), .val (.long lo), .second, .val (.long hi), .second, .unset, .unset, .unset, .unset] [(.long (-1 : Int64))]))
      obtain ⟨_, _, ⟨T41, L41, k41, n41⟩, -, X41, ⟨Lc41, hQ41, l41, y41, z41⟩, st41⟩ := Jvm.LawKit.callS X40 hx (y := (⟨"com/example/izin/izin/Headcount", "isActive", "(J)Z"⟩ : MethodName)) hown (mvT hZ (hw _ (List.mem_of_getElem? (i := 0) rfl))) (mvT hZ (hw _ (List.mem_of_getElem? (i := 1) rfl))) (mvT hZ (hw _ (List.mem_of_getElem? (i := 2) rfl))) (mvT hZ (hw _ (List.mem_of_getElem? (i := 3) rfl))) (by decide) (backOf (W := 0) (rm_act l Z a0 hw [] (-1 : Int64) (0 : Int32) h0 n0 O0 (by decide) (by decide)) hZ (hw _ (List.mem_of_getElem? (i := 3) rfl)) (hw _ (List.mem_of_getElem? (i := 2) rfl)) (by decide) (by decide)) (g := (mkF m 81 #[.val (.long x1), .second, .val (.long x2), .second, .val (.int (1 : Int32)), .val (.int (1 : Int32)), .val (.long lo), .second, .val (.long hi), .second, .unset, .unset, .unset, .unset] [(.long (-1 : Int64))])) rfl (by rw [hml]; rfl) (argsL := [(.long (-1 : Int64))]) (rest := []) (lenOf pd_1 rfl) rfl (by show 2 * 0 + _ ≤ _; exact Nat.le_of_eq rfl) (hb hby at_81) (fun _ _ => ⟨rfl, e40, (by decide : 0 + 0 ≤ _), (by decide : 0 + 0 ≤ _)⟩)
      dsimp only [Pt.U, Pt.locs, Pt.cells, Pt.slots] at X41 l41 y41 z41 st41 hQ41
      subst l41 y41 z41
      obtain ⟨rfl, N41q, e41⟩ := hQ41
      have N41 := Fr.app N40 N41q
      refine own_go st41 ?_
      show own_Goes _ _ _ _ _ _ _ (T41.setTop (mkF m 84 #[.val (.long x1), .second, .val (.long x2), .second, .val (.int (1 : Int32)), .val (.int (1 : Int32)), .val (.long lo), .second, .val (.long hi), .second, .unset, .unset, .unset, .unset] [(.int (0 : Int32))]))
      refine own_go (fun _ ww => XS.ifYes X41.here hx rfl (pc0 := 84) (pc' := 89) rfl (hb hby at_84) rfl (own_if .eq (teq (by decide : (0 : Int32) = (0 : Int32))).1) (by decide) (by decide) ww) ?_
      show own_Goes _ _ _ _ _ _ _ (T41.setTop (mkF m 89 #[.val (.long x1), .second, .val (.long x2), .second, .val (.int (1 : Int32)), .val (.int (1 : Int32)), .val (.long lo), .second, .val (.long hi), .second, .unset, .unset, .unset, .unset] []))
      refine own_go (fun _ ww => X41.ldc2J hx hown (mvT hZ (hw _ (List.mem_of_getElem? (i := 12) rfl))) rfl (hb hby at_89) ww) ?_
      show own_Goes _ _ _ _ _ _ _ (T41.setTop (mkF m 92 #[.val (.long x1), .second, .val (.long x2), .second, .val (.int (1 : Int32)), .val (.int (1 : Int32)), .val (.long lo), .second, .val (.long hi), .second, .unset, .unset, .unset, .unset] [(.long (-9223372036854775808 : Int64))]))
      obtain ⟨_, _, ⟨T42, L42, k42, n42⟩, -, X42, ⟨Lc42, hQ42, l42, y42, z42⟩, st42⟩ := Jvm.LawKit.callS X41 hx (y := (⟨"com/example/izin/izin/Headcount", "isActive", "(J)Z"⟩ : MethodName)) hown (mvT hZ (hw _ (List.mem_of_getElem? (i := 0) rfl))) (mvT hZ (hw _ (List.mem_of_getElem? (i := 1) rfl))) (mvT hZ (hw _ (List.mem_of_getElem? (i := 2) rfl))) (mvT hZ (hw _ (List.mem_of_getElem? (i := 3) rfl))) (by decide) (backOf (W := 0) (rm_act l Z a0 hw [] (-9223372036854775808 : Int64) (0 : Int32) h0 n0 O0 (by decide) (by decide)) hZ (hw _ (List.mem_of_getElem? (i := 3) rfl)) (hw _ (List.mem_of_getElem? (i := 2) rfl)) (by decide) (by decide)) (g := (mkF m 92 #[.val (.long x1), .second, .val (.long x2), .second, .val (.int (1 : Int32)), .val (.int (1 : Int32)), .val (.long lo), .second, .val (.long hi), .second, .unset, .unset, .unset, .unset] [(.long (-9223372036854775808 : Int64))])) rfl (by rw [hml]; rfl) (argsL := [(.long (-9223372036854775808 : Int64))]) (rest := []) (lenOf pd_1 rfl) rfl (by show 2 * 0 + _ ≤ _; exact Nat.le_of_eq rfl) (hb hby at_92) (fun _ _ => ⟨rfl, e41, (by decide : 0 + 0 ≤ _), (by decide : 0 + 0 ≤ _)⟩)
      dsimp only [Pt.U, Pt.locs, Pt.cells, Pt.slots] at X42 l42 y42 z42 st42 hQ42
      subst l42 y42 z42
      obtain ⟨rfl, N42q, e42⟩ := hQ42
      have N42 := Fr.app N41 N42q
      refine own_go st42 ?_
      show own_Goes _ _ _ _ _ _ _ (T42.setTop (mkF m 95 #[.val (.long x1), .second, .val (.long x2), .second, .val (.int (1 : Int32)), .val (.int (1 : Int32)), .val (.long lo), .second, .val (.long hi), .second, .unset, .unset, .unset, .unset] [(.int (0 : Int32))]))
      refine own_go (fun _ ww => XS.ifYes X42.here hx rfl (pc0 := 95) (pc' := 100) rfl (hb hby at_95) rfl (own_if .eq (teq (by decide : (0 : Int32) = (0 : Int32))).1) (by decide) (by decide) ww) ?_
      show own_Goes _ _ _ _ _ _ _ (T42.setTop (mkF m 100 #[.val (.long x1), .second, .val (.long x2), .second, .val (.int (1 : Int32)), .val (.int (1 : Int32)), .val (.long lo), .second, .val (.long hi), .second, .unset, .unset, .unset, .unset] []))
      refine own_go (fun _ ww => X42.ldc2J hx hown (mvT hZ (hw _ (List.mem_of_getElem? (i := 13) rfl))) rfl (hb hby at_100) ww) ?_
      show own_Goes _ _ _ _ _ _ _ (T42.setTop (mkF m 103 #[.val (.long x1), .second, .val (.long x2), .second, .val (.int (1 : Int32)), .val (.int (1 : Int32)), .val (.long lo), .second, .val (.long hi), .second, .unset, .unset, .unset, .unset] [(.long (9223372036854775807 : Int64))]))
      obtain ⟨_, _, ⟨T43, L43, k43, n43⟩, -, X43, ⟨Lc43, hQ43, l43, y43, z43⟩, st43⟩ := Jvm.LawKit.callS X42 hx (y := (⟨"com/example/izin/izin/Headcount", "isActive", "(J)Z"⟩ : MethodName)) hown (mvT hZ (hw _ (List.mem_of_getElem? (i := 0) rfl))) (mvT hZ (hw _ (List.mem_of_getElem? (i := 1) rfl))) (mvT hZ (hw _ (List.mem_of_getElem? (i := 2) rfl))) (mvT hZ (hw _ (List.mem_of_getElem? (i := 3) rfl))) (by decide) (backOf (W := 0) (rm_act l Z a0 hw [] (9223372036854775807 : Int64) (1 : Int32) h0 n0 O0 (by decide) (by decide)) hZ (hw _ (List.mem_of_getElem? (i := 3) rfl)) (hw _ (List.mem_of_getElem? (i := 2) rfl)) (by decide) (by decide)) (g := (mkF m 103 #[.val (.long x1), .second, .val (.long x2), .second, .val (.int (1 : Int32)), .val (.int (1 : Int32)), .val (.long lo), .second, .val (.long hi), .second, .unset, .unset, .unset, .unset] [(.long (9223372036854775807 : Int64))])) rfl (by rw [hml]; rfl) (argsL := [(.long (9223372036854775807 : Int64))]) (rest := []) (lenOf pd_1 rfl) rfl (by show 2 * 0 + _ ≤ _; exact Nat.le_of_eq rfl) (hb hby at_103) (fun _ _ => ⟨rfl, e42, (by decide : 0 + 0 ≤ _), (by decide : 0 + 0 ≤ _)⟩)
      dsimp only [Pt.U, Pt.locs, Pt.cells, Pt.slots] at X43 l43 y43 z43 st43 hQ43
      subst l43 y43 z43
      obtain ⟨rfl, N43q, e43⟩ := hQ43
      have N43 := Fr.app N42 N43q
      refine own_go st43 ?_
      show own_Goes _ _ _ _ _ _ _ (T43.setTop (mkF m 106 #[.val (.long x1), .second, .val (.long x2), .second, .val (.int (1 : Int32)), .val (.int (1 : Int32)), .val (.long lo), .second, .val (.long hi), .second, .unset, .unset, .unset, .unset] [(.int (1 : Int32))]))
      refine own_go (fun _ ww => XS.ifYes X43.here hx rfl (pc0 := 106) (pc' := 111) rfl (hb hby at_106) rfl (own_if .ne (feq (by decide : ¬ ((1 : Int32) = (0 : Int32)))).2) (by decide) (by decide) ww) ?_
      show own_Goes _ _ _ _ _ _ _ (T43.setTop (mkF m 111 #[.val (.long x1), .second, .val (.long x2), .second, .val (.int (1 : Int32)), .val (.int (1 : Int32)), .val (.long lo), .second, .val (.long hi), .second, .unset, .unset, .unset, .unset] []))
      obtain ⟨T44, X44, e44, st44⟩ := getS X43 hx hZ hown (host := "") (hw _ (List.mem_of_getElem? (i := 14) rfl)) Via.refl e43 (SN.ext O0.2) (g := (mkF m 111 #[.val (.long x1), .second, .val (.long x2), .second, .val (.int (1 : Int32)), .val (.int (1 : Int32)), .val (.long lo), .second, .val (.long hi), .second, .unset, .unset, .unset, .unset] [])) rfl (hb hby at_111)
      refine own_go st44 ?_
      show own_Goes _ _ _ _ _ _ _ (T44.setTop (mkF m 114 #[.val (.long x1), .second, .val (.long x2), .second, .val (.int (1 : Int32)), .val (.int (1 : Int32)), .val (.long lo), .second, .val (.long hi), .second, .unset, .unset, .unset, .unset] [(.ref aN)]))
      refine own_go (fun _ ww => XT.lloadN X44.here hx rfl (hb hby at_114) rfl  ww) ?_
      show own_Goes _ _ _ _ _ _ _ (T44.setTop (mkF m 115 #[.val (.long x1), .second, .val (.long x2), .second, .val (.int (1 : Int32)), .val (.int (1 : Int32)), .val (.long lo), .second, .val (.long hi), .second, .unset, .unset, .unset, .unset] [(.long x1), (.ref aN)]))
      obtain ⟨cq45, kq45, q45a, q45b, q45c⟩ := isOf hZ e44 (EN.ext O0.2)
      obtain ⟨_, _, ⟨T45, L45, k45, n45⟩, -, X45, ⟨Lc45, hQ45, l45, y45, z45⟩, st45⟩ := X44.virtualBack hx (y := (⟨"com/example/izin/izin/Headcount", "plus", "(J)Lcom/example/izin/izin/Headcount;"⟩ : MethodName)) (z := (⟨"com/example/izin/izin/Headcount", "plus", "(J)Lcom/example/izin/izin/Headcount;"⟩ : MethodName)) hown (mvT hZ (hw _ (List.mem_of_getElem? (i := 16) rfl))) (mvT hZ (hw _ (List.mem_of_getElem? (i := 17) rfl))) (notFace_of_selects (args := #[]) (mvT hZ (hw _ (List.mem_of_getElem? (i := 19) rfl)))) (mvT hZ (hw _ (List.mem_of_getElem? (i := 19) rfl))) (mvT hZ (hw _ (List.mem_of_getElem? (i := 18) rfl))) (by decide) (backOf (W := 0) (rm_plus l Z a0 hw [] aN x1 (1 : Int64) h0 n0 O0 F1 F2 (fun _ => rfl) (fun q => absurd hp q)) hZ (hw _ (List.mem_of_getElem? (i := 20) rfl)) (hw _ (List.mem_of_getElem? (i := 2) rfl)) (by decide) (by decide)) q45a q45c (g := (mkF m 115 #[.val (.long x1), .second, .val (.long x2), .second, .val (.int (1 : Int32)), .val (.int (1 : Int32)), .val (.long lo), .second, .val (.long hi), .second, .unset, .unset, .unset, .unset] [(.long x1), (.ref aN)])) rfl (by rw [hml]; rfl) (Steps.refl _) (argsL := [(.long x1)]) (rest := []) (lenOf pd_5 rfl) rfl (by show 2 * 0 + _ ≤ _; exact Nat.le_of_eq rfl) (hb hby at_115) (fun _ _ => ⟨rfl, e44, (by decide : 0 + 1 ≤ _), (by decide : 0 + 2 ≤ _)⟩)
      dsimp only [Pt.U, Pt.locs, Pt.cells, Pt.slots] at X45 l45 y45 z45 st45 hQ45
      subst l45 y45 z45
      obtain ⟨r45, rfl, N45q, B45, K45q, E45q, A45q⟩ := hQ45
      have N45 := Fr.app N43 N45q
      have ne_aN_r45 : aN ≠ r45 := Nat.ne_of_lt (Nat.lt_of_lt_of_le (EN.ext O0.2).lt B45)
      have g_r45 : n0 ≤ r45 := Nat.le_trans (O0.1 ▸ O0.2.1) B45
      have O45 := O0.keep K45q all0
      refine own_go (fun _ ww => Steps.trans st45 ww) ?_
      show own_Goes _ _ _ _ _ _ _ (T45.setTop (mkF m 118 #[.val (.long x1), .second, .val (.long x2), .second, .val (.int (1 : Int32)), .val (.int (1 : Int32)), .val (.long lo), .second, .val (.long hi), .second, .unset, .unset, .unset, .unset] [(.ref r45)]))
      obtain ⟨cq46, kq46, q46a, q46b, q46c⟩ := isOf hZ rfl E45q
      obtain ⟨_, _, ⟨T46, L46, k46, n46⟩, -, X46, ⟨Lc46, hQ46, l46, y46, z46⟩, st46⟩ := X45.virtualBack hx (y := (⟨"com/example/izin/izin/Headcount", "active", "()J"⟩ : MethodName)) (z := (⟨"com/example/izin/izin/Headcount", "active", "()J"⟩ : MethodName)) hown (mvT hZ (hw _ (List.mem_of_getElem? (i := 42) rfl))) (mvT hZ (hw _ (List.mem_of_getElem? (i := 43) rfl))) (notFace_of_selects (args := #[]) (mvT hZ (hw _ (List.mem_of_getElem? (i := 45) rfl)))) (mvT hZ (hw _ (List.mem_of_getElem? (i := 45) rfl))) (mvT hZ (hw _ (List.mem_of_getElem? (i := 44) rfl))) (by decide) (backOf (W := 0) (rm_active l Z a0 hw [] r45 ((0 : Int64) + (1 : Int64)) T45.heap n0 O45 A45q) hZ (hw _ (List.mem_of_getElem? (i := 46) rfl)) (hw _ (List.mem_of_getElem? (i := 2) rfl)) (by decide) (by decide)) q46a q46c (g := (mkF m 118 #[.val (.long x1), .second, .val (.long x2), .second, .val (.int (1 : Int32)), .val (.int (1 : Int32)), .val (.long lo), .second, .val (.long hi), .second, .unset, .unset, .unset, .unset] [(.ref r45)])) rfl (by rw [hml]; rfl) (Steps.refl _) (argsL := []) (rest := []) (lenOf pd_6 rfl) rfl (by show 2 * 0 + _ ≤ _; exact Nat.le_of_eq rfl) (hb hby at_118) (fun _ _ => ⟨rfl, rfl, (by decide : 1 + 0 ≤ _), (by decide : 2 + 0 ≤ _)⟩)
      dsimp only [Pt.U, Pt.locs, Pt.cells, Pt.slots] at X46 l46 y46 z46 st46 hQ46
      subst l46 y46 z46
      obtain ⟨rfl, N46q, e46⟩ := hQ46
      have N46 := Fr.app N45 N46q
      refine own_go (fun _ ww => Steps.trans st46 ww) ?_
      show own_Goes _ _ _ _ _ _ _ (T46.setTop (mkF m 121 #[.val (.long x1), .second, .val (.long x2), .second, .val (.int (1 : Int32)), .val (.int (1 : Int32)), .val (.long lo), .second, .val (.long hi), .second, .unset, .unset, .unset, .unset] [(.long ((0 : Int64) + (1 : Int64)))]))
      refine own_go (fun _ ww => XT.lstore X46.here hx rfl (hb hby at_121) rfl (l' := #[.val (.long x1), .second, .val (.long x2), .second, .val (.int (1 : Int32)), .val (.int (1 : Int32)), .val (.long lo), .second, .val (.long hi), .second, .val (.long ((0 : Int64) + (1 : Int64))), .second, .unset, .unset]) rfl ww) ?_
      show own_Goes _ _ _ _ _ _ _ (T46.setTop (mkF m 123 #[.val (.long x1), .second, .val (.long x2), .second, .val (.int (1 : Int32)), .val (.int (1 : Int32)), .val (.long lo), .second, .val (.long hi), .second, .val (.long ((0 : Int64) + (1 : Int64))), .second, .unset, .unset] []))
      refine own_go (fun _ ww => XS.iload X46.here hx rfl (hb hby at_123) rfl  ww) ?_
      show own_Goes _ _ _ _ _ _ _ (T46.setTop (mkF m 125 #[.val (.long x1), .second, .val (.long x2), .second, .val (.int (1 : Int32)), .val (.int (1 : Int32)), .val (.long lo), .second, .val (.long hi), .second, .val (.long ((0 : Int64) + (1 : Int64))), .second, .unset, .unset] [(.int (1 : Int32))]))
      refine own_go (fun _ ww => XS.ifNo X46.here hx rfl (hb hby at_125) rfl (own_if .eq (feq (by decide : ¬ ((1 : Int32) = (0 : Int32)))).1) ww) ?_
      show own_Goes _ _ _ _ _ _ _ (T46.setTop (mkF m 128 #[.val (.long x1), .second, .val (.long x2), .second, .val (.int (1 : Int32)), .val (.int (1 : Int32)), .val (.long lo), .second, .val (.long hi), .second, .val (.long ((0 : Int64) + (1 : Int64))), .second, .unset, .unset] []))
      refine own_go (fun _ ww => XT.lconst X46.here hx rfl (hb hby at_128) ww) ?_
      show own_Goes _ _ _ _ _ _ _ (T46.setTop (mkF m 129 #[.val (.long x1), .second, .val (.long x2), .second, .val (.int (1 : Int32)), .val (.int (1 : Int32)), .val (.long lo), .second, .val (.long hi), .second, .val (.long ((0 : Int64) + (1 : Int64))), .second, .unset, .unset] [(.long (1 : Int64))]))
      refine own_go (fun _ ww => XS.goto X46.here hx rfl (pc0 := 129) (pc' := 133) rfl (hb hby at_129) (by decide) (by decide) ww) ?_
      show own_Goes _ _ _ _ _ _ _ (T46.setTop (mkF m 133 #[.val (.long x1), .second, .val (.long x2), .second, .val (.int (1 : Int32)), .val (.int (1 : Int32)), .val (.long lo), .second, .val (.long hi), .second, .val (.long ((0 : Int64) + (1 : Int64))), .second, .unset, .unset] [(.long (1 : Int64))]))
      refine own_go (fun _ ww => XT.lstore X46.here hx rfl (hb hby at_133) rfl (l' := #[.val (.long x1), .second, .val (.long x2), .second, .val (.int (1 : Int32)), .val (.int (1 : Int32)), .val (.long lo), .second, .val (.long hi), .second, .val (.long ((0 : Int64) + (1 : Int64))), .second, .val (.long (1 : Int64)), .second]) rfl ww) ?_
      show own_Goes _ _ _ _ _ _ _ (T46.setTop (mkF m 135 #[.val (.long x1), .second, .val (.long x2), .second, .val (.int (1 : Int32)), .val (.int (1 : Int32)), .val (.long lo), .second, .val (.long hi), .second, .val (.long ((0 : Int64) + (1 : Int64))), .second, .val (.long (1 : Int64)), .second] []))
      refine own_go (fun _ ww => XT.lload X46.here hx rfl (hb hby at_135) rfl  ww) ?_
      show own_Goes _ _ _ _ _ _ _ (T46.setTop (mkF m 137 #[.val (.long x1), .second, .val (.long x2), .second, .val (.int (1 : Int32)), .val (.int (1 : Int32)), .val (.long lo), .second, .val (.long hi), .second, .val (.long ((0 : Int64) + (1 : Int64))), .second, .val (.long (1 : Int64)), .second] [(.long ((0 : Int64) + (1 : Int64)))]))
      refine own_go (fun _ ww => XT.lload X46.here hx rfl (hb hby at_137) rfl  ww) ?_
      show own_Goes _ _ _ _ _ _ _ (T46.setTop (mkF m 139 #[.val (.long x1), .second, .val (.long x2), .second, .val (.int (1 : Int32)), .val (.int (1 : Int32)), .val (.long lo), .second, .val (.long hi), .second, .val (.long ((0 : Int64) + (1 : Int64))), .second, .val (.long (1 : Int64)), .second] [(.long (1 : Int64)), (.long ((0 : Int64) + (1 : Int64)))]))
      refine own_go (fun _ ww => XT.lcmp X46.here hx rfl (hb hby at_139) rfl ww) ?_
      show own_Goes _ _ _ _ _ _ _ (T46.setTop (mkF m 140 #[.val (.long x1), .second, .val (.long x2), .second, .val (.int (1 : Int32)), .val (.int (1 : Int32)), .val (.long lo), .second, .val (.long hi), .second, .val (.long ((0 : Int64) + (1 : Int64))), .second, .val (.long (1 : Int64)), .second] [(.int (XT.cmpL ((0 : Int64) + (1 : Int64)) (1 : Int64)))]))
      refine own_go (fun _ ww => XS.ifNo X46.here hx rfl (hb hby at_140) rfl (own_if .ne (teq (by decide)).2) ww) ?_
      show own_Goes _ _ _ _ _ _ _ (T46.setTop (mkF m 143 #[.val (.long x1), .second, .val (.long x2), .second, .val (.int (1 : Int32)), .val (.int (1 : Int32)), .val (.long lo), .second, .val (.long hi), .second, .val (.long ((0 : Int64) + (1 : Int64))), .second, .val (.long (1 : Int64)), .second] []))
      refine own_go (fun _ ww => XS.iconst X46.here hx rfl (hb hby at_143) ww) ?_
      show own_Goes _ _ _ _ _ _ _ (T46.setTop (mkF m 144 #[.val (.long x1), .second, .val (.long x2), .second, .val (.int (1 : Int32)), .val (.int (1 : Int32)), .val (.long lo), .second, .val (.long hi), .second, .val (.long ((0 : Int64) + (1 : Int64))), .second, .val (.long (1 : Int64)), .second] [(.int (1 : Int32))]))
      refine own_go (fun _ ww => XS.goto X46.here hx rfl (pc0 := 144) (pc' := 148) rfl (hb hby at_144) (by decide) (by decide) ww) ?_
      show own_Goes _ _ _ _ _ _ _ (T46.setTop (mkF m 148 #[.val (.long x1), .second, .val (.long x2), .second, .val (.int (1 : Int32)), .val (.int (1 : Int32)), .val (.long lo), .second, .val (.long hi), .second, .val (.long ((0 : Int64) + (1 : Int64))), .second, .val (.long (1 : Int64)), .second] [(.int (1 : Int32))]))
      exact own_out X46 hlk (v := some (.int (1 : Int32))) (fun h => by rw [hret] at h; cases h) (fun fs hr => retOut X46 hx (t := .boolean) hret (by decide) (Or.inl ⟨rfl, by simp, _, rfl⟩) (hb hby at_148) hr) e46 ⟨rfl, N46⟩ (by decide) (by decide)
  ·
    show own_Goes _ _ _ _ _ _ _ (s₁.setTop (mkF m 0 #[.val (.long x1), .second, .val (.long x2), .second, .unset, .unset, .unset, .unset, .unset, .unset, .unset, .unset, .unset, .unset] []))
    refine own_go (fun _ ww => XT.lloadN X0.here hx rfl (hb hby at_0) rfl  ww) ?_
    show own_Goes _ _ _ _ _ _ _ (s₁.setTop (mkF m 1 #[.val (.long x1), .second, .val (.long x2), .second, .unset, .unset, .unset, .unset, .unset, .unset, .unset, .unset, .unset, .unset] [(.long x1)]))
    obtain ⟨_, _, ⟨T47, L47, k47, n47⟩, -, X47, ⟨Lc47, hQ47, l47, y47, z47⟩, st47⟩ := Jvm.LawKit.callS X0 hx (y := (⟨"com/example/izin/izin/Headcount", "isActive", "(J)Z"⟩ : MethodName)) hown (mvT hZ (hw _ (List.mem_of_getElem? (i := 0) rfl))) (mvT hZ (hw _ (List.mem_of_getElem? (i := 1) rfl))) (mvT hZ (hw _ (List.mem_of_getElem? (i := 2) rfl))) (mvT hZ (hw _ (List.mem_of_getElem? (i := 3) rfl))) (by decide) (backOf (W := 0) (rm_act l Z a0 hw [] x1 (0 : Int32) h0 n0 O0 (fun q => absurd q hp) (fun _ => rfl)) hZ (hw _ (List.mem_of_getElem? (i := 3) rfl)) (hw _ (List.mem_of_getElem? (i := 2) rfl)) (by decide) (by decide)) (g := (mkF m 1 #[.val (.long x1), .second, .val (.long x2), .second, .unset, .unset, .unset, .unset, .unset, .unset, .unset, .unset, .unset, .unset] [(.long x1)])) rfl (by rw [hml]; rfl) (argsL := [(.long x1)]) (rest := []) (lenOf pd_1 rfl) rfl (by show 2 * 0 + _ ≤ _; exact Nat.le_of_eq rfl) (hb hby at_1) (fun _ _ => ⟨rfl, e0, (by decide : 0 + 0 ≤ _), (by decide : 0 + 0 ≤ _)⟩)
    dsimp only [Pt.U, Pt.locs, Pt.cells, Pt.slots] at X47 l47 y47 z47 st47 hQ47
    subst l47 y47 z47
    obtain ⟨rfl, N47q, e47⟩ := hQ47
    have N47 := Fr.app N0 N47q
    refine own_go st47 ?_
    show own_Goes _ _ _ _ _ _ _ (T47.setTop (mkF m 4 #[.val (.long x1), .second, .val (.long x2), .second, .unset, .unset, .unset, .unset, .unset, .unset, .unset, .unset, .unset, .unset] [(.int (0 : Int32))]))
    refine own_go (fun _ ww => XS.istore X47.here hx rfl (hb hby at_4) rfl (l' := #[.val (.long x1), .second, .val (.long x2), .second, .val (.int (0 : Int32)), .unset, .unset, .unset, .unset, .unset, .unset, .unset, .unset, .unset]) rfl ww) ?_
    show own_Goes _ _ _ _ _ _ _ (T47.setTop (mkF m 6 #[.val (.long x1), .second, .val (.long x2), .second, .val (.int (0 : Int32)), .unset, .unset, .unset, .unset, .unset, .unset, .unset, .unset, .unset] []))
    refine own_go (fun _ ww => XT.lloadN X47.here hx rfl (hb hby at_6) rfl  ww) ?_
    show own_Goes _ _ _ _ _ _ _ (T47.setTop (mkF m 7 #[.val (.long x1), .second, .val (.long x2), .second, .val (.int (0 : Int32)), .unset, .unset, .unset, .unset, .unset, .unset, .unset, .unset, .unset] [(.long x1)]))
    refine own_go (fun _ ww => XT.lconst X47.here hx rfl (hb hby at_7) ww) ?_
    show own_Goes _ _ _ _ _ _ _ (T47.setTop (mkF m 8 #[.val (.long x1), .second, .val (.long x2), .second, .val (.int (0 : Int32)), .unset, .unset, .unset, .unset, .unset, .unset, .unset, .unset, .unset] [(.long (1 : Int64)), (.long x1)]))
    refine own_go (fun _ ww => XT.lcmp X47.here hx rfl (hb hby at_8) rfl ww) ?_
    show own_Goes _ _ _ _ _ _ _ (T47.setTop (mkF m 9 #[.val (.long x1), .second, .val (.long x2), .second, .val (.int (0 : Int32)), .unset, .unset, .unset, .unset, .unset, .unset, .unset, .unset, .unset] [(.int (XT.cmpL x1 (1 : Int64)))]))
    refine own_go (fun _ ww => XS.ifYes X47.here hx rfl (pc0 := 9) (pc' := 16) rfl (hb hby at_9) rfl (own_if .lt (tlt (own_lt1 hp)).1) (by decide) (by decide) ww) ?_
    show own_Goes _ _ _ _ _ _ _ (T47.setTop (mkF m 16 #[.val (.long x1), .second, .val (.long x2), .second, .val (.int (0 : Int32)), .unset, .unset, .unset, .unset, .unset, .unset, .unset, .unset, .unset] []))
    refine own_go (fun _ ww => XS.iconst X47.here hx rfl (hb hby at_16) ww) ?_
    show own_Goes _ _ _ _ _ _ _ (T47.setTop (mkF m 17 #[.val (.long x1), .second, .val (.long x2), .second, .val (.int (0 : Int32)), .unset, .unset, .unset, .unset, .unset, .unset, .unset, .unset, .unset] [(.int (0 : Int32))]))
    refine own_go (fun _ ww => XS.istore X47.here hx rfl (hb hby at_17) rfl (l' := #[.val (.long x1), .second, .val (.long x2), .second, .val (.int (0 : Int32)), .val (.int (0 : Int32)), .unset, .unset, .unset, .unset, .unset, .unset, .unset, .unset]) rfl ww) ?_
    show own_Goes _ _ _ _ _ _ _ (T47.setTop (mkF m 19 #[.val (.long x1), .second, .val (.long x2), .second, .val (.int (0 : Int32)), .val (.int (0 : Int32)), .unset, .unset, .unset, .unset, .unset, .unset, .unset, .unset] []))
    refine own_go (fun _ ww => XS.iload X47.here hx rfl (hb hby at_19) rfl  ww) ?_
    show own_Goes _ _ _ _ _ _ _ (T47.setTop (mkF m 21 #[.val (.long x1), .second, .val (.long x2), .second, .val (.int (0 : Int32)), .val (.int (0 : Int32)), .unset, .unset, .unset, .unset, .unset, .unset, .unset, .unset] [(.int (0 : Int32))]))
    refine own_go (fun _ ww => XS.iload X47.here hx rfl (hb hby at_21) rfl  ww) ?_
    show own_Goes _ _ _ _ _ _ _ (T47.setTop (mkF m 23 #[.val (.long x1), .second, .val (.long x2), .second, .val (.int (0 : Int32)), .val (.int (0 : Int32)), .unset, .unset, .unset, .unset, .unset, .unset, .unset, .unset] [(.int (0 : Int32)), (.int (0 : Int32))]))
    refine own_go (fun _ ww => XS.icmpYes X47.here hx rfl (pc0 := 23) (pc' := 28) rfl (hb hby at_23) rfl (teq (by decide : (0 : Int32) = (0 : Int32))).1 (by decide) (by decide) ww) ?_
    show own_Goes _ _ _ _ _ _ _ (T47.setTop (mkF m 28 #[.val (.long x1), .second, .val (.long x2), .second, .val (.int (0 : Int32)), .val (.int (0 : Int32)), .unset, .unset, .unset, .unset, .unset, .unset, .unset, .unset] []))
    obtain ⟨lo, hi, mn1, mn0, mx1, mx0, hlh⟩ := own_mm x1 x2
    refine own_go (fun _ ww => XT.lloadN X47.here hx rfl (hb hby at_28) rfl  ww) ?_
    show own_Goes _ _ _ _ _ _ _ (T47.setTop (mkF m 29 #[.val (.long x1), .second, .val (.long x2), .second, .val (.int (0 : Int32)), .val (.int (0 : Int32)), .unset, .unset, .unset, .unset, .unset, .unset, .unset, .unset] [(.long x1)]))
    refine own_go (fun _ ww => XT.lloadN X47.here hx rfl (hb hby at_29) rfl  ww) ?_
    show own_Goes _ _ _ _ _ _ _ (T47.setTop (mkF m 30 #[.val (.long x1), .second, .val (.long x2), .second, .val (.int (0 : Int32)), .val (.int (0 : Int32)), .unset, .unset, .unset, .unset, .unset, .unset, .unset, .unset] [(.long x2), (.long x1)]))
    obtain ⟨_, _, ⟨T48, L48, k48, n48⟩, -, X48, ⟨Lc48, hQ48, l48, y48, z48⟩, st48⟩ := Jvm.LawKit.callS X47 hx (y := (⟨"java/lang/Math", "min", "(JJ)J"⟩ : MethodName)) hown (mvT hZ (hw _ (List.mem_of_getElem? (i := 4) rfl))) (mvT hZ (hw _ (List.mem_of_getElem? (i := 5) rfl))) (mvT hZ (hw _ (List.mem_of_getElem? (i := 6) rfl))) (mvT hZ (hw _ (List.mem_of_getElem? (i := 7) rfl))) (by decide) (backOf (W := 0) (rm_min l Z a0 hw [] x1 x2 lo h0 n0 O0 mn1 mn0) hZ (hw _ (List.mem_of_getElem? (i := 7) rfl)) (hw _ (List.mem_of_getElem? (i := 6) rfl)) (by decide) (by decide)) (g := (mkF m 30 #[.val (.long x1), .second, .val (.long x2), .second, .val (.int (0 : Int32)), .val (.int (0 : Int32)), .unset, .unset, .unset, .unset, .unset, .unset, .unset, .unset] [(.long x2), (.long x1)])) rfl (by rw [hml]; rfl) (argsL := [(.long x1), (.long x2)]) (rest := []) (lenOf pd_4 rfl) rfl (by show 2 * 0 + _ ≤ _; exact Nat.le_of_eq rfl) (hb hby at_30) (fun _ _ => ⟨rfl, e47, (by decide : 0 + 0 ≤ _), (by decide : 0 + 0 ≤ _)⟩)
    dsimp only [Pt.U, Pt.locs, Pt.cells, Pt.slots] at X48 l48 y48 z48 st48 hQ48
    subst l48 y48 z48
    obtain ⟨rfl, N48q, e48⟩ := hQ48
    have N48 := Fr.app N47 N48q
    refine own_go st48 ?_
    show own_Goes _ _ _ _ _ _ _ (T48.setTop (mkF m 33 #[.val (.long x1), .second, .val (.long x2), .second, .val (.int (0 : Int32)), .val (.int (0 : Int32)), .unset, .unset, .unset, .unset, .unset, .unset, .unset, .unset] [(.long lo)]))
    refine own_go (fun _ ww => XT.lstore X48.here hx rfl (hb hby at_33) rfl (l' := #[.val (.long x1), .second, .val (.long x2), .second, .val (.int (0 : Int32)), .val (.int (0 : Int32)), .val (.long lo), .second, .unset, .unset, .unset, .unset, .unset, .unset]) rfl ww) ?_
    show own_Goes _ _ _ _ _ _ _ (T48.setTop (mkF m 35 #[.val (.long x1), .second, .val (.long x2), .second, .val (.int (0 : Int32)), .val (.int (0 : Int32)), .val (.long lo), .second, .unset, .unset, .unset, .unset, .unset, .unset] []))
    refine own_go (fun _ ww => XT.lloadN X48.here hx rfl (hb hby at_35) rfl  ww) ?_
    show own_Goes _ _ _ _ _ _ _ (T48.setTop (mkF m 36 #[.val (.long x1), .second, .val (.long x2), .second, .val (.int (0 : Int32)), .val (.int (0 : Int32)), .val (.long lo), .second, .unset, .unset, .unset, .unset, .unset, .unset] [(.long x1)]))
    refine own_go (fun _ ww => XT.lloadN X48.here hx rfl (hb hby at_36) rfl  ww) ?_
    show own_Goes _ _ _ _ _ _ _ (T48.setTop (mkF m 37 #[.val (.long x1), .second, .val (.long x2), .second, .val (.int (0 : Int32)), .val (.int (0 : Int32)), .val (.long lo), .second, .unset, .unset, .unset, .unset, .unset, .unset] [(.long x2), (.long x1)]))
    obtain ⟨_, _, ⟨T49, L49, k49, n49⟩, -, X49, ⟨Lc49, hQ49, l49, y49, z49⟩, st49⟩ := Jvm.LawKit.callS X48 hx (y := (⟨"java/lang/Math", "max", "(JJ)J"⟩ : MethodName)) hown (mvT hZ (hw _ (List.mem_of_getElem? (i := 8) rfl))) (mvT hZ (hw _ (List.mem_of_getElem? (i := 9) rfl))) (mvT hZ (hw _ (List.mem_of_getElem? (i := 6) rfl))) (mvT hZ (hw _ (List.mem_of_getElem? (i := 10) rfl))) (by decide) (backOf (W := 0) (rm_max l Z a0 hw [] x1 x2 hi h0 n0 O0 mx1 mx0) hZ (hw _ (List.mem_of_getElem? (i := 10) rfl)) (hw _ (List.mem_of_getElem? (i := 6) rfl)) (by decide) (by decide)) (g := (mkF m 37 #[.val (.long x1), .second, .val (.long x2), .second, .val (.int (0 : Int32)), .val (.int (0 : Int32)), .val (.long lo), .second, .unset, .unset, .unset, .unset, .unset, .unset] [(.long x2), (.long x1)])) rfl (by rw [hml]; rfl) (argsL := [(.long x1), (.long x2)]) (rest := []) (lenOf pd_4 rfl) rfl (by show 2 * 0 + _ ≤ _; exact Nat.le_of_eq rfl) (hb hby at_37) (fun _ _ => ⟨rfl, e48, (by decide : 0 + 0 ≤ _), (by decide : 0 + 0 ≤ _)⟩)
    dsimp only [Pt.U, Pt.locs, Pt.cells, Pt.slots] at X49 l49 y49 z49 st49 hQ49
    subst l49 y49 z49
    obtain ⟨rfl, N49q, e49⟩ := hQ49
    have N49 := Fr.app N48 N49q
    refine own_go st49 ?_
    show own_Goes _ _ _ _ _ _ _ (T49.setTop (mkF m 40 #[.val (.long x1), .second, .val (.long x2), .second, .val (.int (0 : Int32)), .val (.int (0 : Int32)), .val (.long lo), .second, .unset, .unset, .unset, .unset, .unset, .unset] [(.long hi)]))
    refine own_go (fun _ ww => XT.lstore X49.here hx rfl (hb hby at_40) rfl (l' := #[.val (.long x1), .second, .val (.long x2), .second, .val (.int (0 : Int32)), .val (.int (0 : Int32)), .val (.long lo), .second, .val (.long hi), .second, .unset, .unset, .unset, .unset]) rfl ww) ?_
    show own_Goes _ _ _ _ _ _ _ (T49.setTop (mkF m 42 #[.val (.long x1), .second, .val (.long x2), .second, .val (.int (0 : Int32)), .val (.int (0 : Int32)), .val (.long lo), .second, .val (.long hi), .second, .unset, .unset, .unset, .unset] []))
    refine own_go (fun _ ww => XT.lload X49.here hx rfl (hb hby at_42) rfl  ww) ?_
    show own_Goes _ _ _ _ _ _ _ (T49.setTop (mkF m 44 #[.val (.long x1), .second, .val (.long x2), .second, .val (.int (0 : Int32)), .val (.int (0 : Int32)), .val (.long lo), .second, .val (.long hi), .second, .unset, .unset, .unset, .unset] [(.long lo)]))
    by_cases hl : (0 : Int64) < lo
    ·
      have hh := hlh hl
      show own_Goes _ _ _ _ _ _ _ (T49.setTop (mkF m 44 #[.val (.long x1), .second, .val (.long x2), .second, .val (.int (0 : Int32)), .val (.int (0 : Int32)), .val (.long lo), .second, .val (.long hi), .second, .unset, .unset, .unset, .unset] [(.long lo)]))
      obtain ⟨_, _, ⟨T50, L50, k50, n50⟩, -, X50, ⟨Lc50, hQ50, l50, y50, z50⟩, st50⟩ := Jvm.LawKit.callS X49 hx (y := (⟨"com/example/izin/izin/Headcount", "isActive", "(J)Z"⟩ : MethodName)) hown (mvT hZ (hw _ (List.mem_of_getElem? (i := 0) rfl))) (mvT hZ (hw _ (List.mem_of_getElem? (i := 1) rfl))) (mvT hZ (hw _ (List.mem_of_getElem? (i := 2) rfl))) (mvT hZ (hw _ (List.mem_of_getElem? (i := 3) rfl))) (by decide) (backOf (W := 0) (rm_act l Z a0 hw [] lo (1 : Int32) h0 n0 O0 (fun _ => rfl) (fun q => absurd hl q)) hZ (hw _ (List.mem_of_getElem? (i := 3) rfl)) (hw _ (List.mem_of_getElem? (i := 2) rfl)) (by decide) (by decide)) (g := (mkF m 44 #[.val (.long x1), .second, .val (.long x2), .second, .val (.int (0 : Int32)), .val (.int (0 : Int32)), .val (.long lo), .second, .val (.long hi), .second, .unset, .unset, .unset, .unset] [(.long lo)])) rfl (by rw [hml]; rfl) (argsL := [(.long lo)]) (rest := []) (lenOf pd_1 rfl) rfl (by show 2 * 0 + _ ≤ _; exact Nat.le_of_eq rfl) (hb hby at_44) (fun _ _ => ⟨rfl, e49, (by decide : 0 + 0 ≤ _), (by decide : 0 + 0 ≤ _)⟩)
      dsimp only [Pt.U, Pt.locs, Pt.cells, Pt.slots] at X50 l50 y50 z50 st50 hQ50
      subst l50 y50 z50
      obtain ⟨rfl, N50q, e50⟩ := hQ50
      have N50 := Fr.app N49 N50q
      refine own_go st50 ?_
      show own_Goes _ _ _ _ _ _ _ (T50.setTop (mkF m 47 #[.val (.long x1), .second, .val (.long x2), .second, .val (.int (0 : Int32)), .val (.int (0 : Int32)), .val (.long lo), .second, .val (.long hi), .second, .unset, .unset, .unset, .unset] [(.int (1 : Int32))]))
      refine own_go (fun _ ww => XS.ifNo X50.here hx rfl (hb hby at_47) rfl (own_if .eq (feq (by decide : ¬ ((1 : Int32) = (0 : Int32)))).1) ww) ?_
      show own_Goes _ _ _ _ _ _ _ (T50.setTop (mkF m 50 #[.val (.long x1), .second, .val (.long x2), .second, .val (.int (0 : Int32)), .val (.int (0 : Int32)), .val (.long lo), .second, .val (.long hi), .second, .unset, .unset, .unset, .unset] []))
      refine own_go (fun _ ww => XT.lload X50.here hx rfl (hb hby at_50) rfl  ww) ?_
      show own_Goes _ _ _ _ _ _ _ (T50.setTop (mkF m 52 #[.val (.long x1), .second, .val (.long x2), .second, .val (.int (0 : Int32)), .val (.int (0 : Int32)), .val (.long lo), .second, .val (.long hi), .second, .unset, .unset, .unset, .unset] [(.long hi)]))
      obtain ⟨_, _, ⟨T51, L51, k51, n51⟩, -, X51, ⟨Lc51, hQ51, l51, y51, z51⟩, st51⟩ := Jvm.LawKit.callS X50 hx (y := (⟨"com/example/izin/izin/Headcount", "isActive", "(J)Z"⟩ : MethodName)) hown (mvT hZ (hw _ (List.mem_of_getElem? (i := 0) rfl))) (mvT hZ (hw _ (List.mem_of_getElem? (i := 1) rfl))) (mvT hZ (hw _ (List.mem_of_getElem? (i := 2) rfl))) (mvT hZ (hw _ (List.mem_of_getElem? (i := 3) rfl))) (by decide) (backOf (W := 0) (rm_act l Z a0 hw [] hi (1 : Int32) h0 n0 O0 (fun _ => rfl) (fun q => absurd hh q)) hZ (hw _ (List.mem_of_getElem? (i := 3) rfl)) (hw _ (List.mem_of_getElem? (i := 2) rfl)) (by decide) (by decide)) (g := (mkF m 52 #[.val (.long x1), .second, .val (.long x2), .second, .val (.int (0 : Int32)), .val (.int (0 : Int32)), .val (.long lo), .second, .val (.long hi), .second, .unset, .unset, .unset, .unset] [(.long hi)])) rfl (by rw [hml]; rfl) (argsL := [(.long hi)]) (rest := []) (lenOf pd_1 rfl) rfl (by show 2 * 0 + _ ≤ _; exact Nat.le_of_eq rfl) (hb hby at_52) (fun _ _ => ⟨rfl, e50, (by decide : 0 + 0 ≤ _), (by decide : 0 + 0 ≤ _)⟩)
      dsimp only [Pt.U, Pt.locs, Pt.cells, Pt.slots] at X51 l51 y51 z51 st51 hQ51
      subst l51 y51 z51
      obtain ⟨rfl, N51q, e51⟩ := hQ51
      have N51 := Fr.app N50 N51q
      refine own_go st51 ?_
      show own_Goes _ _ _ _ _ _ _ (T51.setTop (mkF m 55 #[.val (.long x1), .second, .val (.long x2), .second, .val (.int (0 : Int32)), .val (.int (0 : Int32)), .val (.long lo), .second, .val (.long hi), .second, .unset, .unset, .unset, .unset] [(.int (1 : Int32))]))
      refine own_go (fun _ ww => XS.ifYes X51.here hx rfl (pc0 := 55) (pc' := 60) rfl (hb hby at_55) rfl (own_if .ne (feq (by decide : ¬ ((1 : Int32) = (0 : Int32)))).2) (by decide) (by decide) ww) ?_
      show own_Goes _ _ _ _ _ _ _ (T51.setTop (mkF m 60 #[.val (.long x1), .second, .val (.long x2), .second, .val (.int (0 : Int32)), .val (.int (0 : Int32)), .val (.long lo), .second, .val (.long hi), .second, .unset, .unset, .unset, .unset] []))
      refine own_go (fun _ ww => XT.lconst X51.here hx rfl (hb hby at_60) ww) ?_
      show own_Goes _ _ _ _ _ _ _ (T51.setTop (mkF m 61 #[.val (.long x1), .second, .val (.long x2), .second, .val (.int (0 : Int32)), .val (.int (0 : Int32)), .val (.long lo), .second, .val (.long hi), .second, .unset, .unset, .unset, .unset] [(.long (0 : Int64))]))
      obtain ⟨_, _, ⟨T52, L52, k52, n52⟩, -, X52, ⟨Lc52, hQ52, l52, y52, z52⟩, st52⟩ := Jvm.LawKit.callS X51 hx (y := (⟨"com/example/izin/izin/Headcount", "isActive", "(J)Z"⟩ : MethodName)) hown (mvT hZ (hw _ (List.mem_of_getElem? (i := 0) rfl))) (mvT hZ (hw _ (List.mem_of_getElem? (i := 1) rfl))) (mvT hZ (hw _ (List.mem_of_getElem? (i := 2) rfl))) (mvT hZ (hw _ (List.mem_of_getElem? (i := 3) rfl))) (by decide) (backOf (W := 0) (rm_act l Z a0 hw [] (0 : Int64) (0 : Int32) h0 n0 O0 (by decide) (by decide)) hZ (hw _ (List.mem_of_getElem? (i := 3) rfl)) (hw _ (List.mem_of_getElem? (i := 2) rfl)) (by decide) (by decide)) (g := (mkF m 61 #[.val (.long x1), .second, .val (.long x2), .second, .val (.int (0 : Int32)), .val (.int (0 : Int32)), .val (.long lo), .second, .val (.long hi), .second, .unset, .unset, .unset, .unset] [(.long (0 : Int64))])) rfl (by rw [hml]; rfl) (argsL := [(.long (0 : Int64))]) (rest := []) (lenOf pd_1 rfl) rfl (by show 2 * 0 + _ ≤ _; exact Nat.le_of_eq rfl) (hb hby at_61) (fun _ _ => ⟨rfl, e51, (by decide : 0 + 0 ≤ _), (by decide : 0 + 0 ≤ _)⟩)
      dsimp only [Pt.U, Pt.locs, Pt.cells, Pt.slots] at X52 l52 y52 z52 st52 hQ52
      subst l52 y52 z52
      obtain ⟨rfl, N52q, e52⟩ := hQ52
      have N52 := Fr.app N51 N52q
      refine own_go st52 ?_
      show own_Goes _ _ _ _ _ _ _ (T52.setTop (mkF m 64 #[.val (.long x1), .second, .val (.long x2), .second, .val (.int (0 : Int32)), .val (.int (0 : Int32)), .val (.long lo), .second, .val (.long hi), .second, .unset, .unset, .unset, .unset] [(.int (0 : Int32))]))
      refine own_go (fun _ ww => XS.ifYes X52.here hx rfl (pc0 := 64) (pc' := 69) rfl (hb hby at_64) rfl (own_if .eq (teq (by decide : (0 : Int32) = (0 : Int32))).1) (by decide) (by decide) ww) ?_
      show own_Goes _ _ _ _ _ _ _ (T52.setTop (mkF m 69 #[.val (.long x1), .second, .val (.long x2), .second, .val (.int (0 : Int32)), .val (.int (0 : Int32)), .val (.long lo), .second, .val (.long hi), .second, .unset, .unset, .unset, .unset] []))
      refine own_go (fun _ ww => XT.lconst X52.here hx rfl (hb hby at_69) ww) ?_
      show own_Goes _ _ _ _ _ _ _ (T52.setTop (mkF m 70 #[.val (.long x1), .second, .val (.long x2), .second, .val (.int (0 : Int32)), .val (.int (0 : Int32)), .val (.long lo), .second, .val (.long hi), .second, .unset, .unset, .unset, .unset] [(.long (1 : Int64))]))
      obtain ⟨_, _, ⟨T53, L53, k53, n53⟩, -, X53, ⟨Lc53, hQ53, l53, y53, z53⟩, st53⟩ := Jvm.LawKit.callS X52 hx (y := (⟨"com/example/izin/izin/Headcount", "isActive", "(J)Z"⟩ : MethodName)) hown (mvT hZ (hw _ (List.mem_of_getElem? (i := 0) rfl))) (mvT hZ (hw _ (List.mem_of_getElem? (i := 1) rfl))) (mvT hZ (hw _ (List.mem_of_getElem? (i := 2) rfl))) (mvT hZ (hw _ (List.mem_of_getElem? (i := 3) rfl))) (by decide) (backOf (W := 0) (rm_act l Z a0 hw [] (1 : Int64) (1 : Int32) h0 n0 O0 (by decide) (by decide)) hZ (hw _ (List.mem_of_getElem? (i := 3) rfl)) (hw _ (List.mem_of_getElem? (i := 2) rfl)) (by decide) (by decide)) (g := (mkF m 70 #[.val (.long x1), .second, .val (.long x2), .second, .val (.int (0 : Int32)), .val (.int (0 : Int32)), .val (.long lo), .second, .val (.long hi), .second, .unset, .unset, .unset, .unset] [(.long (1 : Int64))])) rfl (by rw [hml]; rfl) (argsL := [(.long (1 : Int64))]) (rest := []) (lenOf pd_1 rfl) rfl (by show 2 * 0 + _ ≤ _; exact Nat.le_of_eq rfl) (hb hby at_70) (fun _ _ => ⟨rfl, e52, (by decide : 0 + 0 ≤ _), (by decide : 0 + 0 ≤ _)⟩)
      dsimp only [Pt.U, Pt.locs, Pt.cells, Pt.slots] at X53 l53 y53 z53 st53 hQ53
      subst l53 y53 z53
      obtain ⟨rfl, N53q, e53⟩ := hQ53
      have N53 := Fr.app N52 N53q
      refine own_go st53 ?_
      show own_Goes _ _ _ _ _ _ _ (T53.setTop (mkF m 73 #[.val (.long x1), .second, .val (.long x2), .second, .val (.int (0 : Int32)), .val (.int (0 : Int32)), .val (.long lo), .second, .val (.long hi), .second, .unset, .unset, .unset, .unset] [(.int (1 : Int32))]))
      refine own_go (fun _ ww => XS.ifYes X53.here hx rfl (pc0 := 73) (pc' := 78) rfl (hb hby at_73) rfl (own_if .ne (feq (by decide : ¬ ((1 : Int32) = (0 : Int32)))).2) (by decide) (by decide) ww) ?_
      show own_Goes _ _ _ _ _ _ _ (T53.setTop (mkF m 78 #[.val (.long x1), .second, .val (.long x2), .second, .val (.int (0 : Int32)), .val (.int (0 : Int32)), .val (.long lo), .second, .val (.long hi), .second, .unset, .unset, .unset, .unset] []))
      refine own_go (fun _ ww => X53.ldc2J hx hown (mvT hZ (hw _ (List.mem_of_getElem? (i := 11) rfl))) rfl (hb hby at_78) ww) ?_
      show own_Goes _ _ _ _ _ _ _ (T53.setTop (mkF m 81 #[.val (.long x1), .second, .val (.long x2), .second, .val (.int (0 : Int32)), .val (.int (0 : Int32)), .val (.long lo), .second, .val (.long hi), .second, .unset, .unset, .unset, .unset] [(.long (-1 : Int64))]))
      obtain ⟨_, _, ⟨T54, L54, k54, n54⟩, -, X54, ⟨Lc54, hQ54, l54, y54, z54⟩, st54⟩ := Jvm.LawKit.callS X53 hx (y := (⟨"com/example/izin/izin/Headcount", "isActive", "(J)Z"⟩ : MethodName)) hown (mvT hZ (hw _ (List.mem_of_getElem? (i := 0) rfl))) (mvT hZ (hw _ (List.mem_of_getElem? (i := 1) rfl))) (mvT hZ (hw _ (List.mem_of_getElem? (i := 2) rfl))) (mvT hZ (hw _ (List.mem_of_getElem? (i := 3) rfl))) (by decide) (backOf (W := 0) (rm_act l Z a0 hw [] (-1 : Int64) (0 : Int32) h0 n0 O0 (by decide) (by decide)) hZ (hw _ (List.mem_of_getElem? (i := 3) rfl)) (hw _ (List.mem_of_getElem? (i := 2) rfl)) (by decide) (by decide)) (g := (mkF m 81 #[.val (.long x1), .second, .val (.long x2), .second, .val (.int (0 : Int32)), .val (.int (0 : Int32)), .val (.long lo), .second, .val (.long hi), .second, .unset, .unset, .unset, .unset] [(.long (-1 : Int64))])) rfl (by rw [hml]; rfl) (argsL := [(.long (-1 : Int64))]) (rest := []) (lenOf pd_1 rfl) rfl (by show 2 * 0 + _ ≤ _; exact Nat.le_of_eq rfl) (hb hby at_81) (fun _ _ => ⟨rfl, e53, (by decide : 0 + 0 ≤ _), (by decide : 0 + 0 ≤ _)⟩)
      dsimp only [Pt.U, Pt.locs, Pt.cells, Pt.slots] at X54 l54 y54 z54 st54 hQ54
      subst l54 y54 z54
      obtain ⟨rfl, N54q, e54⟩ := hQ54
      have N54 := Fr.app N53 N54q
      refine own_go st54 ?_
      show own_Goes _ _ _ _ _ _ _ (T54.setTop (mkF m 84 #[.val (.long x1), .second, .val (.long x2), .second, .val (.int (0 : Int32)), .val (.int (0 : Int32)), .val (.long lo), .second, .val (.long hi), .second, .unset, .unset, .unset, .unset] [(.int (0 : Int32))]))
      refine own_go (fun _ ww => XS.ifYes X54.here hx rfl (pc0 := 84) (pc' := 89) rfl (hb hby at_84) rfl (own_if .eq (teq (by decide : (0 : Int32) = (0 : Int32))).1) (by decide) (by decide) ww) ?_
      show own_Goes _ _ _ _ _ _ _ (T54.setTop (mkF m 89 #[.val (.long x1), .second, .val (.long x2), .second, .val (.int (0 : Int32)), .val (.int (0 : Int32)), .val (.long lo), .second, .val (.long hi), .second, .unset, .unset, .unset, .unset] []))
      refine own_go (fun _ ww => X54.ldc2J hx hown (mvT hZ (hw _ (List.mem_of_getElem? (i := 12) rfl))) rfl (hb hby at_89) ww) ?_
      show own_Goes _ _ _ _ _ _ _ (T54.setTop (mkF m 92 #[.val (.long x1), .second, .val (.long x2), .second, .val (.int (0 : Int32)), .val (.int (0 : Int32)), .val (.long lo), .second, .val (.long hi), .second, .unset, .unset, .unset, .unset] [(.long (-9223372036854775808 : Int64))]))
      obtain ⟨_, _, ⟨T55, L55, k55, n55⟩, -, X55, ⟨Lc55, hQ55, l55, y55, z55⟩, st55⟩ := Jvm.LawKit.callS X54 hx (y := (⟨"com/example/izin/izin/Headcount", "isActive", "(J)Z"⟩ : MethodName)) hown (mvT hZ (hw _ (List.mem_of_getElem? (i := 0) rfl))) (mvT hZ (hw _ (List.mem_of_getElem? (i := 1) rfl))) (mvT hZ (hw _ (List.mem_of_getElem? (i := 2) rfl))) (mvT hZ (hw _ (List.mem_of_getElem? (i := 3) rfl))) (by decide) (backOf (W := 0) (rm_act l Z a0 hw [] (-9223372036854775808 : Int64) (0 : Int32) h0 n0 O0 (by decide) (by decide)) hZ (hw _ (List.mem_of_getElem? (i := 3) rfl)) (hw _ (List.mem_of_getElem? (i := 2) rfl)) (by decide) (by decide)) (g := (mkF m 92 #[.val (.long x1), .second, .val (.long x2), .second, .val (.int (0 : Int32)), .val (.int (0 : Int32)), .val (.long lo), .second, .val (.long hi), .second, .unset, .unset, .unset, .unset] [(.long (-9223372036854775808 : Int64))])) rfl (by rw [hml]; rfl) (argsL := [(.long (-9223372036854775808 : Int64))]) (rest := []) (lenOf pd_1 rfl) rfl (by show 2 * 0 + _ ≤ _; exact Nat.le_of_eq rfl) (hb hby at_92) (fun _ _ => ⟨rfl, e54, (by decide : 0 + 0 ≤ _), (by decide : 0 + 0 ≤ _)⟩)
      dsimp only [Pt.U, Pt.locs, Pt.cells, Pt.slots] at X55 l55 y55 z55 st55 hQ55
      subst l55 y55 z55
      obtain ⟨rfl, N55q, e55⟩ := hQ55
      have N55 := Fr.app N54 N55q
      refine own_go st55 ?_
      show own_Goes _ _ _ _ _ _ _ (T55.setTop (mkF m 95 #[.val (.long x1), .second, .val (.long x2), .second, .val (.int (0 : Int32)), .val (.int (0 : Int32)), .val (.long lo), .second, .val (.long hi), .second, .unset, .unset, .unset, .unset] [(.int (0 : Int32))]))
      refine own_go (fun _ ww => XS.ifYes X55.here hx rfl (pc0 := 95) (pc' := 100) rfl (hb hby at_95) rfl (own_if .eq (teq (by decide : (0 : Int32) = (0 : Int32))).1) (by decide) (by decide) ww) ?_
      show own_Goes _ _ _ _ _ _ _ (T55.setTop (mkF m 100 #[.val (.long x1), .second, .val (.long x2), .second, .val (.int (0 : Int32)), .val (.int (0 : Int32)), .val (.long lo), .second, .val (.long hi), .second, .unset, .unset, .unset, .unset] []))
      refine own_go (fun _ ww => X55.ldc2J hx hown (mvT hZ (hw _ (List.mem_of_getElem? (i := 13) rfl))) rfl (hb hby at_100) ww) ?_
      show own_Goes _ _ _ _ _ _ _ (T55.setTop (mkF m 103 #[.val (.long x1), .second, .val (.long x2), .second, .val (.int (0 : Int32)), .val (.int (0 : Int32)), .val (.long lo), .second, .val (.long hi), .second, .unset, .unset, .unset, .unset] [(.long (9223372036854775807 : Int64))]))
      obtain ⟨_, _, ⟨T56, L56, k56, n56⟩, -, X56, ⟨Lc56, hQ56, l56, y56, z56⟩, st56⟩ := Jvm.LawKit.callS X55 hx (y := (⟨"com/example/izin/izin/Headcount", "isActive", "(J)Z"⟩ : MethodName)) hown (mvT hZ (hw _ (List.mem_of_getElem? (i := 0) rfl))) (mvT hZ (hw _ (List.mem_of_getElem? (i := 1) rfl))) (mvT hZ (hw _ (List.mem_of_getElem? (i := 2) rfl))) (mvT hZ (hw _ (List.mem_of_getElem? (i := 3) rfl))) (by decide) (backOf (W := 0) (rm_act l Z a0 hw [] (9223372036854775807 : Int64) (1 : Int32) h0 n0 O0 (by decide) (by decide)) hZ (hw _ (List.mem_of_getElem? (i := 3) rfl)) (hw _ (List.mem_of_getElem? (i := 2) rfl)) (by decide) (by decide)) (g := (mkF m 103 #[.val (.long x1), .second, .val (.long x2), .second, .val (.int (0 : Int32)), .val (.int (0 : Int32)), .val (.long lo), .second, .val (.long hi), .second, .unset, .unset, .unset, .unset] [(.long (9223372036854775807 : Int64))])) rfl (by rw [hml]; rfl) (argsL := [(.long (9223372036854775807 : Int64))]) (rest := []) (lenOf pd_1 rfl) rfl (by show 2 * 0 + _ ≤ _; exact Nat.le_of_eq rfl) (hb hby at_103) (fun _ _ => ⟨rfl, e55, (by decide : 0 + 0 ≤ _), (by decide : 0 + 0 ≤ _)⟩)
      dsimp only [Pt.U, Pt.locs, Pt.cells, Pt.slots] at X56 l56 y56 z56 st56 hQ56
      subst l56 y56 z56
      obtain ⟨rfl, N56q, e56⟩ := hQ56
      have N56 := Fr.app N55 N56q
      refine own_go st56 ?_
      show own_Goes _ _ _ _ _ _ _ (T56.setTop (mkF m 106 #[.val (.long x1), .second, .val (.long x2), .second, .val (.int (0 : Int32)), .val (.int (0 : Int32)), .val (.long lo), .second, .val (.long hi), .second, .unset, .unset, .unset, .unset] [(.int (1 : Int32))]))
      refine own_go (fun _ ww => XS.ifYes X56.here hx rfl (pc0 := 106) (pc' := 111) rfl (hb hby at_106) rfl (own_if .ne (feq (by decide : ¬ ((1 : Int32) = (0 : Int32)))).2) (by decide) (by decide) ww) ?_
      show own_Goes _ _ _ _ _ _ _ (T56.setTop (mkF m 111 #[.val (.long x1), .second, .val (.long x2), .second, .val (.int (0 : Int32)), .val (.int (0 : Int32)), .val (.long lo), .second, .val (.long hi), .second, .unset, .unset, .unset, .unset] []))
      obtain ⟨T57, X57, e57, st57⟩ := getS X56 hx hZ hown (host := "") (hw _ (List.mem_of_getElem? (i := 14) rfl)) Via.refl e56 (SN.ext O0.2) (g := (mkF m 111 #[.val (.long x1), .second, .val (.long x2), .second, .val (.int (0 : Int32)), .val (.int (0 : Int32)), .val (.long lo), .second, .val (.long hi), .second, .unset, .unset, .unset, .unset] [])) rfl (hb hby at_111)
      refine own_go st57 ?_
      show own_Goes _ _ _ _ _ _ _ (T57.setTop (mkF m 114 #[.val (.long x1), .second, .val (.long x2), .second, .val (.int (0 : Int32)), .val (.int (0 : Int32)), .val (.long lo), .second, .val (.long hi), .second, .unset, .unset, .unset, .unset] [(.ref aN)]))
      refine own_go (fun _ ww => XT.lloadN X57.here hx rfl (hb hby at_114) rfl  ww) ?_
      show own_Goes _ _ _ _ _ _ _ (T57.setTop (mkF m 115 #[.val (.long x1), .second, .val (.long x2), .second, .val (.int (0 : Int32)), .val (.int (0 : Int32)), .val (.long lo), .second, .val (.long hi), .second, .unset, .unset, .unset, .unset] [(.long x1), (.ref aN)]))
      obtain ⟨cq58, kq58, q58a, q58b, q58c⟩ := isOf hZ e57 (EN.ext O0.2)
      obtain ⟨_, _, ⟨T58, L58, k58, n58⟩, -, X58, ⟨Lc58, hQ58, l58, y58, z58⟩, st58⟩ := X57.virtualBack hx (y := (⟨"com/example/izin/izin/Headcount", "plus", "(J)Lcom/example/izin/izin/Headcount;"⟩ : MethodName)) (z := (⟨"com/example/izin/izin/Headcount", "plus", "(J)Lcom/example/izin/izin/Headcount;"⟩ : MethodName)) hown (mvT hZ (hw _ (List.mem_of_getElem? (i := 16) rfl))) (mvT hZ (hw _ (List.mem_of_getElem? (i := 17) rfl))) (notFace_of_selects (args := #[]) (mvT hZ (hw _ (List.mem_of_getElem? (i := 19) rfl)))) (mvT hZ (hw _ (List.mem_of_getElem? (i := 19) rfl))) (mvT hZ (hw _ (List.mem_of_getElem? (i := 18) rfl))) (by decide) (backOf (W := 0) (rm_plus l Z a0 hw [] aN x1 (0 : Int64) h0 n0 O0 F1 F2 (fun q => absurd q hp) (fun _ => rfl)) hZ (hw _ (List.mem_of_getElem? (i := 20) rfl)) (hw _ (List.mem_of_getElem? (i := 2) rfl)) (by decide) (by decide)) q58a q58c (g := (mkF m 115 #[.val (.long x1), .second, .val (.long x2), .second, .val (.int (0 : Int32)), .val (.int (0 : Int32)), .val (.long lo), .second, .val (.long hi), .second, .unset, .unset, .unset, .unset] [(.long x1), (.ref aN)])) rfl (by rw [hml]; rfl) (Steps.refl _) (argsL := [(.long x1)]) (rest := []) (lenOf pd_5 rfl) rfl (by show 2 * 0 + _ ≤ _; exact Nat.le_of_eq rfl) (hb hby at_115) (fun _ _ => ⟨rfl, e57, (by decide : 0 + 1 ≤ _), (by decide : 0 + 2 ≤ _)⟩)
      dsimp only [Pt.U, Pt.locs, Pt.cells, Pt.slots] at X58 l58 y58 z58 st58 hQ58
      subst l58 y58 z58
      obtain ⟨r58, rfl, N58q, B58, K58q, E58q, A58q⟩ := hQ58
      have N58 := Fr.app N56 N58q
      have ne_aN_r58 : aN ≠ r58 := Nat.ne_of_lt (Nat.lt_of_lt_of_le (EN.ext O0.2).lt B58)
      have g_r58 : n0 ≤ r58 := Nat.le_trans (O0.1 ▸ O0.2.1) B58
      have O58 := O0.keep K58q all0
      refine own_go (fun _ ww => Steps.trans st58 ww) ?_
      show own_Goes _ _ _ _ _ _ _ (T58.setTop (mkF m 118 #[.val (.long x1), .second, .val (.long x2), .second, .val (.int (0 : Int32)), .val (.int (0 : Int32)), .val (.long lo), .second, .val (.long hi), .second, .unset, .unset, .unset, .unset] [(.ref r58)]))
      obtain ⟨cq59, kq59, q59a, q59b, q59c⟩ := isOf hZ rfl E58q
      obtain ⟨_, _, ⟨T59, L59, k59, n59⟩, -, X59, ⟨Lc59, hQ59, l59, y59, z59⟩, st59⟩ := X58.virtualBack hx (y := (⟨"com/example/izin/izin/Headcount", "active", "()J"⟩ : MethodName)) (z := (⟨"com/example/izin/izin/Headcount", "active", "()J"⟩ : MethodName)) hown (mvT hZ (hw _ (List.mem_of_getElem? (i := 42) rfl))) (mvT hZ (hw _ (List.mem_of_getElem? (i := 43) rfl))) (notFace_of_selects (args := #[]) (mvT hZ (hw _ (List.mem_of_getElem? (i := 45) rfl)))) (mvT hZ (hw _ (List.mem_of_getElem? (i := 45) rfl))) (mvT hZ (hw _ (List.mem_of_getElem? (i := 44) rfl))) (by decide) (backOf (W := 0) (rm_active l Z a0 hw [] r58 ((0 : Int64) + (0 : Int64)) T58.heap n0 O58 A58q) hZ (hw _ (List.mem_of_getElem? (i := 46) rfl)) (hw _ (List.mem_of_getElem? (i := 2) rfl)) (by decide) (by decide)) q59a q59c (g := (mkF m 118 #[.val (.long x1), .second, .val (.long x2), .second, .val (.int (0 : Int32)), .val (.int (0 : Int32)), .val (.long lo), .second, .val (.long hi), .second, .unset, .unset, .unset, .unset] [(.ref r58)])) rfl (by rw [hml]; rfl) (Steps.refl _) (argsL := []) (rest := []) (lenOf pd_6 rfl) rfl (by show 2 * 0 + _ ≤ _; exact Nat.le_of_eq rfl) (hb hby at_118) (fun _ _ => ⟨rfl, rfl, (by decide : 1 + 0 ≤ _), (by decide : 2 + 0 ≤ _)⟩)
      dsimp only [Pt.U, Pt.locs, Pt.cells, Pt.slots] at X59 l59 y59 z59 st59 hQ59
      subst l59 y59 z59
      obtain ⟨rfl, N59q, e59⟩ := hQ59
      have N59 := Fr.app N58 N59q
      refine own_go (fun _ ww => Steps.trans st59 ww) ?_
      show own_Goes _ _ _ _ _ _ _ (T59.setTop (mkF m 121 #[.val (.long x1), .second, .val (.long x2), .second, .val (.int (0 : Int32)), .val (.int (0 : Int32)), .val (.long lo), .second, .val (.long hi), .second, .unset, .unset, .unset, .unset] [(.long ((0 : Int64) + (0 : Int64)))]))
      refine own_go (fun _ ww => XT.lstore X59.here hx rfl (hb hby at_121) rfl (l' := #[.val (.long x1), .second, .val (.long x2), .second, .val (.int (0 : Int32)), .val (.int (0 : Int32)), .val (.long lo), .second, .val (.long hi), .second, .val (.long ((0 : Int64) + (0 : Int64))), .second, .unset, .unset]) rfl ww) ?_
      show own_Goes _ _ _ _ _ _ _ (T59.setTop (mkF m 123 #[.val (.long x1), .second, .val (.long x2), .second, .val (.int (0 : Int32)), .val (.int (0 : Int32)), .val (.long lo), .second, .val (.long hi), .second, .val (.long ((0 : Int64) + (0 : Int64))), .second, .unset, .unset] []))
      refine own_go (fun _ ww => XS.iload X59.here hx rfl (hb hby at_123) rfl  ww) ?_
      show own_Goes _ _ _ _ _ _ _ (T59.setTop (mkF m 125 #[.val (.long x1), .second, .val (.long x2), .second, .val (.int (0 : Int32)), .val (.int (0 : Int32)), .val (.long lo), .second, .val (.long hi), .second, .val (.long ((0 : Int64) + (0 : Int64))), .second, .unset, .unset] [(.int (0 : Int32))]))
      refine own_go (fun _ ww => XS.ifYes X59.here hx rfl (pc0 := 125) (pc' := 132) rfl (hb hby at_125) rfl (own_if .eq (teq (by decide : (0 : Int32) = (0 : Int32))).1) (by decide) (by decide) ww) ?_
      show own_Goes _ _ _ _ _ _ _ (T59.setTop (mkF m 132 #[.val (.long x1), .second, .val (.long x2), .second, .val (.int (0 : Int32)), .val (.int (0 : Int32)), .val (.long lo), .second, .val (.long hi), .second, .val (.long ((0 : Int64) + (0 : Int64))), .second, .unset, .unset] []))
      refine own_go (fun _ ww => XT.lconst X59.here hx rfl (hb hby at_132) ww) ?_
      show own_Goes _ _ _ _ _ _ _ (T59.setTop (mkF m 133 #[.val (.long x1), .second, .val (.long x2), .second, .val (.int (0 : Int32)), .val (.int (0 : Int32)), .val (.long lo), .second, .val (.long hi), .second, .val (.long ((0 : Int64) + (0 : Int64))), .second, .unset, .unset] [(.long (0 : Int64))]))
      refine own_go (fun _ ww => XT.lstore X59.here hx rfl (hb hby at_133) rfl (l' := #[.val (.long x1), .second, .val (.long x2), .second, .val (.int (0 : Int32)), .val (.int (0 : Int32)), .val (.long lo), .second, .val (.long hi), .second, .val (.long ((0 : Int64) + (0 : Int64))), .second, .val (.long (0 : Int64)), .second]) rfl ww) ?_
      show own_Goes _ _ _ _ _ _ _ (T59.setTop (mkF m 135 #[.val (.long x1), .second, .val (.long x2), .second, .val (.int (0 : Int32)), .val (.int (0 : Int32)), .val (.long lo), .second, .val (.long hi), .second, .val (.long ((0 : Int64) + (0 : Int64))), .second, .val (.long (0 : Int64)), .second] []))
      refine own_go (fun _ ww => XT.lload X59.here hx rfl (hb hby at_135) rfl  ww) ?_
      show own_Goes _ _ _ _ _ _ _ (T59.setTop (mkF m 137 #[.val (.long x1), .second, .val (.long x2), .second, .val (.int (0 : Int32)), .val (.int (0 : Int32)), .val (.long lo), .second, .val (.long hi), .second, .val (.long ((0 : Int64) + (0 : Int64))), .second, .val (.long (0 : Int64)), .second] [(.long ((0 : Int64) + (0 : Int64)))]))
      refine own_go (fun _ ww => XT.lload X59.here hx rfl (hb hby at_137) rfl  ww) ?_
      show own_Goes _ _ _ _ _ _ _ (T59.setTop (mkF m 139 #[.val (.long x1), .second, .val (.long x2), .second, .val (.int (0 : Int32)), .val (.int (0 : Int32)), .val (.long lo), .second, .val (.long hi), .second, .val (.long ((0 : Int64) + (0 : Int64))), .second, .val (.long (0 : Int64)), .second] [(.long (0 : Int64)), (.long ((0 : Int64) + (0 : Int64)))]))
      refine own_go (fun _ ww => XT.lcmp X59.here hx rfl (hb hby at_139) rfl ww) ?_
      show own_Goes _ _ _ _ _ _ _ (T59.setTop (mkF m 140 #[.val (.long x1), .second, .val (.long x2), .second, .val (.int (0 : Int32)), .val (.int (0 : Int32)), .val (.long lo), .second, .val (.long hi), .second, .val (.long ((0 : Int64) + (0 : Int64))), .second, .val (.long (0 : Int64)), .second] [(.int (XT.cmpL ((0 : Int64) + (0 : Int64)) (0 : Int64)))]))
      refine own_go (fun _ ww => XS.ifNo X59.here hx rfl (hb hby at_140) rfl (own_if .ne (teq (by decide)).2) ww) ?_
      show own_Goes _ _ _ _ _ _ _ (T59.setTop (mkF m 143 #[.val (.long x1), .second, .val (.long x2), .second, .val (.int (0 : Int32)), .val (.int (0 : Int32)), .val (.long lo), .second, .val (.long hi), .second, .val (.long ((0 : Int64) + (0 : Int64))), .second, .val (.long (0 : Int64)), .second] []))
      refine own_go (fun _ ww => XS.iconst X59.here hx rfl (hb hby at_143) ww) ?_
      show own_Goes _ _ _ _ _ _ _ (T59.setTop (mkF m 144 #[.val (.long x1), .second, .val (.long x2), .second, .val (.int (0 : Int32)), .val (.int (0 : Int32)), .val (.long lo), .second, .val (.long hi), .second, .val (.long ((0 : Int64) + (0 : Int64))), .second, .val (.long (0 : Int64)), .second] [(.int (1 : Int32))]))
      refine own_go (fun _ ww => XS.goto X59.here hx rfl (pc0 := 144) (pc' := 148) rfl (hb hby at_144) (by decide) (by decide) ww) ?_
      show own_Goes _ _ _ _ _ _ _ (T59.setTop (mkF m 148 #[.val (.long x1), .second, .val (.long x2), .second, .val (.int (0 : Int32)), .val (.int (0 : Int32)), .val (.long lo), .second, .val (.long hi), .second, .val (.long ((0 : Int64) + (0 : Int64))), .second, .val (.long (0 : Int64)), .second] [(.int (1 : Int32))]))
      exact own_out X59 hlk (v := some (.int (1 : Int32))) (fun h => by rw [hret] at h; cases h) (fun fs hr => retOut X59 hx (t := .boolean) hret (by decide) (Or.inl ⟨rfl, by simp, _, rfl⟩) (hb hby at_148) hr) e59 ⟨rfl, N59⟩ (by decide) (by decide)
    ·
      show own_Goes _ _ _ _ _ _ _ (T49.setTop (mkF m 44 #[.val (.long x1), .second, .val (.long x2), .second, .val (.int (0 : Int32)), .val (.int (0 : Int32)), .val (.long lo), .second, .val (.long hi), .second, .unset, .unset, .unset, .unset] [(.long lo)]))
      obtain ⟨_, _, ⟨T60, L60, k60, n60⟩, -, X60, ⟨Lc60, hQ60, l60, y60, z60⟩, st60⟩ := Jvm.LawKit.callS X49 hx (y := (⟨"com/example/izin/izin/Headcount", "isActive", "(J)Z"⟩ : MethodName)) hown (mvT hZ (hw _ (List.mem_of_getElem? (i := 0) rfl))) (mvT hZ (hw _ (List.mem_of_getElem? (i := 1) rfl))) (mvT hZ (hw _ (List.mem_of_getElem? (i := 2) rfl))) (mvT hZ (hw _ (List.mem_of_getElem? (i := 3) rfl))) (by decide) (backOf (W := 0) (rm_act l Z a0 hw [] lo (0 : Int32) h0 n0 O0 (fun q => absurd q hl) (fun _ => rfl)) hZ (hw _ (List.mem_of_getElem? (i := 3) rfl)) (hw _ (List.mem_of_getElem? (i := 2) rfl)) (by decide) (by decide)) (g := (mkF m 44 #[.val (.long x1), .second, .val (.long x2), .second, .val (.int (0 : Int32)), .val (.int (0 : Int32)), .val (.long lo), .second, .val (.long hi), .second, .unset, .unset, .unset, .unset] [(.long lo)])) rfl (by rw [hml]; rfl) (argsL := [(.long lo)]) (rest := []) (lenOf pd_1 rfl) rfl (by show 2 * 0 + _ ≤ _; exact Nat.le_of_eq rfl) (hb hby at_44) (fun _ _ => ⟨rfl, e49, (by decide : 0 + 0 ≤ _), (by decide : 0 + 0 ≤ _)⟩)
      dsimp only [Pt.U, Pt.locs, Pt.cells, Pt.slots] at X60 l60 y60 z60 st60 hQ60
      subst l60 y60 z60
      obtain ⟨rfl, N60q, e60⟩ := hQ60
      have N60 := Fr.app N49 N60q
      refine own_go st60 ?_
      show own_Goes _ _ _ _ _ _ _ (T60.setTop (mkF m 47 #[.val (.long x1), .second, .val (.long x2), .second, .val (.int (0 : Int32)), .val (.int (0 : Int32)), .val (.long lo), .second, .val (.long hi), .second, .unset, .unset, .unset, .unset] [(.int (0 : Int32))]))
      refine own_go (fun _ ww => XS.ifYes X60.here hx rfl (pc0 := 47) (pc' := 60) rfl (hb hby at_47) rfl (own_if .eq (teq (by decide : (0 : Int32) = (0 : Int32))).1) (by decide) (by decide) ww) ?_
      show own_Goes _ _ _ _ _ _ _ (T60.setTop (mkF m 60 #[.val (.long x1), .second, .val (.long x2), .second, .val (.int (0 : Int32)), .val (.int (0 : Int32)), .val (.long lo), .second, .val (.long hi), .second, .unset, .unset, .unset, .unset] []))
      refine own_go (fun _ ww => XT.lconst X60.here hx rfl (hb hby at_60) ww) ?_
      show own_Goes _ _ _ _ _ _ _ (T60.setTop (mkF m 61 #[.val (.long x1), .second, .val (.long x2), .second, .val (.int (0 : Int32)), .val (.int (0 : Int32)), .val (.long lo), .second, .val (.long hi), .second, .unset, .unset, .unset, .unset] [(.long (0 : Int64))]))
      obtain ⟨_, _, ⟨T61, L61, k61, n61⟩, -, X61, ⟨Lc61, hQ61, l61, y61, z61⟩, st61⟩ := Jvm.LawKit.callS X60 hx (y := (⟨"com/example/izin/izin/Headcount", "isActive", "(J)Z"⟩ : MethodName)) hown (mvT hZ (hw _ (List.mem_of_getElem? (i := 0) rfl))) (mvT hZ (hw _ (List.mem_of_getElem? (i := 1) rfl))) (mvT hZ (hw _ (List.mem_of_getElem? (i := 2) rfl))) (mvT hZ (hw _ (List.mem_of_getElem? (i := 3) rfl))) (by decide) (backOf (W := 0) (rm_act l Z a0 hw [] (0 : Int64) (0 : Int32) h0 n0 O0 (by decide) (by decide)) hZ (hw _ (List.mem_of_getElem? (i := 3) rfl)) (hw _ (List.mem_of_getElem? (i := 2) rfl)) (by decide) (by decide)) (g := (mkF m 61 #[.val (.long x1), .second, .val (.long x2), .second, .val (.int (0 : Int32)), .val (.int (0 : Int32)), .val (.long lo), .second, .val (.long hi), .second, .unset, .unset, .unset, .unset] [(.long (0 : Int64))])) rfl (by rw [hml]; rfl) (argsL := [(.long (0 : Int64))]) (rest := []) (lenOf pd_1 rfl) rfl (by show 2 * 0 + _ ≤ _; exact Nat.le_of_eq rfl) (hb hby at_61) (fun _ _ => ⟨rfl, e60, (by decide : 0 + 0 ≤ _), (by decide : 0 + 0 ≤ _)⟩)
      dsimp only [Pt.U, Pt.locs, Pt.cells, Pt.slots] at X61 l61 y61 z61 st61 hQ61
      subst l61 y61 z61
      obtain ⟨rfl, N61q, e61⟩ := hQ61
      have N61 := Fr.app N60 N61q
      refine own_go st61 ?_
      show own_Goes _ _ _ _ _ _ _ (T61.setTop (mkF m 64 #[.val (.long x1), .second, .val (.long x2), .second, .val (.int (0 : Int32)), .val (.int (0 : Int32)), .val (.long lo), .second, .val (.long hi), .second, .unset, .unset, .unset, .unset] [(.int (0 : Int32))]))
      refine own_go (fun _ ww => XS.ifYes X61.here hx rfl (pc0 := 64) (pc' := 69) rfl (hb hby at_64) rfl (own_if .eq (teq (by decide : (0 : Int32) = (0 : Int32))).1) (by decide) (by decide) ww) ?_
      show own_Goes _ _ _ _ _ _ _ (T61.setTop (mkF m 69 #[.val (.long x1), .second, .val (.long x2), .second, .val (.int (0 : Int32)), .val (.int (0 : Int32)), .val (.long lo), .second, .val (.long hi), .second, .unset, .unset, .unset, .unset] []))
      refine own_go (fun _ ww => XT.lconst X61.here hx rfl (hb hby at_69) ww) ?_
      show own_Goes _ _ _ _ _ _ _ (T61.setTop (mkF m 70 #[.val (.long x1), .second, .val (.long x2), .second, .val (.int (0 : Int32)), .val (.int (0 : Int32)), .val (.long lo), .second, .val (.long hi), .second, .unset, .unset, .unset, .unset] [(.long (1 : Int64))]))
      obtain ⟨_, _, ⟨T62, L62, k62, n62⟩, -, X62, ⟨Lc62, hQ62, l62, y62, z62⟩, st62⟩ := Jvm.LawKit.callS X61 hx (y := (⟨"com/example/izin/izin/Headcount", "isActive", "(J)Z"⟩ : MethodName)) hown (mvT hZ (hw _ (List.mem_of_getElem? (i := 0) rfl))) (mvT hZ (hw _ (List.mem_of_getElem? (i := 1) rfl))) (mvT hZ (hw _ (List.mem_of_getElem? (i := 2) rfl))) (mvT hZ (hw _ (List.mem_of_getElem? (i := 3) rfl))) (by decide) (backOf (W := 0) (rm_act l Z a0 hw [] (1 : Int64) (1 : Int32) h0 n0 O0 (by decide) (by decide)) hZ (hw _ (List.mem_of_getElem? (i := 3) rfl)) (hw _ (List.mem_of_getElem? (i := 2) rfl)) (by decide) (by decide)) (g := (mkF m 70 #[.val (.long x1), .second, .val (.long x2), .second, .val (.int (0 : Int32)), .val (.int (0 : Int32)), .val (.long lo), .second, .val (.long hi), .second, .unset, .unset, .unset, .unset] [(.long (1 : Int64))])) rfl (by rw [hml]; rfl) (argsL := [(.long (1 : Int64))]) (rest := []) (lenOf pd_1 rfl) rfl (by show 2 * 0 + _ ≤ _; exact Nat.le_of_eq rfl) (hb hby at_70) (fun _ _ => ⟨rfl, e61, (by decide : 0 + 0 ≤ _), (by decide : 0 + 0 ≤ _)⟩)
      dsimp only [Pt.U, Pt.locs, Pt.cells, Pt.slots] at X62 l62 y62 z62 st62 hQ62
      subst l62 y62 z62
      obtain ⟨rfl, N62q, e62⟩ := hQ62
      have N62 := Fr.app N61 N62q
      refine own_go st62 ?_
      show own_Goes _ _ _ _ _ _ _ (T62.setTop (mkF m 73 #[.val (.long x1), .second, .val (.long x2), .second, .val (.int (0 : Int32)), .val (.int (0 : Int32)), .val (.long lo), .second, .val (.long hi), .second, .unset, .unset, .unset, .unset] [(.int (1 : Int32))]))
      refine own_go (fun _ ww => XS.ifYes X62.here hx rfl (pc0 := 73) (pc' := 78) rfl (hb hby at_73) rfl (own_if .ne (feq (by decide : ¬ ((1 : Int32) = (0 : Int32)))).2) (by decide) (by decide) ww) ?_
      show own_Goes _ _ _ _ _ _ _ (T62.setTop (mkF m 78 #[.val (.long x1), .second, .val (.long x2), .second, .val (.int (0 : Int32)), .val (.int (0 : Int32)), .val (.long lo), .second, .val (.long hi), .second, .unset, .unset, .unset, .unset] []))
      refine own_go (fun _ ww => X62.ldc2J hx hown (mvT hZ (hw _ (List.mem_of_getElem? (i := 11) rfl))) rfl (hb hby at_78) ww) ?_
      show own_Goes _ _ _ _ _ _ _ (T62.setTop (mkF m 81 #[.val (.long x1), .second, .val (.long x2), .second, .val (.int (0 : Int32)), .val (.int (0 : Int32)), .val (.long lo), .second, .val (.long hi), .second, .unset, .unset, .unset, .unset] [(.long (-1 : Int64))]))
      obtain ⟨_, _, ⟨T63, L63, k63, n63⟩, -, X63, ⟨Lc63, hQ63, l63, y63, z63⟩, st63⟩ := Jvm.LawKit.callS X62 hx (y := (⟨"com/example/izin/izin/Headcount", "isActive", "(J)Z"⟩ : MethodName)) hown (mvT hZ (hw _ (List.mem_of_getElem? (i := 0) rfl))) (mvT hZ (hw _ (List.mem_of_getElem? (i := 1) rfl))) (mvT hZ (hw _ (List.mem_of_getElem? (i := 2) rfl))) (mvT hZ (hw _ (List.mem_of_getElem? (i := 3) rfl))) (by decide) (backOf (W := 0) (rm_act l Z a0 hw [] (-1 : Int64) (0 : Int32) h0 n0 O0 (by decide) (by decide)) hZ (hw _ (List.mem_of_getElem? (i := 3) rfl)) (hw _ (List.mem_of_getElem? (i := 2) rfl)) (by decide) (by decide)) (g := (mkF m 81 #[.val (.long x1), .second, .val (.long x2), .second, .val (.int (0 : Int32)), .val (.int (0 : Int32)), .val (.long lo), .second, .val (.long hi), .second, .unset, .unset, .unset, .unset] [(.long (-1 : Int64))])) rfl (by rw [hml]; rfl) (argsL := [(.long (-1 : Int64))]) (rest := []) (lenOf pd_1 rfl) rfl (by show 2 * 0 + _ ≤ _; exact Nat.le_of_eq rfl) (hb hby at_81) (fun _ _ => ⟨rfl, e62, (by decide : 0 + 0 ≤ _), (by decide : 0 + 0 ≤ _)⟩)
      dsimp only [Pt.U, Pt.locs, Pt.cells, Pt.slots] at X63 l63 y63 z63 st63 hQ63
      subst l63 y63 z63
      obtain ⟨rfl, N63q, e63⟩ := hQ63
      have N63 := Fr.app N62 N63q
      refine own_go st63 ?_
      show own_Goes _ _ _ _ _ _ _ (T63.setTop (mkF m 84 #[.val (.long x1), .second, .val (.long x2), .second, .val (.int (0 : Int32)), .val (.int (0 : Int32)), .val (.long lo), .second, .val (.long hi), .second, .unset, .unset, .unset, .unset] [(.int (0 : Int32))]))
      refine own_go (fun _ ww => XS.ifYes X63.here hx rfl (pc0 := 84) (pc' := 89) rfl (hb hby at_84) rfl (own_if .eq (teq (by decide : (0 : Int32) = (0 : Int32))).1) (by decide) (by decide) ww) ?_
      show own_Goes _ _ _ _ _ _ _ (T63.setTop (mkF m 89 #[.val (.long x1), .second, .val (.long x2), .second, .val (.int (0 : Int32)), .val (.int (0 : Int32)), .val (.long lo), .second, .val (.long hi), .second, .unset, .unset, .unset, .unset] []))
      refine own_go (fun _ ww => X63.ldc2J hx hown (mvT hZ (hw _ (List.mem_of_getElem? (i := 12) rfl))) rfl (hb hby at_89) ww) ?_
      show own_Goes _ _ _ _ _ _ _ (T63.setTop (mkF m 92 #[.val (.long x1), .second, .val (.long x2), .second, .val (.int (0 : Int32)), .val (.int (0 : Int32)), .val (.long lo), .second, .val (.long hi), .second, .unset, .unset, .unset, .unset] [(.long (-9223372036854775808 : Int64))]))
      obtain ⟨_, _, ⟨T64, L64, k64, n64⟩, -, X64, ⟨Lc64, hQ64, l64, y64, z64⟩, st64⟩ := Jvm.LawKit.callS X63 hx (y := (⟨"com/example/izin/izin/Headcount", "isActive", "(J)Z"⟩ : MethodName)) hown (mvT hZ (hw _ (List.mem_of_getElem? (i := 0) rfl))) (mvT hZ (hw _ (List.mem_of_getElem? (i := 1) rfl))) (mvT hZ (hw _ (List.mem_of_getElem? (i := 2) rfl))) (mvT hZ (hw _ (List.mem_of_getElem? (i := 3) rfl))) (by decide) (backOf (W := 0) (rm_act l Z a0 hw [] (-9223372036854775808 : Int64) (0 : Int32) h0 n0 O0 (by decide) (by decide)) hZ (hw _ (List.mem_of_getElem? (i := 3) rfl)) (hw _ (List.mem_of_getElem? (i := 2) rfl)) (by decide) (by decide)) (g := (mkF m 92 #[.val (.long x1), .second, .val (.long x2), .second, .val (.int (0 : Int32)), .val (.int (0 : Int32)), .val (.long lo), .second, .val (.long hi), .second, .unset, .unset, .unset, .unset] [(.long (-9223372036854775808 : Int64))])) rfl (by rw [hml]; rfl) (argsL := [(.long (-9223372036854775808 : Int64))]) (rest := []) (lenOf pd_1 rfl) rfl (by show 2 * 0 + _ ≤ _; exact Nat.le_of_eq rfl) (hb hby at_92) (fun _ _ => ⟨rfl, e63, (by decide : 0 + 0 ≤ _), (by decide : 0 + 0 ≤ _)⟩)
      dsimp only [Pt.U, Pt.locs, Pt.cells, Pt.slots] at X64 l64 y64 z64 st64 hQ64
      subst l64 y64 z64
      obtain ⟨rfl, N64q, e64⟩ := hQ64
      have N64 := Fr.app N63 N64q
      refine own_go st64 ?_
      show own_Goes _ _ _ _ _ _ _ (T64.setTop (mkF m 95 #[.val (.long x1), .second, .val (.long x2), .second, .val (.int (0 : Int32)), .val (.int (0 : Int32)), .val (.long lo), .second, .val (.long hi), .second, .unset, .unset, .unset, .unset] [(.int (0 : Int32))]))
      refine own_go (fun _ ww => XS.ifYes X64.here hx rfl (pc0 := 95) (pc' := 100) rfl (hb hby at_95) rfl (own_if .eq (teq (by decide : (0 : Int32) = (0 : Int32))).1) (by decide) (by decide) ww) ?_
      show own_Goes _ _ _ _ _ _ _ (T64.setTop (mkF m 100 #[.val (.long x1), .second, .val (.long x2), .second, .val (.int (0 : Int32)), .val (.int (0 : Int32)), .val (.long lo), .second, .val (.long hi), .second, .unset, .unset, .unset, .unset] []))
      refine own_go (fun _ ww => X64.ldc2J hx hown (mvT hZ (hw _ (List.mem_of_getElem? (i := 13) rfl))) rfl (hb hby at_100) ww) ?_
      show own_Goes _ _ _ _ _ _ _ (T64.setTop (mkF m 103 #[.val (.long x1), .second, .val (.long x2), .second, .val (.int (0 : Int32)), .val (.int (0 : Int32)), .val (.long lo), .second, .val (.long hi), .second, .unset, .unset, .unset, .unset] [(.long (9223372036854775807 : Int64))]))
      obtain ⟨_, _, ⟨T65, L65, k65, n65⟩, -, X65, ⟨Lc65, hQ65, l65, y65, z65⟩, st65⟩ := Jvm.LawKit.callS X64 hx (y := (⟨"com/example/izin/izin/Headcount", "isActive", "(J)Z"⟩ : MethodName)) hown (mvT hZ (hw _ (List.mem_of_getElem? (i := 0) rfl))) (mvT hZ (hw _ (List.mem_of_getElem? (i := 1) rfl))) (mvT hZ (hw _ (List.mem_of_getElem? (i := 2) rfl))) (mvT hZ (hw _ (List.mem_of_getElem? (i := 3) rfl))) (by decide) (backOf (W := 0) (rm_act l Z a0 hw [] (9223372036854775807 : Int64) (1 : Int32) h0 n0 O0 (by decide) (by decide)) hZ (hw _ (List.mem_of_getElem? (i := 3) rfl)) (hw _ (List.mem_of_getElem? (i := 2) rfl)) (by decide) (by decide)) (g := (mkF m 103 #[.val (.long x1), .second, .val (.long x2), .second, .val (.int (0 : Int32)), .val (.int (0 : Int32)), .val (.long lo), .second, .val (.long hi), .second, .unset, .unset, .unset, .unset] [(.long (9223372036854775807 : Int64))])) rfl (by rw [hml]; rfl) (argsL := [(.long (9223372036854775807 : Int64))]) (rest := []) (lenOf pd_1 rfl) rfl (by show 2 * 0 + _ ≤ _; exact Nat.le_of_eq rfl) (hb hby at_103) (fun _ _ => ⟨rfl, e64, (by decide : 0 + 0 ≤ _), (by decide : 0 + 0 ≤ _)⟩)
      dsimp only [Pt.U, Pt.locs, Pt.cells, Pt.slots] at X65 l65 y65 z65 st65 hQ65
      subst l65 y65 z65
      obtain ⟨rfl, N65q, e65⟩ := hQ65
      have N65 := Fr.app N64 N65q
      refine own_go st65 ?_
      show own_Goes _ _ _ _ _ _ _ (T65.setTop (mkF m 106 #[.val (.long x1), .second, .val (.long x2), .second, .val (.int (0 : Int32)), .val (.int (0 : Int32)), .val (.long lo), .second, .val (.long hi), .second, .unset, .unset, .unset, .unset] [(.int (1 : Int32))]))
      refine own_go (fun _ ww => XS.ifYes X65.here hx rfl (pc0 := 106) (pc' := 111) rfl (hb hby at_106) rfl (own_if .ne (feq (by decide : ¬ ((1 : Int32) = (0 : Int32)))).2) (by decide) (by decide) ww) ?_
      show own_Goes _ _ _ _ _ _ _ (T65.setTop (mkF m 111 #[.val (.long x1), .second, .val (.long x2), .second, .val (.int (0 : Int32)), .val (.int (0 : Int32)), .val (.long lo), .second, .val (.long hi), .second, .unset, .unset, .unset, .unset] []))
      obtain ⟨T66, X66, e66, st66⟩ := getS X65 hx hZ hown (host := "") (hw _ (List.mem_of_getElem? (i := 14) rfl)) Via.refl e65 (SN.ext O0.2) (g := (mkF m 111 #[.val (.long x1), .second, .val (.long x2), .second, .val (.int (0 : Int32)), .val (.int (0 : Int32)), .val (.long lo), .second, .val (.long hi), .second, .unset, .unset, .unset, .unset] [])) rfl (hb hby at_111)
      refine own_go st66 ?_
      show own_Goes _ _ _ _ _ _ _ (T66.setTop (mkF m 114 #[.val (.long x1), .second, .val (.long x2), .second, .val (.int (0 : Int32)), .val (.int (0 : Int32)), .val (.long lo), .second, .val (.long hi), .second, .unset, .unset, .unset, .unset] [(.ref aN)]))
      refine own_go (fun _ ww => XT.lloadN X66.here hx rfl (hb hby at_114) rfl  ww) ?_
      show own_Goes _ _ _ _ _ _ _ (T66.setTop (mkF m 115 #[.val (.long x1), .second, .val (.long x2), .second, .val (.int (0 : Int32)), .val (.int (0 : Int32)), .val (.long lo), .second, .val (.long hi), .second, .unset, .unset, .unset, .unset] [(.long x1), (.ref aN)]))
      obtain ⟨cq67, kq67, q67a, q67b, q67c⟩ := isOf hZ e66 (EN.ext O0.2)
      obtain ⟨_, _, ⟨T67, L67, k67, n67⟩, -, X67, ⟨Lc67, hQ67, l67, y67, z67⟩, st67⟩ := X66.virtualBack hx (y := (⟨"com/example/izin/izin/Headcount", "plus", "(J)Lcom/example/izin/izin/Headcount;"⟩ : MethodName)) (z := (⟨"com/example/izin/izin/Headcount", "plus", "(J)Lcom/example/izin/izin/Headcount;"⟩ : MethodName)) hown (mvT hZ (hw _ (List.mem_of_getElem? (i := 16) rfl))) (mvT hZ (hw _ (List.mem_of_getElem? (i := 17) rfl))) (notFace_of_selects (args := #[]) (mvT hZ (hw _ (List.mem_of_getElem? (i := 19) rfl)))) (mvT hZ (hw _ (List.mem_of_getElem? (i := 19) rfl))) (mvT hZ (hw _ (List.mem_of_getElem? (i := 18) rfl))) (by decide) (backOf (W := 0) (rm_plus l Z a0 hw [] aN x1 (0 : Int64) h0 n0 O0 F1 F2 (fun q => absurd q hp) (fun _ => rfl)) hZ (hw _ (List.mem_of_getElem? (i := 20) rfl)) (hw _ (List.mem_of_getElem? (i := 2) rfl)) (by decide) (by decide)) q67a q67c (g := (mkF m 115 #[.val (.long x1), .second, .val (.long x2), .second, .val (.int (0 : Int32)), .val (.int (0 : Int32)), .val (.long lo), .second, .val (.long hi), .second, .unset, .unset, .unset, .unset] [(.long x1), (.ref aN)])) rfl (by rw [hml]; rfl) (Steps.refl _) (argsL := [(.long x1)]) (rest := []) (lenOf pd_5 rfl) rfl (by show 2 * 0 + _ ≤ _; exact Nat.le_of_eq rfl) (hb hby at_115) (fun _ _ => ⟨rfl, e66, (by decide : 0 + 1 ≤ _), (by decide : 0 + 2 ≤ _)⟩)
      dsimp only [Pt.U, Pt.locs, Pt.cells, Pt.slots] at X67 l67 y67 z67 st67 hQ67
      subst l67 y67 z67
      obtain ⟨r67, rfl, N67q, B67, K67q, E67q, A67q⟩ := hQ67
      have N67 := Fr.app N65 N67q
      have ne_aN_r67 : aN ≠ r67 := Nat.ne_of_lt (Nat.lt_of_lt_of_le (EN.ext O0.2).lt B67)
      have g_r67 : n0 ≤ r67 := Nat.le_trans (O0.1 ▸ O0.2.1) B67
      have O67 := O0.keep K67q all0
      refine own_go (fun _ ww => Steps.trans st67 ww) ?_
      show own_Goes _ _ _ _ _ _ _ (T67.setTop (mkF m 118 #[.val (.long x1), .second, .val (.long x2), .second, .val (.int (0 : Int32)), .val (.int (0 : Int32)), .val (.long lo), .second, .val (.long hi), .second, .unset, .unset, .unset, .unset] [(.ref r67)]))
      obtain ⟨cq68, kq68, q68a, q68b, q68c⟩ := isOf hZ rfl E67q
      obtain ⟨_, _, ⟨T68, L68, k68, n68⟩, -, X68, ⟨Lc68, hQ68, l68, y68, z68⟩, st68⟩ := X67.virtualBack hx (y := (⟨"com/example/izin/izin/Headcount", "active", "()J"⟩ : MethodName)) (z := (⟨"com/example/izin/izin/Headcount", "active", "()J"⟩ : MethodName)) hown (mvT hZ (hw _ (List.mem_of_getElem? (i := 42) rfl))) (mvT hZ (hw _ (List.mem_of_getElem? (i := 43) rfl))) (notFace_of_selects (args := #[]) (mvT hZ (hw _ (List.mem_of_getElem? (i := 45) rfl)))) (mvT hZ (hw _ (List.mem_of_getElem? (i := 45) rfl))) (mvT hZ (hw _ (List.mem_of_getElem? (i := 44) rfl))) (by decide) (backOf (W := 0) (rm_active l Z a0 hw [] r67 ((0 : Int64) + (0 : Int64)) T67.heap n0 O67 A67q) hZ (hw _ (List.mem_of_getElem? (i := 46) rfl)) (hw _ (List.mem_of_getElem? (i := 2) rfl)) (by decide) (by decide)) q68a q68c (g := (mkF m 118 #[.val (.long x1), .second, .val (.long x2), .second, .val (.int (0 : Int32)), .val (.int (0 : Int32)), .val (.long lo), .second, .val (.long hi), .second, .unset, .unset, .unset, .unset] [(.ref r67)])) rfl (by rw [hml]; rfl) (Steps.refl _) (argsL := []) (rest := []) (lenOf pd_6 rfl) rfl (by show 2 * 0 + _ ≤ _; exact Nat.le_of_eq rfl) (hb hby at_118) (fun _ _ => ⟨rfl, rfl, (by decide : 1 + 0 ≤ _), (by decide : 2 + 0 ≤ _)⟩)
      dsimp only [Pt.U, Pt.locs, Pt.cells, Pt.slots] at X68 l68 y68 z68 st68 hQ68
      subst l68 y68 z68
      obtain ⟨rfl, N68q, e68⟩ := hQ68
      have N68 := Fr.app N67 N68q
      refine own_go (fun _ ww => Steps.trans st68 ww) ?_
      show own_Goes _ _ _ _ _ _ _ (T68.setTop (mkF m 121 #[.val (.long x1), .second, .val (.long x2), .second, .val (.int (0 : Int32)), .val (.int (0 : Int32)), .val (.long lo), .second, .val (.long hi), .second, .unset, .unset, .unset, .unset] [(.long ((0 : Int64) + (0 : Int64)))]))
      refine own_go (fun _ ww => XT.lstore X68.here hx rfl (hb hby at_121) rfl (l' := #[.val (.long x1), .second, .val (.long x2), .second, .val (.int (0 : Int32)), .val (.int (0 : Int32)), .val (.long lo), .second, .val (.long hi), .second, .val (.long ((0 : Int64) + (0 : Int64))), .second, .unset, .unset]) rfl ww) ?_
      show own_Goes _ _ _ _ _ _ _ (T68.setTop (mkF m 123 #[.val (.long x1), .second, .val (.long x2), .second, .val (.int (0 : Int32)), .val (.int (0 : Int32)), .val (.long lo), .second, .val (.long hi), .second, .val (.long ((0 : Int64) + (0 : Int64))), .second, .unset, .unset] []))
      refine own_go (fun _ ww => XS.iload X68.here hx rfl (hb hby at_123) rfl  ww) ?_
      show own_Goes _ _ _ _ _ _ _ (T68.setTop (mkF m 125 #[.val (.long x1), .second, .val (.long x2), .second, .val (.int (0 : Int32)), .val (.int (0 : Int32)), .val (.long lo), .second, .val (.long hi), .second, .val (.long ((0 : Int64) + (0 : Int64))), .second, .unset, .unset] [(.int (0 : Int32))]))
      refine own_go (fun _ ww => XS.ifYes X68.here hx rfl (pc0 := 125) (pc' := 132) rfl (hb hby at_125) rfl (own_if .eq (teq (by decide : (0 : Int32) = (0 : Int32))).1) (by decide) (by decide) ww) ?_
      show own_Goes _ _ _ _ _ _ _ (T68.setTop (mkF m 132 #[.val (.long x1), .second, .val (.long x2), .second, .val (.int (0 : Int32)), .val (.int (0 : Int32)), .val (.long lo), .second, .val (.long hi), .second, .val (.long ((0 : Int64) + (0 : Int64))), .second, .unset, .unset] []))
      refine own_go (fun _ ww => XT.lconst X68.here hx rfl (hb hby at_132) ww) ?_
      show own_Goes _ _ _ _ _ _ _ (T68.setTop (mkF m 133 #[.val (.long x1), .second, .val (.long x2), .second, .val (.int (0 : Int32)), .val (.int (0 : Int32)), .val (.long lo), .second, .val (.long hi), .second, .val (.long ((0 : Int64) + (0 : Int64))), .second, .unset, .unset] [(.long (0 : Int64))]))
      refine own_go (fun _ ww => XT.lstore X68.here hx rfl (hb hby at_133) rfl (l' := #[.val (.long x1), .second, .val (.long x2), .second, .val (.int (0 : Int32)), .val (.int (0 : Int32)), .val (.long lo), .second, .val (.long hi), .second, .val (.long ((0 : Int64) + (0 : Int64))), .second, .val (.long (0 : Int64)), .second]) rfl ww) ?_
      show own_Goes _ _ _ _ _ _ _ (T68.setTop (mkF m 135 #[.val (.long x1), .second, .val (.long x2), .second, .val (.int (0 : Int32)), .val (.int (0 : Int32)), .val (.long lo), .second, .val (.long hi), .second, .val (.long ((0 : Int64) + (0 : Int64))), .second, .val (.long (0 : Int64)), .second] []))
      refine own_go (fun _ ww => XT.lload X68.here hx rfl (hb hby at_135) rfl  ww) ?_
      show own_Goes _ _ _ _ _ _ _ (T68.setTop (mkF m 137 #[.val (.long x1), .second, .val (.long x2), .second, .val (.int (0 : Int32)), .val (.int (0 : Int32)), .val (.long lo), .second, .val (.long hi), .second, .val (.long ((0 : Int64) + (0 : Int64))), .second, .val (.long (0 : Int64)), .second] [(.long ((0 : Int64) + (0 : Int64)))]))
      refine own_go (fun _ ww => XT.lload X68.here hx rfl (hb hby at_137) rfl  ww) ?_
      show own_Goes _ _ _ _ _ _ _ (T68.setTop (mkF m 139 #[.val (.long x1), .second, .val (.long x2), .second, .val (.int (0 : Int32)), .val (.int (0 : Int32)), .val (.long lo), .second, .val (.long hi), .second, .val (.long ((0 : Int64) + (0 : Int64))), .second, .val (.long (0 : Int64)), .second] [(.long (0 : Int64)), (.long ((0 : Int64) + (0 : Int64)))]))
      refine own_go (fun _ ww => XT.lcmp X68.here hx rfl (hb hby at_139) rfl ww) ?_
      show own_Goes _ _ _ _ _ _ _ (T68.setTop (mkF m 140 #[.val (.long x1), .second, .val (.long x2), .second, .val (.int (0 : Int32)), .val (.int (0 : Int32)), .val (.long lo), .second, .val (.long hi), .second, .val (.long ((0 : Int64) + (0 : Int64))), .second, .val (.long (0 : Int64)), .second] [(.int (XT.cmpL ((0 : Int64) + (0 : Int64)) (0 : Int64)))]))
      refine own_go (fun _ ww => XS.ifNo X68.here hx rfl (hb hby at_140) rfl (own_if .ne (teq (by decide)).2) ww) ?_
      show own_Goes _ _ _ _ _ _ _ (T68.setTop (mkF m 143 #[.val (.long x1), .second, .val (.long x2), .second, .val (.int (0 : Int32)), .val (.int (0 : Int32)), .val (.long lo), .second, .val (.long hi), .second, .val (.long ((0 : Int64) + (0 : Int64))), .second, .val (.long (0 : Int64)), .second] []))
      refine own_go (fun _ ww => XS.iconst X68.here hx rfl (hb hby at_143) ww) ?_
      show own_Goes _ _ _ _ _ _ _ (T68.setTop (mkF m 144 #[.val (.long x1), .second, .val (.long x2), .second, .val (.int (0 : Int32)), .val (.int (0 : Int32)), .val (.long lo), .second, .val (.long hi), .second, .val (.long ((0 : Int64) + (0 : Int64))), .second, .val (.long (0 : Int64)), .second] [(.int (1 : Int32))]))
      refine own_go (fun _ ww => XS.goto X68.here hx rfl (pc0 := 144) (pc' := 148) rfl (hb hby at_144) (by decide) (by decide) ww) ?_
      show own_Goes _ _ _ _ _ _ _ (T68.setTop (mkF m 148 #[.val (.long x1), .second, .val (.long x2), .second, .val (.int (0 : Int32)), .val (.int (0 : Int32)), .val (.long lo), .second, .val (.long hi), .second, .val (.long ((0 : Int64) + (0 : Int64))), .second, .val (.long (0 : Int64)), .second] [(.int (1 : Int32))]))
      exact own_out X68 hlk (v := some (.int (1 : Int32))) (fun h => by rw [hret] at h; cases h) (fun fs hr => retOut X68 hx (t := .boolean) hret (by decide) (Or.inl ⟨rfl, by simp, _, rfl⟩) (hb hby at_148) hr) e68 ⟨rfl, N68⟩ (by decide) (by decide)
set_option maxRecDepth 65536 in
set_option maxHeartbeats 40000000 in
theorem comes_1 {Post : Tables → Env → Array Value → State → Outcome → State → Prop} (hpost : ∀ tb e args s v u, (limb_1_1.after args s (.returned v) u = true ∧ limb_1_2.after args s (.returned v) u = true ∧ True) → FrameEnd s (.returned v) u (Jvm.fieldLocs frame_1_writes args s ++ Jvm.arrayLocs frame_1_arrays args s ++ Jvm.staticLocs frame_1_statics s) 16 128 → Post tb e args s (.returned v) u) :
    ArmFor flags0 classFile x code maxLocals ret World_1 tables_1 room_1 Calls_1 rest_1 Pre_1 Post := by
  intro l hfl _ _ p e ha hc hk s m args below hf hA hF happ hP
  obtain ⟨hcalls, hrest, hpre⟩ := hP
  obtain ⟨-, -, -, hnamed, -, -, -, hat⟩ := (Spec.applies_iff hf).mp happ
  obtain ⟨hg, hn⟩ := and_e (Cond.before_iff.mp (show (Jvm.Cond.and given_1 narrow_1).before args s = true from hpre))
  obtain ⟨q1, q2⟩ := and_e hg
  obtain ⟨q3, q4⟩ := and_e q2
  obtain ⟨q5, q6⟩ := and_e hn
  obtain ⟨q7, q8⟩ := and_e q6
  obtain ⟨w0, w1, rfl⟩ : ∃ w0 w1 : Value, args = #[w0, w1] := by
    have hs : args.size = 2 := by simpa [Cond.value, given_1] using q1
    obtain ⟨L⟩ := args
    match L, hs with
    | [w0, w1], _ => exact ⟨w0, w1, rfl⟩
  have hw := fun d (hd : d ∈ tables_1) => atoms_spec (ws := Jvm.Cond.code x code maxLocals ret :: tables_1) hat d (List.mem_cons_of_mem _ hd)
  have hfit : Fit s := fun {y c} hc i hi => by
    obtain ⟨ha, rfl⟩ := Array.getElem?_eq_some_iff.mp hc
    have q := List.all_eq_true.mp ((Array.all_eq_true_iff_forall_mem.mp hF) _ (Array.getElem_mem ha)) i (List.mem_range.mpr hi)
    simpa [Array.getElem?_eq_getElem hi] using q
  obtain ⟨i0, ei0⟩ := isL_v q3
  obtain rfl : w0 = (.long i0) := Option.some.inj ei0
  obtain ⟨i1, ei1⟩ := isL_v q4
  obtain rfl : w1 = (.long i1) := Option.some.inj ei1
  obtain ⟨a_Headcount_NONE, ev_Headcount_NONE⟩ := exa_v q5
  have E_Headcount_NONE : Exa s s.heap a_Headcount_NONE "com/example/izin/izin/Headcount" := Exa.start ev_Headcount_NONE q5
  have S_Headcount_NONE : Sta s s.heap "com/example/izin/izin/Headcount" "NONE" "Lcom/example/izin/izin/Headcount;" (.ref a_Headcount_NONE) := Sta.start ev_Headcount_NONE (Or.inr ⟨(hw _ (List.mem_of_getElem? (i := 2) rfl)), (hw _ (List.mem_of_getElem? (i := 15) rfl))⟩)
  have F_Headcount_NONE_participants := own_fJ ev_Headcount_NONE q7
  have F_Headcount_NONE_active := own_fJ ev_Headcount_NONE q8
  obtain ⟨n, o, h1, h2, h3, _, L, rfl, ⟨rfl, N⟩, hq⟩ := rm_law l s _ hw tables_1 i0 i1 a_Headcount_NONE s.heap s.heap.size (Old.start s) S_Headcount_NONE E_Headcount_NONE F_Headcount_NONE_participants F_Headcount_NONE_active p e ha hc hk s m _ below hf ((Spec.applies_iff_loose hf).mp happ).1 ⟨rfl, State.Warmed39.refl s, rfl⟩ trivial
  refine ⟨n, _, h1, h2, h3, hpost _ _ _ _ _ _ ⟨Cond.after_iff.mpr rfl, Cond.after_iff.mpr (eq_i res_at (Term.int_eval (1)) rfl), trivial⟩ ⟨hq.1, hq.2.1, (hq.2.2.sift fun y hy => Or.inr (N y hy)).mono (by decide) (by decide)⟩⟩
theorem main_1_1 : Claimed_1_1 := comes_1 fun _ _ _ _ _ _ h hF => ⟨h.1, hF⟩
theorem main_1_2 : Claimed_1_2 := comes_1 fun _ _ _ _ _ _ h hF => ⟨h.2.1, hF⟩
end Jvm.Pilot.@@N@@
namespace Jvm.Pilot.@@N@@
open Jvm Jvm.ClassFile Sem Op Lib Jvm.Free Jvm.Stand Jvm.Pilot.@@N@@.Jvm.D
/-! MADE BY PROGRAM (witnessworld.py) out of the Statement's table words and the real class files: 11 classes; the members and pool entries that the words name. The judged class is class 1, her method 1. -/
namespace start1
open Jvm.ClassFile
def u (s : String) : CpInfo := .utf8 (stringToUtf16 s)
/-- a pool by its gaps: so many unusable entries, then the entry; so many at the end -/
def gap : Nat → List CpInfo → List CpInfo
  | 0, r => r
  | n + 1, r => .unusable :: gap n r
def poolList (es : List (Nat × CpInfo)) (last : Nat) : List CpInfo := es.foldr (fun e r => gap e.1 (e.2 :: r)) (gap last [])
def pool (es : List (Nat × CpInfo)) (last : Nat) : Array CpInfo := ⟨poolList es last⟩
def fileOf (pool : Array CpInfo) (this : Nat) (attrs : Array Attribute := #[]) (ms : Array MethodInfo := #[]) (fl : Nat := 33) (sup : Nat := 0) (ifs : Array Nat := #[]) (fds : Array FieldInfo := #[]) : ClassFile where
  minorVersion := 0
  majorVersion := 65
  constantPool := pool
  accessFlags := fl
  thisClass := this
  superClass := sup
  interfaces := ifs
  fields := fds
  methods := ms
  attributes := attrs
def plain (name : String) (sup : Option ClassId) : Class where
  name := name
  kind := .ordinary
  loader := none
  accessFlags := 33
  super := sup
  interfaces := #[]
  cf := none
  fields := #[]
  methods := #[]
  instanceTypes := #[]
  staticTypes := #[]
  resolved := #[]
  callSites := []
  init := .initialized
  statics := none
  mirror := none

def pool0 : Array CpInfo := pool [(5, u "<init>"), (0, u "()V"), (1, .class_ 10), (1, u "java/lang/Object")] 113

def k0c0 : Code := { maxStack := 0, maxLocals := 1, code := object_method_1_code, exceptionTable := #[], attributes := #[] }
def k0m0 : Method := { name := "<init>", desc := "()V", sig := { parameters := [], returnType := none }, accessFlags := 1, code := some k0c0 }
/-- java/lang/Object -/
def k0 : Class := { plain "java/lang/Object" none with
  accessFlags := 33
  interfaces := #[]
  cf := some (fileOf pool0 8 #[] #[{ accessFlags := 1, nameIndex := 5, descriptorIndex := 6, attributes := #[] }] 33 0 #[] #[])
  fields := #[]
  methods := #[k0m0]
  instanceTypes := #[]
  staticTypes := #[]
  resolved := Array.replicate 124 none
  statics := none }

def pool1 : Array CpInfo := pool [(2, .class_ 4), (1, u "java/lang/Object"), (0, u "<init>"), (0, u "()V"), (0, .methodref 8 9), (0, .class_ 10), (0, .nameAndType 11 12), (0, u "com/example/izin/izin/Headcount"), (0, u "isActive"), (0, u "(J)Z"), (0, .methodref 14 15), (0, .class_ 16), (0, .nameAndType 17 18), (0, u "java/lang/Math"), (0, u "min"), (0, u "(JJ)J"), (0, .methodref 14 20), (0, .nameAndType 21 18), (0, u "max"), (0, .long 18446744073709551615), (3, .long 9223372036854775808), (1, .long 9223372036854775807), (1, .fieldref 8 31), (0, .nameAndType 32 33), (0, u "NONE"), (0, u "Lcom/example/izin/izin/Headcount;"), (0, .methodref 8 35), (0, .nameAndType 36 37), (0, u "plus"), (0, u "(J)Lcom/example/izin/izin/Headcount;"), (0, .methodref 8 39), (0, .nameAndType 40 41), (0, u "active"), (0, u "()J"), (0, .class_ 43), (0, u "com/example/izin/izin/HeadcountIsActivePinLaw"), (2, u "law"), (0, u "(JJ)Z")] 3

def k1m0 : Method := { name := "<init>", desc := "()V", sig := { parameters := [], returnType := none }, accessFlags := 2, code := none }
def k1c1 : Code := { maxStack := 4, maxLocals := 14, code := code, exceptionTable := #[], attributes := #[] }
def k1m1 : Method := { name := "law", desc := "(JJ)Z", sig := { parameters := [.long, .long], returnType := some .boolean }, accessFlags := 9, code := some k1c1 }
/-- com/example/izin/izin/HeadcountIsActivePinLaw -/
def k1 : Class := { plain "com/example/izin/izin/HeadcountIsActivePinLaw" (some 0) with
  accessFlags := 49
  interfaces := #[]
  cf := some (fileOf pool1 42 #[] #[{ accessFlags := 2, nameIndex := 5, descriptorIndex := 6, attributes := #[] }, { accessFlags := 9, nameIndex := 46, descriptorIndex := 47, attributes := #[] }] 49 2 #[] #[])
  fields := #[]
  methods := #[k1m0, k1m1]
  instanceTypes := #[]
  staticTypes := #[]
  resolved := Array.replicate 51 none
  statics := none }

def pool2 : Array CpInfo := pool [(1, .methodref 2 3), (0, .class_ 4), (0, .nameAndType 5 6), (0, u "java/lang/Object"), (0, u "<init>"), (0, u "()V"), (0, .class_ 8), (0, u "java/lang/Record")] 13

def k2c0 : Code := { maxStack := 1, maxLocals := 1, code := jdk_30_method_1_code, exceptionTable := #[], attributes := #[] }
def k2m0 : Method := { name := "<init>", desc := "()V", sig := { parameters := [], returnType := none }, accessFlags := 4, code := some k2c0 }
/-- java/lang/Record -/
def k2 : Class := { plain "java/lang/Record" (some 0) with
  accessFlags := 1057
  interfaces := #[]
  cf := some (fileOf pool2 7 #[] #[{ accessFlags := 4, nameIndex := 5, descriptorIndex := 6, attributes := #[] }] 1057 2 #[] #[])
  fields := #[]
  methods := #[k2m0]
  instanceTypes := #[]
  staticTypes := #[]
  resolved := Array.replicate 22 none
  statics := none }

def pool3 : Array CpInfo := pool [(1, .methodref 2 3), (0, .class_ 4), (0, .nameAndType 5 6), (0, u "java/lang/Record"), (0, u "<init>"), (0, u "()V"), (0, .fieldref 8 9), (0, .class_ 10), (0, .nameAndType 11 12), (0, u "com/example/izin/izin/Headcount"), (0, u "participants"), (0, u "J"), (0, .fieldref 8 14), (0, .nameAndType 15 12), (0, u "active"), (0, .methodref 8 17), (0, .nameAndType 18 19), (0, u "activeCount"), (0, u "(J)J"), (0, .methodref 8 21), (0, .nameAndType 5 22), (0, u "(JJ)V"), (0, .methodref 8 24), (0, .nameAndType 25 26), (0, u "isActive"), (0, u "(J)Z"), (14, u "NONE"), (0, u "Lcom/example/izin/izin/Headcount;"), (3, u "plus"), (0, u "(J)Lcom/example/izin/izin/Headcount;"), (5, u "()J"), (4, .class_ 59), (0, u "com/example/izin/izin/Headcount$Count")] 20

def k3c0 : Code := { maxStack := 3, maxLocals := 5, code := prog_14_method_1_code, exceptionTable := #[], attributes := #[] }
def k3m0 : Method := { name := "<init>", desc := "(JJ)V", sig := { parameters := [.long, .long], returnType := none }, accessFlags := 0, code := some k3c0 }
def k3c1 : Code := { maxStack := 8, maxLocals := 3, code := prog_14_method_2_code, exceptionTable := #[], attributes := #[] }
def k3m1 : Method := { name := "plus", desc := "(J)Lcom/example/izin/izin/Headcount;", sig := { parameters := [.long], returnType := some (.object "com/example/izin/izin/Headcount") }, accessFlags := 0, code := some k3c1 }
def k3c2 : Code := { maxStack := 4, maxLocals := 2, code := prog_14_method_4_code, exceptionTable := #[], attributes := #[] }
def k3m2 : Method := { name := "isActive", desc := "(J)Z", sig := { parameters := [.long], returnType := some .boolean }, accessFlags := 8, code := some k3c2 }
def k3c3 : Code := { maxStack := 2, maxLocals := 2, code := prog_14_method_5_code, exceptionTable := #[], attributes := #[] }
def k3m3 : Method := { name := "activeCount", desc := "(J)J", sig := { parameters := [.long], returnType := some .long }, accessFlags := 10, code := some k3c3 }
def k3c4 : Code := { maxStack := 2, maxLocals := 1, code := prog_14_method_10_code, exceptionTable := #[], attributes := #[] }
def k3m4 : Method := { name := "active", desc := "()J", sig := { parameters := [], returnType := some .long }, accessFlags := 1, code := some k3c4 }
/-- com/example/izin/izin/Headcount -/
def k3 : Class := { plain "com/example/izin/izin/Headcount" (some 2) with
  accessFlags := 48
  interfaces := #[]
  cf := some (fileOf pool3 8 #[.nestMembers #[58]] #[{ accessFlags := 0, nameIndex := 5, descriptorIndex := 22, attributes := #[] }, { accessFlags := 0, nameIndex := 46, descriptorIndex := 47, attributes := #[] }, { accessFlags := 8, nameIndex := 25, descriptorIndex := 26, attributes := #[] }, { accessFlags := 10, nameIndex := 18, descriptorIndex := 19, attributes := #[] }, { accessFlags := 1, nameIndex := 15, descriptorIndex := 53, attributes := #[] }] 48 2 #[] #[{ accessFlags := 18, nameIndex := 11, descriptorIndex := 12, attributes := #[] }, { accessFlags := 18, nameIndex := 15, descriptorIndex := 12, attributes := #[] }, { accessFlags := 24, nameIndex := 41, descriptorIndex := 42, attributes := #[] }])
  fields := #[{ name := "participants", type := .long, accessFlags := 18, slot := 0, constantValue := 0 }, { name := "active", type := .long, accessFlags := 18, slot := 1, constantValue := 0 }, { name := "NONE", type := (.object "com/example/izin/izin/Headcount"), accessFlags := 24, slot := 0, constantValue := 0 }]
  methods := #[k3m0, k3m1, k3m2, k3m3, k3m4]
  instanceTypes := #[.long, .long]
  staticTypes := #[(.object "com/example/izin/izin/Headcount")]
  resolved := Array.replicate 80 none
  statics := some 0 }

def pool4 : Array CpInfo := pool [(1, .class_ 2), (0, u "java/lang/Math"), (1, .class_ 6), (1, u "java/lang/Object"), (0, u "<init>"), (0, u "()V"), (89, .class_ 100), (1, u "java/lang/Math$RandomNumberGeneratorHolder"), (20, u "(JJ)J"), (50, u "negativeZeroFloatBits"), (0, u "J"), (2, u "negativeZeroDoubleBits"), (21, u "max"), (2, u "min"), (43, u "$assertionsDisabled"), (0, u "Z"), (91, u "twoToTheDoubleScaleDown"), (0, u "D"), (4, u "twoToTheDoubleScaleUp"), (9, u "E"), (3, u "PI"), (2, u "TAU"), (2, u "DEGREES_TO_RADIANS"), (0, u "RADIANS_TO_DEGREES")] 94

def k4m0 : Method := { name := "<init>", desc := "()V", sig := { parameters := [], returnType := none }, accessFlags := 2, code := none }
def k4c1 : Code := { maxStack := 4, maxLocals := 4, code := jdk_29_method_66_code, exceptionTable := #[], attributes := #[] }
def k4m1 : Method := { name := "max", desc := "(JJ)J", sig := { parameters := [.long, .long], returnType := some .long }, accessFlags := 9, code := some k4c1 }
def k4c2 : Code := { maxStack := 4, maxLocals := 4, code := jdk_29_method_70_code, exceptionTable := #[], attributes := #[] }
def k4m2 : Method := { name := "min", desc := "(JJ)J", sig := { parameters := [.long, .long], returnType := some .long }, accessFlags := 9, code := some k4c2 }
/-- java/lang/Math -/
def k4 : Class := { plain "java/lang/Math" (some 0) with
  accessFlags := 49
  interfaces := #[]
  cf := some (fileOf pool4 1 #[.nestMembers #[98]] #[{ accessFlags := 2, nameIndex := 7, descriptorIndex := 8, attributes := #[] }, { accessFlags := 9, nameIndex := 198, descriptorIndex := 121, attributes := #[] }, { accessFlags := 9, nameIndex := 201, descriptorIndex := 121, attributes := #[] }] 49 4 #[] #[{ accessFlags := 25, nameIndex := 354, descriptorIndex := 339, attributes := #[] }, { accessFlags := 25, nameIndex := 358, descriptorIndex := 339, attributes := #[] }, { accessFlags := 25, nameIndex := 361, descriptorIndex := 339, attributes := #[] }, { accessFlags := 26, nameIndex := 364, descriptorIndex := 339, attributes := #[] }, { accessFlags := 26, nameIndex := 365, descriptorIndex := 339, attributes := #[] }, { accessFlags := 26, nameIndex := 172, descriptorIndex := 173, attributes := #[] }, { accessFlags := 26, nameIndex := 176, descriptorIndex := 173, attributes := #[] }, { accessFlags := 8, nameIndex := 344, descriptorIndex := 339, attributes := #[] }, { accessFlags := 8, nameIndex := 338, descriptorIndex := 339, attributes := #[] }, { accessFlags := 4120, nameIndex := 245, descriptorIndex := 246, attributes := #[] }])
  fields := #[{ name := "E", type := .double, accessFlags := 25, slot := 0, constantValue := 0 }, { name := "PI", type := .double, accessFlags := 25, slot := 1, constantValue := 0 }, { name := "TAU", type := .double, accessFlags := 25, slot := 2, constantValue := 0 }, { name := "DEGREES_TO_RADIANS", type := .double, accessFlags := 26, slot := 3, constantValue := 0 }, { name := "RADIANS_TO_DEGREES", type := .double, accessFlags := 26, slot := 4, constantValue := 0 }, { name := "negativeZeroFloatBits", type := .long, accessFlags := 26, slot := 5, constantValue := 0 }, { name := "negativeZeroDoubleBits", type := .long, accessFlags := 26, slot := 6, constantValue := 0 }, { name := "twoToTheDoubleScaleUp", type := .double, accessFlags := 8, slot := 7, constantValue := 0 }, { name := "twoToTheDoubleScaleDown", type := .double, accessFlags := 8, slot := 8, constantValue := 0 }, { name := "$assertionsDisabled", type := .boolean, accessFlags := 4120, slot := 9, constantValue := 0 }]
  methods := #[k4m0, k4m1, k4m2]
  instanceTypes := #[]
  staticTypes := #[.double, .double, .double, .double, .double, .long, .long, .double, .double, .boolean]
  resolved := Array.replicate 460 none
  statics := none }

def pool5 : Array CpInfo := pool [(1, u "java/lang/Cloneable"), (0, .class_ 1), (0, u "java/lang/Object"), (0, .class_ 3)] 3

/-- java/lang/Cloneable -/
def k5 : Class := { plain "java/lang/Cloneable" (some 0) with
  accessFlags := 1537
  interfaces := #[]
  cf := some (fileOf pool5 2 #[] #[] 1537 4 #[] #[])
  fields := #[]
  methods := #[]
  instanceTypes := #[]
  staticTypes := #[]
  resolved := Array.replicate 8 none
  statics := none }

def pool6 : Array CpInfo := pool [(1, u "java/io/Serializable"), (0, .class_ 1), (0, u "java/lang/Object"), (0, .class_ 3)] 3

/-- java/io/Serializable -/
def k6 : Class := { plain "java/io/Serializable" (some 0) with
  accessFlags := 1537
  interfaces := #[]
  cf := some (fileOf pool6 2 #[] #[] 1537 4 #[] #[])
  fields := #[]
  methods := #[]
  instanceTypes := #[]
  staticTypes := #[]
  resolved := Array.replicate 8 none
  statics := none }

/-- the primitive byte -/
def k7 : Class := { plain "byte" none with kind := .primitive 'B', accessFlags := 0x411 }
/-- [B -/
def k8 : Class := { plain "[B" (some 0) with kind := .array 7 .byte, interfaces := #[5, 6], accessFlags := 1041 }

/-- the primitive int -/
def k9 : Class := { plain "int" none with kind := .primitive 'I', accessFlags := 0x411 }
/-- [I -/
def k10 : Class := { plain "[I" (some 0) with kind := .array 9 .int, interfaces := #[5, 6], accessFlags := 1041 }

def heap : Heap := #[{ cls := 3, slots := #[.ref 1], vm := .statics 3 },
  { cls := 3, slots := #[.long 0, .long 0], vm := .none }]
def classes : Array Class := #[k0, k1, k2, k3, k4, k5, k6, k7, k8, k9, k10]
def interned : List (Array UInt16 × Addr) := []
def slotsUsed : Nat := 3
def theMethod : MethodId := ⟨1, 1⟩
def args0 : Array Value := #[.long 5, .long 7]
def aboutOver (below : List Frame) : State where
  vm := { classes := classes, interned := interned.toArray }
  heap := heap
  slotsUsed := slotsUsed
  threads := #[{ frames := .invoking theMethod args0 :: below }]
def below0 : List Frame := [.native { method := ⟨0, 0⟩, args := #[] }]
def about1 : State := aboutOver below0
def p0 : Program := .bare "" "" ""
def e0 : Env := launch0.env 0 0 0
theorem w_frames : about1.frames = Frame.invoking theMethod args0 :: below0 := rfl
set_option maxRecDepth 65536 in
theorem w_args : argsFit about1.vm theMethod args0 = true := by decide +kernel
set_option maxRecDepth 65536 in
theorem w_heap : heapFits about1 = true := by decide +kernel
set_option maxRecDepth 65536 in
theorem w_runnable : about1.curStatus? = some .runnable := by decide +kernel
set_option maxRecDepth 65536 in
theorem w_alone : about1.alone = true := by decide +kernel
set_option maxRecDepth 65536 in
theorem w_named : about1.methodNamed? x = some theMethod := by decide +kernel
set_option maxRecDepth 65536 in
theorem w_hears : about1.hears theMethod below0 = true := by decide +kernel
set_option maxRecDepth 65536 in
theorem w_ripe : about1.ripe theMethod args0 below0 = true := by decide +kernel
theorem w_running : about1.status = .running := rfl
set_option maxRecDepth 65536 in
theorem w_room : about1.hasRoom e0.platform room_1 = true :=
  launch0.hasRoom_least _ room_1 (by decide +kernel) (by decide +kernel) (by decide +kernel) (by decide +kernel) (by decide +kernel) (by decide +kernel)
theorem allAtoms_all (ts : List Jvm.Cond) (a : Array Jvm.Value) (st : Jvm.State) : (allAtoms ts).before a st = ts.all (fun c => c.before a st) := by
  induction ts with
  | nil => rfl
  | cons c t ih =>
    show (Jvm.Cond.and c (allAtoms t)).before a st = _
    rw [Jvm.Cond.before_and, ih, List.all_cons]
def words1 : List Jvm.Cond := Jvm.Cond.code x code maxLocals ret :: tables_1
/-- a 'code' word, met by the world's own term for the bytes: nothing is compared byte by byte -/
theorem code_word {y : MethodName} {bytes : ByteArray} {mx : Nat} {rt : Option FieldType} {a : Array Value} {s : State} {m : MethodId} {meth : Method} {c : Code} (h1 : s.methodNamed? y = some m) (h2 : s.vm.method? m = some meth) (h3 : meth.code = some c) (h4 : c.code = bytes)
    (h5 : (c.maxLocals == mx && c.exceptionTable.isEmpty && decide (c.maxStack ≤ mostOperands) && decide (meth.sig.returnType = rt) && !meth.locks && decide (parseMethodDescriptor y.desc = some meth.sig)) = true) : (Jvm.Cond.code y bytes mx rt).before a s = true := by
  simp only [Bool.and_eq_true, beq_iff_eq, Bool.not_eq_true', decide_eq_true_eq] at h5
  obtain ⟨⟨⟨⟨⟨g1, g2⟩, g3⟩, g4⟩, g5⟩, g6⟩ := h5
  simp [Cond.before, Cond.holds, Cond.value, h1, h2, h3, h4, g1, g2, g3, g4, g5, g6]
def isCode : Jvm.Cond → Bool
  | .code _ _ _ _ => true
  | _ => false
theorem all_split {L : List Jvm.Cond} {P : Jvm.Cond → Bool} (h1 : L.all (fun c => isCode c || P c) = true) (h2 : ∀ c ∈ L.filter isCode, P c = true) : L.all P = true := by
  refine List.all_eq_true.mpr fun c hc => ?_
  have h := List.all_eq_true.mp h1 c hc
  rcases Bool.eq_false_or_eq_true (isCode c) with hi | hi
  · exact h2 c (List.mem_filter.mpr ⟨hc, hi⟩)
  · simpa [hi] using h
set_option maxRecDepth 65536 in
theorem w_c0 : (Jvm.Cond.code x code maxLocals ret).before args0 about1 = true := code_word (m := ⟨1, 1⟩) (meth := k1m1) (c := k1c1) (by decide +kernel) rfl rfl rfl (by decide +kernel)
set_option maxRecDepth 65536 in
theorem w_c1 : (Jvm.Cond.code ({ cls := "com/example/izin/izin/Headcount", name := "isActive", desc := "(J)Z" } : Jvm.MethodName) prog_14_method_4_code (2 : Nat) (Option.some Jvm.ClassFile.FieldType.boolean)).before args0 about1 = true := code_word (m := ⟨3, 2⟩) (meth := k3m2) (c := k3c2) (by decide +kernel) rfl rfl rfl (by decide +kernel)
set_option maxRecDepth 65536 in
theorem w_c2 : (Jvm.Cond.code ({ cls := "java/lang/Math", name := "min", desc := "(JJ)J" } : Jvm.MethodName) jdk_29_method_70_code (4 : Nat) (Option.some Jvm.ClassFile.FieldType.long)).before args0 about1 = true := code_word (m := ⟨4, 2⟩) (meth := k4m2) (c := k4c2) (by decide +kernel) rfl rfl rfl (by decide +kernel)
set_option maxRecDepth 65536 in
theorem w_c3 : (Jvm.Cond.code ({ cls := "java/lang/Math", name := "max", desc := "(JJ)J" } : Jvm.MethodName) jdk_29_method_66_code (4 : Nat) (Option.some Jvm.ClassFile.FieldType.long)).before args0 about1 = true := code_word (m := ⟨4, 1⟩) (meth := k4m1) (c := k4c1) (by decide +kernel) rfl rfl rfl (by decide +kernel)
set_option maxRecDepth 65536 in
theorem w_c4 : (Jvm.Cond.code ({ cls := "com/example/izin/izin/Headcount", name := "plus", desc := "(J)Lcom/example/izin/izin/Headcount;" } : Jvm.MethodName) prog_14_method_2_code (3 : Nat) (Option.some (Jvm.ClassFile.FieldType.object "com/example/izin/izin/Headcount"))).before args0 about1 = true := code_word (m := ⟨3, 1⟩) (meth := k3m1) (c := k3c1) (by decide +kernel) rfl rfl rfl (by decide +kernel)
set_option maxRecDepth 65536 in
theorem w_c5 : (Jvm.Cond.code ({ cls := "com/example/izin/izin/Headcount", name := "activeCount", desc := "(J)J" } : Jvm.MethodName) prog_14_method_5_code (2 : Nat) (Option.some Jvm.ClassFile.FieldType.long)).before args0 about1 = true := code_word (m := ⟨3, 3⟩) (meth := k3m3) (c := k3c3) (by decide +kernel) rfl rfl rfl (by decide +kernel)
set_option maxRecDepth 65536 in
theorem w_c6 : (Jvm.Cond.code ({ cls := "com/example/izin/izin/Headcount", name := "<init>", desc := "(JJ)V" } : Jvm.MethodName) prog_14_method_1_code (5 : Nat) (Option.none : Option Jvm.ClassFile.FieldType)).before args0 about1 = true := code_word (m := ⟨3, 0⟩) (meth := k3m0) (c := k3c0) (by decide +kernel) rfl rfl rfl (by decide +kernel)
set_option maxRecDepth 65536 in
theorem w_c7 : (Jvm.Cond.code ({ cls := "java/lang/Record", name := "<init>", desc := "()V" } : Jvm.MethodName) jdk_30_method_1_code (1 : Nat) (Option.none : Option Jvm.ClassFile.FieldType)).before args0 about1 = true := code_word (m := ⟨2, 0⟩) (meth := k2m0) (c := k2c0) (by decide +kernel) rfl rfl rfl (by decide +kernel)
set_option maxRecDepth 65536 in
theorem w_c8 : (Jvm.Cond.code ({ cls := "java/lang/Object", name := "<init>", desc := "()V" } : Jvm.MethodName) object_method_1_code (1 : Nat) (Option.none : Option Jvm.ClassFile.FieldType)).before args0 about1 = true := code_word (m := ⟨0, 0⟩) (meth := k0m0) (c := k0c0) (by decide +kernel) rfl rfl rfl (by decide +kernel)
set_option maxRecDepth 65536 in
theorem w_c9 : (Jvm.Cond.code ({ cls := "com/example/izin/izin/Headcount", name := "active", desc := "()J" } : Jvm.MethodName) prog_14_method_10_code (1 : Nat) (Option.some Jvm.ClassFile.FieldType.long)).before args0 about1 = true := code_word (m := ⟨3, 4⟩) (meth := k3m4) (c := k3c4) (by decide +kernel) rfl rfl rfl (by decide +kernel)
def codes1 : List Jvm.Cond := [Jvm.Cond.code x code maxLocals ret, Jvm.Cond.code ({ cls := "com/example/izin/izin/Headcount", name := "isActive", desc := "(J)Z" } : Jvm.MethodName) prog_14_method_4_code (2 : Nat) (Option.some Jvm.ClassFile.FieldType.boolean), Jvm.Cond.code ({ cls := "java/lang/Math", name := "min", desc := "(JJ)J" } : Jvm.MethodName) jdk_29_method_70_code (4 : Nat) (Option.some Jvm.ClassFile.FieldType.long), Jvm.Cond.code ({ cls := "java/lang/Math", name := "max", desc := "(JJ)J" } : Jvm.MethodName) jdk_29_method_66_code (4 : Nat) (Option.some Jvm.ClassFile.FieldType.long), Jvm.Cond.code ({ cls := "com/example/izin/izin/Headcount", name := "plus", desc := "(J)Lcom/example/izin/izin/Headcount;" } : Jvm.MethodName) prog_14_method_2_code (3 : Nat) (Option.some (Jvm.ClassFile.FieldType.object "com/example/izin/izin/Headcount")), Jvm.Cond.code ({ cls := "com/example/izin/izin/Headcount", name := "activeCount", desc := "(J)J" } : Jvm.MethodName) prog_14_method_5_code (2 : Nat) (Option.some Jvm.ClassFile.FieldType.long), Jvm.Cond.code ({ cls := "com/example/izin/izin/Headcount", name := "<init>", desc := "(JJ)V" } : Jvm.MethodName) prog_14_method_1_code (5 : Nat) (Option.none : Option Jvm.ClassFile.FieldType), Jvm.Cond.code ({ cls := "java/lang/Record", name := "<init>", desc := "()V" } : Jvm.MethodName) jdk_30_method_1_code (1 : Nat) (Option.none : Option Jvm.ClassFile.FieldType), Jvm.Cond.code ({ cls := "java/lang/Object", name := "<init>", desc := "()V" } : Jvm.MethodName) object_method_1_code (1 : Nat) (Option.none : Option Jvm.ClassFile.FieldType), Jvm.Cond.code ({ cls := "com/example/izin/izin/Headcount", name := "active", desc := "()J" } : Jvm.MethodName) prog_14_method_10_code (1 : Nat) (Option.some Jvm.ClassFile.FieldType.long)]
set_option maxRecDepth 65536 in
theorem codes_eq : words1.filter isCode = codes1 := rfl
theorem w_codes : ∀ c ∈ words1.filter isCode, c.before args0 about1 = true := by
  rw [codes_eq]
  intro c hc
  simp only [codes1, List.mem_cons, List.not_mem_nil, or_false] at hc
  rcases hc with rfl | rfl | rfl | rfl | rfl | rfl | rfl | rfl | rfl | rfl
  · exact w_c0
  · exact w_c1
  · exact w_c2
  · exact w_c3
  · exact w_c4
  · exact w_c5
  · exact w_c6
  · exact w_c7
  · exact w_c8
  · exact w_c9
set_option maxRecDepth 65536 in
theorem w_t1 : (words1.take 24).all (fun c => isCode c || c.before args0 about1) = true := by decide +kernel
set_option maxRecDepth 65536 in
theorem w_t2 : (words1.drop 24).all (fun c => isCode c || c.before args0 about1) = true := by decide +kernel
theorem w_tables : (allAtoms (Jvm.Cond.code x code maxLocals ret :: tables_1)).before args0 about1 = true := by
  rw [allAtoms_all]
  show words1.all (fun c => c.before args0 about1) = true
  refine all_split ?_ w_codes
  rw [← List.take_append_drop 24 words1, List.all_append, w_t1, w_t2]
  rfl
set_option maxRecDepth 65536 in
theorem w_case : (Jvm.Cond.and given_1 narrow_1).before args0 about1 = true := by decide +kernel
theorem w_applies : (headSpec (Jvm.Cond.code x code maxLocals ret :: tables_1) room_1).applies x e0.platform about1 = true :=
  (Spec.applies_iff w_frames).mpr ⟨w_running, w_runnable, w_alone, w_named, w_hears, w_ripe, w_room, w_tables⟩
theorem atStart : AtStart classFile x code maxLocals ret World_1 tables_1 room_1 Calls_1 rest_1 Pre_1 launch0 p0 e0 about1 theMethod args0 below0 :=
  ⟨lists_1, trivial, launch0.admits_env _ _ _, launch0.least_env, fairChoices_fair.cas, fairChoices_fair.clock, w_frames, w_args, w_heap, w_applies, trivial, trivial, w_case⟩
end start1
theorem witness_1 : WitnessClaimed_1 := ⟨start1.p0, start1.e0, start1.about1, start1.theMethod, start1.args0, start1.below0, start1.atStart⟩
end Jvm.Pilot.@@N@@
