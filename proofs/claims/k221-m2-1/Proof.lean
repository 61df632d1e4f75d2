import JvmDerived
import JvmDerived.Pilot.@@N@@Statement
import JvmDerived.Pilot.@@N@@Code
set_option linter.unusedVariables false
set_option linter.unusedSimpArgs false
namespace Jvm.Pilot.@@N@@
open Jvm Jvm.ClassFile Sem Op Lib Jvm.Free Jvm.Stand Jvm.LawKit Jvm.RoadKit Bundle Jvm.Pilot.@@N@@.Jvm.D
theorem own_lt {x y : Int32} (h : x < y) : if_icmp.holds .lt x y = true ∧ if_icmp.holds .ge x y = false := by simp [if_icmp.holds, h, Int32.not_le.mpr h]
def own_Goes (p : Program) (e : Env) (below : List Frame) (s : State) (Q : Option Value → Heap → List Loc → Prop) (kc ks : Nat) (U : State) : Prop :=
  ∃ t o, Steps p.tables e below U t ∧ t.status = .running ∧ Ended t below o ∧ ∃ v L, o = .returned v ∧ Q v t.heap L ∧ FrameEnd s o t L kc ks
theorem own_go {p : Program} {e : Env} {below : List Frame} {s : State} {Q : Option Value → Heap → List Loc → Prop} {kc ks : Nat} {U V : State} (h : ∀ t, Steps p.tables e below V t → Steps p.tables e below U t) (g : own_Goes p e below s Q kc ks V) : own_Goes p e below s Q kc ks U := by
  obtain ⟨t, o, h1, r⟩ := g
  exact ⟨t, o, h t h1, r⟩
theorem own_out {p : Program} {l : Launch} {e : Env} {R : Room} {s : State} {m : MethodId} {args : Array Value} {below : List Frame} {meth : Method} {c : Code} {T : State} {locs : List Loc} {cells slots : Nat} {h : Heap} {Q : Option Value → Heap → List Loc → Prop} {kc ks : Nat} {U : State} {v : Option Value}
    (X : Stand p l e R s m args below meth c T locs cells slots) (hlk : meth.locks = false) (hv : meth.sig.returnType = none → v = none)
    (hs : ∀ fs, (∀ (f : JFrame) (acts : List Action), f.method = m → f.locked = none → f.entered = [] → (doReturn e (T.setTop f) acts v).1 = T.setFrames fs) → Steps p.tables e below U (T.setFrames fs))
    (eT : T.heap = h) (hQ : Q v h locs) (hc : cells ≤ kc) (hsl : slots ≤ ks) : own_Goes p e below s Q kc ks U := by
  obtain ⟨fs, hr, hrun, hended, hW, hsame⟩ := X.leave hv hlk
  subst eT
  exact ⟨_, _, hs fs hr, hrun, hended, _, _, rfl, hQ, ⟨_, rfl⟩, hW, hsame.mono hc hsl⟩
theorem own_ks {h0 h : Heap} {ws : List Addr} (K : Keep h0 h ws) : h0.size ≤ h.size := K.1
theorem own_cmpL (x : Int64) : XT.cmpL x x = 0 := by simp [XT.cmpL]
theorem own_vne {a b : Int32} (h : a ≠ b) : Value.int a ≠ .int b := fun q => h (Value.int.inj q)
theorem own_nn (x : Int32) : ¬ (x &&& 2147483647) < 0 := fun h => absurd ((XT.and_neg32 x 2147483647).mp h).2 (by decide)
theorem own_lk {p : Program} {l : Launch} {x : MethodName} {S : Spec} {code : ByteArray} {maxLocals : Nat} {ret : Option FieldType} {e : Env} {s : State} {m : MethodId} {args : Array Value} {below : List Frame} {meth : Method} {c : Code} {s₁ : State} (B : BodyLoose p l x S code maxLocals ret e s m args below meth c s₁) : meth.locks = false := B.notSynchronized
theorem own_if (cd : ClassFile.Cond) {x : Int32} {b : Bool} (h : if_icmp.holds cd x 0 = b) : ifCond.holds cd x = b := by rw [if0]; exact h
theorem own_aeq {a b : Addr} (h : a = b) : XT.acmp .eq (.ref a) (.ref b) = true ∧ XT.acmp .ne (.ref a) (.ref b) = false := by subst h; exact ⟨XT.aa_eq_t rfl, XT.aa_ne_f rfl⟩
theorem own_ane {a b : Addr} (h : ¬ a = b) : XT.acmp .eq (.ref a) (.ref b) = false ∧ XT.acmp .ne (.ref a) (.ref b) = true := ⟨XT.aa_eq_f (fun q => h (Value.ref.inj q)), XT.aa_ne_t (fun q => h (Value.ref.inj q))⟩
theorem own_eqI {args : Array Value} {s : State} {u : Term} {k : Int32} (h : (Jvm.Cond.eq u (.int k)).value args s none s [] = some true) : u.eval args s none [] s = some (.int k) := by
  simp only [Jvm.Cond.value] at h
  cases hf : u.eval args s none [] s with
  | none => simp [hf] at h
  | some v => cases v <;> simp [hf, Term.eval] at h; subst h; rfl
theorem own_eqJ {args : Array Value} {s : State} {u : Term} {k : Int64} (h : (Jvm.Cond.eq u (.long k)).value args s none s [] = some true) : u.eval args s none [] s = some (.long k) := by
  simp only [Jvm.Cond.value] at h
  cases hf : u.eval args s none [] s with
  | none => simp [hf] at h
  | some v => cases v <;> simp [hf, Term.eval] at h; subst h; rfl
theorem own_cl_gt (x y : Int64) : 0 < XT.cmpL x y ↔ y < x := by
  unfold XT.cmpL
  by_cases h : y < x
  · simp [h]
  · by_cases g : x = y
    · subst g; simp [h]
    · simp [h, g]
theorem own_cl_lt (x y : Int64) : XT.cmpL x y < 0 ↔ x < y := by
  unfold XT.cmpL
  by_cases h : y < x
  · have : ¬ x < y := fun q => by rw [Int64.lt_iff_toInt_lt] at h q; omega
    simp [h, this]
  · by_cases g : x = y
    · subst g; simp [h]
    · have : x < y := by
        rw [Int64.lt_iff_toInt_lt] at h ⊢
        have ne : x.toInt ≠ y.toInt := fun q => g (Int64.toInt_inj.mp q)
        omega
      simp [h, g, this]
theorem own_privateBack {p : Program} {l : Launch} {e : Env} {R : Room} {s : State} {m : MethodId} {args : Array Value} {below : List Frame} {meth : Method} {c : Code} {T : State} {locs : List Loc} {cells slots : Nat}
    (X : Stand p l e R s m args below meth c T locs cells slots) (hexec : p.tables.exec = Jvm.exec) {own : String} {index k : Nat} {y : MethodName} {bytes : ByteArray} {maxL : Nat} {ret : Option FieldType}
    (hown : s.vm.findClass own = some m.cls) (hlink : (Jvm.Cond.methodLink own index y).before args s = true) (hinst : (Jvm.Cond.instanceMethod y).before args s = true) (hmk : (Jvm.Cond.instantiable y.cls k).before args s = true)
    (hpriv : s.PrivateAt y) (hcode : (Jvm.Cond.code y bytes maxL ret).before args s = true) (hy : y.cls ≠ "java/lang/invoke/MethodHandle" ∧ y.cls ≠ "java/lang/invoke/VarHandle")
    {W : Nat} {Pre : Free.Pt → Array Value → Prop} {Post : Free.Pt → Array Value → Option Value → Free.Pt → Prop} (hK : Free.Back l R p e below s args y 3 W Pre Post)
    {g : JFrame} (hg : g.method = m) (hsize : g.locals.size = c.maxLocals) {s₀ : State} (hcome : Steps p.tables e below s₀ (T.setTop g)) {a : Addr} {cell : Cell} (hcell : T.heap[a]? = some cell) (hobj : ∀ q, cell.vm ≠ .statics q)
    {argsL rest : List Value} (hlen : ∀ sig, parseMethodDescriptor y.desc = some sig → argsL.length = sig.parameters.length)
    (hstack : g.stack = argsL.reverse ++ .ref a :: rest) (hW : 2 * g.monitorRoom + (rest.map fun v => v.category).sum ≤ W) (hdg : decode c.code g.pc = .ok (.invokevirtual index, 3))
    (hpre : ∀ vm₁, s.WarmedH vm₁ → Pre ⟨T.setVm vm₁, locs, cells, slots⟩ (.ref a :: argsL).toArray) :
    ∃ (v : Option Value) (vm₁ : Vm) (B : Free.Pt), s.WarmedH vm₁ ∧ Stand p l e R s m args below meth c B.U B.locs B.cells B.slots ∧ Post ⟨T.setVm vm₁, locs, cells, slots⟩ (.ref a :: argsL).toArray v B ∧
      Steps p.tables e below s₀ (B.U.setTop { g with pc := g.pc + 3, stack := v.toList ++ rest }) := by
  obtain ⟨mk, r, named, found, inst, abs⟩ := Cond.instanceMethod_spec hinst
  obtain ⟨r', cM, found', -, -, -, -, -, -, sig⟩ := Cond.code_spec named hcode
  cases found.symm.trans found'
  obtain ⟨cC, kC, k1, k2, -, k4, -⟩ := Cond.instantiable_spec hmk
  cases (findClass_of_methodNamed named).symm.trans k1
  have face : kC.isInterface = false := (Bool.or_eq_false_iff.mp k4).1
  have sel : selectMethod e.platform s.vm cell.cls mk = .method mk := selectMethod_private found (hpriv mk r named found)
  obtain ⟨vm₁, X₁, go⟩ := X.invokevirtual hexec hown hlink named found inst k2 face hy (a := a) (cell := cell) hcell hobj sel found abs k2 face (g := g) hg (argsL := argsL) (rest := rest) (hlen _ sig) hstack hdg
  obtain ⟨v, B, X', post, back⟩ := hK m meth c ⟨T.setVm vm₁, locs, cells, slots⟩ { g with stack := rest } (.invokevirtual index) mk (.ref a :: argsL).toArray X₁ hg hsize hdg hW (X₁.named named) (hpre vm₁ X₁.warmed)
  exact ⟨v, vm₁, B, X₁.warmed, X', post, (hcome.trans (go _ fun acts => by rw [doInvoke_state]; exact Steps.refl _)).trans back⟩
theorem own_fitR {C : String} {v : Value} (h : v.isRef = true) : fits (.object C) v = true := by rcases ref_cases h with rfl | ⟨a, rfl⟩ <;> rfl
theorem own_fI {args : Array Value} {s : State} {t : Term} {a : Addr} {O n d : String} {k : Int32} (ev : t.eval args s none [] s = some (.ref a)) (h : (Jvm.Cond.eq (.field t O n d) (.int k)).value args s none s [] = some true) : Fld s s.heap a O n d (.int k) := by
  refine Fld.start ?_
  simp only [Jvm.Cond.value, fld_at ev] at h
  cases hf : s.fieldOf? a O n d with
  | none => simp [hf] at h
  | some v => cases v <;> simp [hf, Term.eval] at h; subst h; rfl
theorem own_fJ {args : Array Value} {s : State} {t : Term} {a : Addr} {O n d : String} {k : Int64} (ev : t.eval args s none [] s = some (.ref a)) (h : (Jvm.Cond.eq (.field t O n d) (.long k)).value args s none s [] = some true) : Fld s s.heap a O n d (.long k) := by
  refine Fld.start ?_
  simp only [Jvm.Cond.value, fld_at ev] at h
  cases hf : s.fieldOf? a O n d with
  | none => simp [hf] at h
  | some v => cases v <;> simp [hf, Term.eval] at h; subst h; rfl
theorem own_fN {args : Array Value} {s : State} {t : Term} {a : Addr} {O n d : String} (ev : t.eval args s none [] s = some (.ref a)) (h : (Jvm.Cond.eq (.field t O n d) .null).value args s none s [] = some true) : Fld s s.heap a O n d .null := Fld.start ((fld_at ev).symm.trans (null_v h))
theorem pn_0 : plainName "java/lang/Enum" = true := by first | (simp [plainName, overriddenIn]; done) | decide +kernel
theorem pn_1 : plainName "com/example/esfahan/esfahan/model/Comparison" = true := by first | (simp [plainName, overriddenIn]; done) | decide +kernel
theorem pn_2 : plainName "com/example/esfahan/esfahan/model/ComparisonHoldsForSignPinLaw" = true := by first | (simp [plainName, overriddenIn]; done) | decide +kernel
theorem pd_0 : parseMethodDescriptor "()I" = some ⟨[], some .int⟩ := by decide +kernel
theorem pd_1 : parseMethodDescriptor "(I)Z" = some ⟨[.int], some .boolean⟩ := by decide +kernel
theorem pd_2 : parseMethodDescriptor "(ZII)Z" = some ⟨[.boolean, .int, .int], some .boolean⟩ := by decide +kernel
theorem d2_0 : decode jdk_37_method_2_code 0 = .ok (.aload_n 0, 1) := by decide +kernel
theorem d2_1 : decode jdk_37_method_2_code 1 = .ok (.getfield 7, 3) := by decide +kernel
theorem d2_4 : decode jdk_37_method_2_code 4 = .ok (.ireturn, 1) := by decide +kernel
theorem ef_ord0 (m : MethodId) (k : Addr) : entryFrame m #[(.ref k)] 1 = mkF m 0 #[.val (.ref k)] [] := by first | (simp [entryFrame, mkF, argsToLocals, Value.category]; done) | rfl
def Q_ord0 (Z : State) (k : Addr) (h0 : Heap) (n0 : Nat) (v : Option Value) (h : Heap) (L : List Loc) : Prop := v = some (.int (0 : Int32)) ∧ Fr n0 L ∧ h = h0
set_option maxRecDepth 65536 in
set_option maxHeartbeats 40000000 in
theorem rm_ord0 (l : Launch) (Z : State) (a0 : Array Value) (hw : ∀ d ∈ tables_1, d.before a0 Z = true) (ws : List Jvm.Cond) (k : Addr) (h0 : Heap) (n0 : Nat) (O0 : Old Z n0 h0) (Fk : Fld Z h0 k "java/lang/Enum" "ordinal" "I" (.int (0 : Int32))) :
    MetFree l (⟨"java/lang/Enum", "ordinal", "()I"⟩ : MethodName) (head1 (Jvm.Cond.code (⟨"java/lang/Enum", "ordinal", "()I"⟩ : MethodName) jdk_37_method_2_code 1 (some .int) :: ws) ({ frames := 0, cells := 0, slots := 0, locals := 0 } : Room)) (fun av_ U => av_ = #[(.ref k)] ∧ Z.Warmed39 U.vm ∧ U.heap = h0) (fun _ _ _ _ _ => True) (fun _ U o_ U' => ∃ v L, o_ = .returned v ∧ Q_ord0 Z k h0 n0 v U'.heap L ∧ FrameEnd U o_ U' L ({ frames := 0, cells := 0, slots := 0, locals := 0 } : Room).cells ({ frames := 0, cells := 0, slots := 0, locals := 0 } : Room).slots) := by
  refine MetFree.of_bodySF (plainFor_of_name pn_0) hisR ?_
  intro p e s m args below meth c s₁ Bd hml0 hP hK
  obtain ⟨rfl, hZ, hh⟩ := hP
  have hx := Bd.exec
  have hby := Bd.bytes
  have hml : c.maxLocals = 1 := hml0
  have hown : s.vm.findClass "java/lang/Enum" = some m.cls := findClass_of_methodNamed Bd.named
  have hnm := (name_of_methodNamed Bd.named Bd.method).1
  have hlk := own_lk Bd
  have hret := Bd.returns
  have X0 : Stand p l e ({ frames := 0, cells := 0, slots := 0, locals := 0 } : Room) s m #[(.ref k)] below meth c s₁ [] 0 0 := Stand.of_body Bd
  have e0 : s₁.heap = h0 := by rw [← hh, Bd.state]; rfl
  have N0 := Fr.nil n0
  show own_Goes p e below s (Q_ord0 Z k h0 n0) ({ frames := 0, cells := 0, slots := 0, locals := 0 } : Room).cells ({ frames := 0, cells := 0, slots := 0, locals := 0 } : Room).slots (s₁.setTop (entryFrame m #[(.ref k)] 1))
  refine own_go (fun _ ww => castTop (ef_ord0 m k) ww) ?_
  show own_Goes _ _ _ _ _ _ _ (s₁.setTop (mkF m 0 #[.val (.ref k)] []))
  refine own_go (fun _ ww => XS.aloadN X0.here hx rfl (hb hby d2_0) rfl rfl ww) ?_
  show own_Goes _ _ _ _ _ _ _ (s₁.setTop (mkF m 1 #[.val (.ref k)] [(.ref k)]))
  obtain ⟨T1, X1, e1, st1⟩ := getF X0 hx hZ hown (host := "") (Or.inl (hw _ (List.mem_of_getElem? (i := 15) rfl))) Via.refl e0 Fk (g := (mkF m 1 #[.val (.ref k)] [(.ref k)])) rfl rfl (hb hby d2_1)
  refine own_go st1 ?_
  show own_Goes _ _ _ _ _ _ _ (T1.setTop (mkF m 4 #[.val (.ref k)] [(.int (0 : Int32))]))
  exact own_out X1 hlk (v := some (.int (0 : Int32))) (fun h => by rw [hret] at h; cases h) (fun fs hr => retOut X1 hx (t := .int) hret rfl (Or.inl ⟨rfl, by simp, _, rfl⟩) (hb hby d2_4) hr) e1 ⟨rfl, N0, rfl⟩ (by decide) (by decide)
theorem d1_0 : decode prog_47_method_10_code 0 = .ok (.aload_n 0, 1) := by decide +kernel
theorem d1_1 : decode prog_47_method_10_code 1 = .ok (.invokevirtual 101, 3) := by decide +kernel
theorem d1_4 : decode prog_47_method_10_code 4 = .ok (.tableswitch 40 0 5 #[50, 62, 74, 86, 98, 110], 40) := by decide +kernel
theorem d1_54 : decode prog_47_method_10_code 54 = .ok (.iload_n 1, 1) := by decide +kernel
theorem d1_55 : decode prog_47_method_10_code 55 = .ok (.ifCond .ne 7, 3) := by decide +kernel
theorem d1_58 : decode prog_47_method_10_code 58 = .ok (.iconst 1, 1) := by decide +kernel
theorem d1_59 : decode prog_47_method_10_code 59 = .ok (.goto 64, 3) := by decide +kernel
theorem d1_123 : decode prog_47_method_10_code 123 = .ok (.ireturn, 1) := by decide +kernel
theorem d1_62 : decode prog_47_method_10_code 62 = .ok (.iconst 0, 1) := by decide +kernel
theorem d1_63 : decode prog_47_method_10_code 63 = .ok (.goto 60, 3) := by decide +kernel
theorem ef_hold0 (m : MethodId) (k : Addr) (x1 : Int32) (r : Int32) : entryFrame m #[(.ref k), (.int x1)] 2 = mkF m 0 #[.val (.ref k), .val (.int x1)] [] := by first | (simp [entryFrame, mkF, argsToLocals, Value.category]; done) | rfl
def Q_hold0 (Z : State) (k : Addr) (x1 : Int32) (r : Int32) (h0 : Heap) (n0 : Nat) (v : Option Value) (h : Heap) (L : List Loc) : Prop := v = some (.int r) ∧ Fr n0 L ∧ h = h0
set_option maxRecDepth 65536 in
set_option maxHeartbeats 40000000 in
theorem rm_hold0 (l : Launch) (Z : State) (a0 : Array Value) (hw : ∀ d ∈ tables_1, d.before a0 Z = true) (ws : List Jvm.Cond) (k : Addr) (x1 : Int32) (r : Int32) (h0 : Heap) (n0 : Nat) (O0 : Old Z n0 h0) (Fk : Fld Z h0 k "java/lang/Enum" "ordinal" "I" (.int (0 : Int32))) (Ek : Exa Z h0 k "com/example/esfahan/esfahan/model/Comparison") (hr1 : x1 = (0 : Int32) → r = 1) (hr0 : ¬ (x1 = (0 : Int32)) → r = 0) :
    MetFree l (⟨"com/example/esfahan/esfahan/model/Comparison", "holdsForSign", "(I)Z"⟩ : MethodName) (head1 (Jvm.Cond.code (⟨"com/example/esfahan/esfahan/model/Comparison", "holdsForSign", "(I)Z"⟩ : MethodName) prog_47_method_10_code 2 (some .boolean) :: ws) ({ frames := 1, cells := 0, slots := 0, locals := 12 } : Room)) (fun av_ U => av_ = #[(.ref k), (.int x1)] ∧ Z.Warmed39 U.vm ∧ U.heap = h0) (fun _ _ _ _ _ => True) (fun _ U o_ U' => ∃ v L, o_ = .returned v ∧ Q_hold0 Z k x1 r h0 n0 v U'.heap L ∧ FrameEnd U o_ U' L ({ frames := 1, cells := 0, slots := 0, locals := 12 } : Room).cells ({ frames := 1, cells := 0, slots := 0, locals := 12 } : Room).slots) := by
  refine MetFree.of_bodySF (plainFor_of_name pn_1) hisR ?_
  intro p e s m args below meth c s₁ Bd hml0 hP hK
  obtain ⟨rfl, hZ, hh⟩ := hP
  have hx := Bd.exec
  have hby := Bd.bytes
  have hml : c.maxLocals = 2 := hml0
  have hown : s.vm.findClass "com/example/esfahan/esfahan/model/Comparison" = some m.cls := findClass_of_methodNamed Bd.named
  have hnm := (name_of_methodNamed Bd.named Bd.method).1
  have hlk := own_lk Bd
  have hret := Bd.returns
  have X0 : Stand p l e ({ frames := 1, cells := 0, slots := 0, locals := 12 } : Room) s m #[(.ref k), (.int x1)] below meth c s₁ [] 0 0 := Stand.of_body Bd
  have e0 : s₁.heap = h0 := by rw [← hh, Bd.state]; rfl
  have N0 := Fr.nil n0
  show own_Goes p e below s (Q_hold0 Z k x1 r h0 n0) ({ frames := 1, cells := 0, slots := 0, locals := 12 } : Room).cells ({ frames := 1, cells := 0, slots := 0, locals := 12 } : Room).slots (s₁.setTop (entryFrame m #[(.ref k), (.int x1)] 2))
  refine own_go (fun _ ww => castTop (ef_hold0 m k x1 r) ww) ?_
  show own_Goes _ _ _ _ _ _ _ (s₁.setTop (mkF m 0 #[.val (.ref k), .val (.int x1)] []))
  refine own_go (fun _ ww => XS.aloadN X0.here hx rfl (hb hby d1_0) rfl rfl ww) ?_
  show own_Goes _ _ _ _ _ _ _ (s₁.setTop (mkF m 1 #[.val (.ref k), .val (.int x1)] [(.ref k)]))
  obtain ⟨cq2, kq2, q2a, q2b, q2c⟩ := isOf hZ e0 Ek
  obtain ⟨_, _, ⟨T2, L2, k2, n2⟩, -, X2, ⟨Lc2, hQ2, l2, y2, z2⟩, st2⟩ := X0.virtualBackUp hx (x := (⟨"com/example/esfahan/esfahan/model/Comparison", "ordinal", "()I"⟩ : MethodName)) (y := (⟨"java/lang/Enum", "ordinal", "()I"⟩ : MethodName)) hown (mvT hZ (hw _ (List.mem_of_getElem? (i := 8) rfl))) (mvT hZ (hw _ (List.mem_of_getElem? (i := 9) rfl))) (mvT hZ (hw _ (List.mem_of_getElem? (i := 10) rfl))) (by decide) (mvT hZ (hw _ (List.mem_of_getElem? (i := 12) rfl))) (mvT hZ (hw _ (List.mem_of_getElem? (i := 11) rfl))) (backOf (W := 0) (rm_ord0 l Z a0 hw [] k h0 n0 O0 Fk) hZ (hw _ (List.mem_of_getElem? (i := 14) rfl)) (hw _ (List.mem_of_getElem? (i := 13) rfl)) (by decide) (by decide)) q2a q2c (g := (mkF m 1 #[.val (.ref k), .val (.int x1)] [(.ref k)])) rfl (by rw [hml]; rfl) (Steps.refl _) (argsL := []) (rest := []) (lenOf pd_0 rfl) rfl (by show 2 * 0 + _ ≤ _; exact Nat.le_of_eq rfl) (hb hby d1_1) (fun _ _ => ⟨rfl, e0, (by decide : 0 + 0 ≤ _), (by decide : 0 + 0 ≤ _)⟩)
  dsimp only [Pt.U, Pt.locs, Pt.cells, Pt.slots] at X2 l2 y2 z2 st2 hQ2
  subst l2 y2 z2
  obtain ⟨rfl, N2q, e2⟩ := hQ2
  have N2 := Fr.app N0 N2q
  refine own_go (fun _ ww => Steps.trans st2 ww) ?_
  show own_Goes _ _ _ _ _ _ _ (T2.setTop (mkF m 4 #[.val (.ref k), .val (.int x1)] [(.int (0 : Int32))]))
  refine own_go (fun _ ww => XS.tswIn X2.here hx rfl (pc0 := 4) (pc' := 54) (o := 50) rfl (hb hby d1_4) rfl (by decide) (by decide) (by decide) (by decide) ww) ?_
  show own_Goes _ _ _ _ _ _ _ (T2.setTop (mkF m 54 #[.val (.ref k), .val (.int x1)] []))
  refine own_go (fun _ ww => XS.iloadN X2.here hx rfl (hb hby d1_54) rfl  ww) ?_
  show own_Goes _ _ _ _ _ _ _ (T2.setTop (mkF m 55 #[.val (.ref k), .val (.int x1)] [(.int x1)]))
  by_cases hc3 : x1 = (0 : Int32)
  ·
    refine own_go (fun _ ww => XS.ifNo X2.here hx rfl (hb hby d1_55) rfl (own_if .ne (teq hc3).2) ww) ?_
    show own_Goes _ _ _ _ _ _ _ (T2.setTop (mkF m 58 #[.val (.ref k), .val (.int x1)] []))
    refine own_go (fun _ ww => XS.iconst X2.here hx rfl (hb hby d1_58) ww) ?_
    show own_Goes _ _ _ _ _ _ _ (T2.setTop (mkF m 59 #[.val (.ref k), .val (.int x1)] [(.int (1 : Int32))]))
    refine own_go (fun _ ww => XS.goto X2.here hx rfl (pc0 := 59) (pc' := 123) rfl (hb hby d1_59) (by decide) (by decide) ww) ?_
    show own_Goes _ _ _ _ _ _ _ (T2.setTop (mkF m 123 #[.val (.ref k), .val (.int x1)] [(.int (1 : Int32))]))
    exact own_out X2 hlk (v := some (.int (1 : Int32))) (fun h => by rw [hret] at h; cases h) (fun fs hr => retOut X2 hx (t := .boolean) hret (by decide) (Or.inl ⟨rfl, by simp, _, rfl⟩) (hb hby d1_123) hr) e2 ⟨by rw [hr1 hc3], N2, rfl⟩ (by decide) (by decide)
  ·
    refine own_go (fun _ ww => XS.ifYes X2.here hx rfl (pc0 := 55) (pc' := 62) rfl (hb hby d1_55) rfl (own_if .ne (feq hc3).2) (by decide) (by decide) ww) ?_
    show own_Goes _ _ _ _ _ _ _ (T2.setTop (mkF m 62 #[.val (.ref k), .val (.int x1)] []))
    refine own_go (fun _ ww => XS.iconst X2.here hx rfl (hb hby d1_62) ww) ?_
    show own_Goes _ _ _ _ _ _ _ (T2.setTop (mkF m 63 #[.val (.ref k), .val (.int x1)] [(.int (0 : Int32))]))
    refine own_go (fun _ ww => XS.goto X2.here hx rfl (pc0 := 63) (pc' := 123) rfl (hb hby d1_63) (by decide) (by decide) ww) ?_
    show own_Goes _ _ _ _ _ _ _ (T2.setTop (mkF m 123 #[.val (.ref k), .val (.int x1)] [(.int (0 : Int32))]))
    exact own_out X2 hlk (v := some (.int (0 : Int32))) (fun h => by rw [hret] at h; cases h) (fun fs hr => retOut X2 hx (t := .boolean) hret (by decide) (Or.inl ⟨rfl, by simp, _, rfl⟩) (hb hby d1_123) hr) e2 ⟨by rw [hr0 hc3], N2, rfl⟩ (by decide) (by decide)
theorem ef_ord1 (m : MethodId) (k : Addr) : entryFrame m #[(.ref k)] 1 = mkF m 0 #[.val (.ref k)] [] := by first | (simp [entryFrame, mkF, argsToLocals, Value.category]; done) | rfl
def Q_ord1 (Z : State) (k : Addr) (h0 : Heap) (n0 : Nat) (v : Option Value) (h : Heap) (L : List Loc) : Prop := v = some (.int (1 : Int32)) ∧ Fr n0 L ∧ h = h0
set_option maxRecDepth 65536 in
set_option maxHeartbeats 40000000 in
theorem rm_ord1 (l : Launch) (Z : State) (a0 : Array Value) (hw : ∀ d ∈ tables_1, d.before a0 Z = true) (ws : List Jvm.Cond) (k : Addr) (h0 : Heap) (n0 : Nat) (O0 : Old Z n0 h0) (Fk : Fld Z h0 k "java/lang/Enum" "ordinal" "I" (.int (1 : Int32))) :
    MetFree l (⟨"java/lang/Enum", "ordinal", "()I"⟩ : MethodName) (head1 (Jvm.Cond.code (⟨"java/lang/Enum", "ordinal", "()I"⟩ : MethodName) jdk_37_method_2_code 1 (some .int) :: ws) ({ frames := 0, cells := 0, slots := 0, locals := 0 } : Room)) (fun av_ U => av_ = #[(.ref k)] ∧ Z.Warmed39 U.vm ∧ U.heap = h0) (fun _ _ _ _ _ => True) (fun _ U o_ U' => ∃ v L, o_ = .returned v ∧ Q_ord1 Z k h0 n0 v U'.heap L ∧ FrameEnd U o_ U' L ({ frames := 0, cells := 0, slots := 0, locals := 0 } : Room).cells ({ frames := 0, cells := 0, slots := 0, locals := 0 } : Room).slots) := by
  refine MetFree.of_bodySF (plainFor_of_name pn_0) hisR ?_
  intro p e s m args below meth c s₁ Bd hml0 hP hK
  obtain ⟨rfl, hZ, hh⟩ := hP
  have hx := Bd.exec
  have hby := Bd.bytes
  have hml : c.maxLocals = 1 := hml0
  have hown : s.vm.findClass "java/lang/Enum" = some m.cls := findClass_of_methodNamed Bd.named
  have hnm := (name_of_methodNamed Bd.named Bd.method).1
  have hlk := own_lk Bd
  have hret := Bd.returns
  have X0 : Stand p l e ({ frames := 0, cells := 0, slots := 0, locals := 0 } : Room) s m #[(.ref k)] below meth c s₁ [] 0 0 := Stand.of_body Bd
  have e0 : s₁.heap = h0 := by rw [← hh, Bd.state]; rfl
  have N0 := Fr.nil n0
  show own_Goes p e below s (Q_ord1 Z k h0 n0) ({ frames := 0, cells := 0, slots := 0, locals := 0 } : Room).cells ({ frames := 0, cells := 0, slots := 0, locals := 0 } : Room).slots (s₁.setTop (entryFrame m #[(.ref k)] 1))
  refine own_go (fun _ ww => castTop (ef_ord1 m k) ww) ?_
  show own_Goes _ _ _ _ _ _ _ (s₁.setTop (mkF m 0 #[.val (.ref k)] []))
  refine own_go (fun _ ww => XS.aloadN X0.here hx rfl (hb hby d2_0) rfl rfl ww) ?_
  show own_Goes _ _ _ _ _ _ _ (s₁.setTop (mkF m 1 #[.val (.ref k)] [(.ref k)]))
  obtain ⟨T4, X4, e4, st4⟩ := getF X0 hx hZ hown (host := "") (Or.inl (hw _ (List.mem_of_getElem? (i := 15) rfl))) Via.refl e0 Fk (g := (mkF m 1 #[.val (.ref k)] [(.ref k)])) rfl rfl (hb hby d2_1)
  refine own_go st4 ?_
  show own_Goes _ _ _ _ _ _ _ (T4.setTop (mkF m 4 #[.val (.ref k)] [(.int (1 : Int32))]))
  exact own_out X4 hlk (v := some (.int (1 : Int32))) (fun h => by rw [hret] at h; cases h) (fun fs hr => retOut X4 hx (t := .int) hret rfl (Or.inl ⟨rfl, by simp, _, rfl⟩) (hb hby d2_4) hr) e4 ⟨rfl, N0, rfl⟩ (by decide) (by decide)
theorem d1_66 : decode prog_47_method_10_code 66 = .ok (.iload_n 1, 1) := by decide +kernel
theorem d1_67 : decode prog_47_method_10_code 67 = .ok (.ifCond .eq 7, 3) := by decide +kernel
theorem d1_74 : decode prog_47_method_10_code 74 = .ok (.iconst 0, 1) := by decide +kernel
theorem d1_75 : decode prog_47_method_10_code 75 = .ok (.goto 48, 3) := by decide +kernel
theorem d1_70 : decode prog_47_method_10_code 70 = .ok (.iconst 1, 1) := by decide +kernel
theorem d1_71 : decode prog_47_method_10_code 71 = .ok (.goto 52, 3) := by decide +kernel
theorem ef_hold1 (m : MethodId) (k : Addr) (x1 : Int32) (r : Int32) : entryFrame m #[(.ref k), (.int x1)] 2 = mkF m 0 #[.val (.ref k), .val (.int x1)] [] := by first | (simp [entryFrame, mkF, argsToLocals, Value.category]; done) | rfl
def Q_hold1 (Z : State) (k : Addr) (x1 : Int32) (r : Int32) (h0 : Heap) (n0 : Nat) (v : Option Value) (h : Heap) (L : List Loc) : Prop := v = some (.int r) ∧ Fr n0 L ∧ h = h0
set_option maxRecDepth 65536 in
set_option maxHeartbeats 40000000 in
theorem rm_hold1 (l : Launch) (Z : State) (a0 : Array Value) (hw : ∀ d ∈ tables_1, d.before a0 Z = true) (ws : List Jvm.Cond) (k : Addr) (x1 : Int32) (r : Int32) (h0 : Heap) (n0 : Nat) (O0 : Old Z n0 h0) (Fk : Fld Z h0 k "java/lang/Enum" "ordinal" "I" (.int (1 : Int32))) (Ek : Exa Z h0 k "com/example/esfahan/esfahan/model/Comparison") (hr1 : x1 = (0 : Int32) → r = 0) (hr0 : ¬ (x1 = (0 : Int32)) → r = 1) :
    MetFree l (⟨"com/example/esfahan/esfahan/model/Comparison", "holdsForSign", "(I)Z"⟩ : MethodName) (head1 (Jvm.Cond.code (⟨"com/example/esfahan/esfahan/model/Comparison", "holdsForSign", "(I)Z"⟩ : MethodName) prog_47_method_10_code 2 (some .boolean) :: ws) ({ frames := 1, cells := 0, slots := 0, locals := 12 } : Room)) (fun av_ U => av_ = #[(.ref k), (.int x1)] ∧ Z.Warmed39 U.vm ∧ U.heap = h0) (fun _ _ _ _ _ => True) (fun _ U o_ U' => ∃ v L, o_ = .returned v ∧ Q_hold1 Z k x1 r h0 n0 v U'.heap L ∧ FrameEnd U o_ U' L ({ frames := 1, cells := 0, slots := 0, locals := 12 } : Room).cells ({ frames := 1, cells := 0, slots := 0, locals := 12 } : Room).slots) := by
  refine MetFree.of_bodySF (plainFor_of_name pn_1) hisR ?_
  intro p e s m args below meth c s₁ Bd hml0 hP hK
  obtain ⟨rfl, hZ, hh⟩ := hP
  have hx := Bd.exec
  have hby := Bd.bytes
  have hml : c.maxLocals = 2 := hml0
  have hown : s.vm.findClass "com/example/esfahan/esfahan/model/Comparison" = some m.cls := findClass_of_methodNamed Bd.named
  have hnm := (name_of_methodNamed Bd.named Bd.method).1
  have hlk := own_lk Bd
  have hret := Bd.returns
  have X0 : Stand p l e ({ frames := 1, cells := 0, slots := 0, locals := 12 } : Room) s m #[(.ref k), (.int x1)] below meth c s₁ [] 0 0 := Stand.of_body Bd
  have e0 : s₁.heap = h0 := by rw [← hh, Bd.state]; rfl
  have N0 := Fr.nil n0
  show own_Goes p e below s (Q_hold1 Z k x1 r h0 n0) ({ frames := 1, cells := 0, slots := 0, locals := 12 } : Room).cells ({ frames := 1, cells := 0, slots := 0, locals := 12 } : Room).slots (s₁.setTop (entryFrame m #[(.ref k), (.int x1)] 2))
  refine own_go (fun _ ww => castTop (ef_hold1 m k x1 r) ww) ?_
  show own_Goes _ _ _ _ _ _ _ (s₁.setTop (mkF m 0 #[.val (.ref k), .val (.int x1)] []))
  refine own_go (fun _ ww => XS.aloadN X0.here hx rfl (hb hby d1_0) rfl rfl ww) ?_
  show own_Goes _ _ _ _ _ _ _ (s₁.setTop (mkF m 1 #[.val (.ref k), .val (.int x1)] [(.ref k)]))
  obtain ⟨cq5, kq5, q5a, q5b, q5c⟩ := isOf hZ e0 Ek
  obtain ⟨_, _, ⟨T5, L5, k5, n5⟩, -, X5, ⟨Lc5, hQ5, l5, y5, z5⟩, st5⟩ := X0.virtualBackUp hx (x := (⟨"com/example/esfahan/esfahan/model/Comparison", "ordinal", "()I"⟩ : MethodName)) (y := (⟨"java/lang/Enum", "ordinal", "()I"⟩ : MethodName)) hown (mvT hZ (hw _ (List.mem_of_getElem? (i := 8) rfl))) (mvT hZ (hw _ (List.mem_of_getElem? (i := 9) rfl))) (mvT hZ (hw _ (List.mem_of_getElem? (i := 10) rfl))) (by decide) (mvT hZ (hw _ (List.mem_of_getElem? (i := 12) rfl))) (mvT hZ (hw _ (List.mem_of_getElem? (i := 11) rfl))) (backOf (W := 0) (rm_ord1 l Z a0 hw [] k h0 n0 O0 Fk) hZ (hw _ (List.mem_of_getElem? (i := 14) rfl)) (hw _ (List.mem_of_getElem? (i := 13) rfl)) (by decide) (by decide)) q5a q5c (g := (mkF m 1 #[.val (.ref k), .val (.int x1)] [(.ref k)])) rfl (by rw [hml]; rfl) (Steps.refl _) (argsL := []) (rest := []) (lenOf pd_0 rfl) rfl (by show 2 * 0 + _ ≤ _; exact Nat.le_of_eq rfl) (hb hby d1_1) (fun _ _ => ⟨rfl, e0, (by decide : 0 + 0 ≤ _), (by decide : 0 + 0 ≤ _)⟩)
  dsimp only [Pt.U, Pt.locs, Pt.cells, Pt.slots] at X5 l5 y5 z5 st5 hQ5
  subst l5 y5 z5
  obtain ⟨rfl, N5q, e5⟩ := hQ5
  have N5 := Fr.app N0 N5q
  refine own_go (fun _ ww => Steps.trans st5 ww) ?_
  show own_Goes _ _ _ _ _ _ _ (T5.setTop (mkF m 4 #[.val (.ref k), .val (.int x1)] [(.int (1 : Int32))]))
  refine own_go (fun _ ww => XS.tswIn X5.here hx rfl (pc0 := 4) (pc' := 66) (o := 62) rfl (hb hby d1_4) rfl (by decide) (by decide) (by decide) (by decide) ww) ?_
  show own_Goes _ _ _ _ _ _ _ (T5.setTop (mkF m 66 #[.val (.ref k), .val (.int x1)] []))
  refine own_go (fun _ ww => XS.iloadN X5.here hx rfl (hb hby d1_66) rfl  ww) ?_
  show own_Goes _ _ _ _ _ _ _ (T5.setTop (mkF m 67 #[.val (.ref k), .val (.int x1)] [(.int x1)]))
  by_cases hc6 : x1 = (0 : Int32)
  ·
    refine own_go (fun _ ww => XS.ifYes X5.here hx rfl (pc0 := 67) (pc' := 74) rfl (hb hby d1_67) rfl (own_if .eq (teq hc6).1) (by decide) (by decide) ww) ?_
    show own_Goes _ _ _ _ _ _ _ (T5.setTop (mkF m 74 #[.val (.ref k), .val (.int x1)] []))
    refine own_go (fun _ ww => XS.iconst X5.here hx rfl (hb hby d1_74) ww) ?_
    show own_Goes _ _ _ _ _ _ _ (T5.setTop (mkF m 75 #[.val (.ref k), .val (.int x1)] [(.int (0 : Int32))]))
    refine own_go (fun _ ww => XS.goto X5.here hx rfl (pc0 := 75) (pc' := 123) rfl (hb hby d1_75) (by decide) (by decide) ww) ?_
    show own_Goes _ _ _ _ _ _ _ (T5.setTop (mkF m 123 #[.val (.ref k), .val (.int x1)] [(.int (0 : Int32))]))
    exact own_out X5 hlk (v := some (.int (0 : Int32))) (fun h => by rw [hret] at h; cases h) (fun fs hr => retOut X5 hx (t := .boolean) hret (by decide) (Or.inl ⟨rfl, by simp, _, rfl⟩) (hb hby d1_123) hr) e5 ⟨by rw [hr1 hc6], N5, rfl⟩ (by decide) (by decide)
  ·
    refine own_go (fun _ ww => XS.ifNo X5.here hx rfl (hb hby d1_67) rfl (own_if .eq (feq hc6).1) ww) ?_
    show own_Goes _ _ _ _ _ _ _ (T5.setTop (mkF m 70 #[.val (.ref k), .val (.int x1)] []))
    refine own_go (fun _ ww => XS.iconst X5.here hx rfl (hb hby d1_70) ww) ?_
    show own_Goes _ _ _ _ _ _ _ (T5.setTop (mkF m 71 #[.val (.ref k), .val (.int x1)] [(.int (1 : Int32))]))
    refine own_go (fun _ ww => XS.goto X5.here hx rfl (pc0 := 71) (pc' := 123) rfl (hb hby d1_71) (by decide) (by decide) ww) ?_
    show own_Goes _ _ _ _ _ _ _ (T5.setTop (mkF m 123 #[.val (.ref k), .val (.int x1)] [(.int (1 : Int32))]))
    exact own_out X5 hlk (v := some (.int (1 : Int32))) (fun h => by rw [hret] at h; cases h) (fun fs hr => retOut X5 hx (t := .boolean) hret (by decide) (Or.inl ⟨rfl, by simp, _, rfl⟩) (hb hby d1_123) hr) e5 ⟨by rw [hr0 hc6], N5, rfl⟩ (by decide) (by decide)
theorem ef_ord2 (m : MethodId) (k : Addr) : entryFrame m #[(.ref k)] 1 = mkF m 0 #[.val (.ref k)] [] := by first | (simp [entryFrame, mkF, argsToLocals, Value.category]; done) | rfl
def Q_ord2 (Z : State) (k : Addr) (h0 : Heap) (n0 : Nat) (v : Option Value) (h : Heap) (L : List Loc) : Prop := v = some (.int (2 : Int32)) ∧ Fr n0 L ∧ h = h0
set_option maxRecDepth 65536 in
set_option maxHeartbeats 40000000 in
theorem rm_ord2 (l : Launch) (Z : State) (a0 : Array Value) (hw : ∀ d ∈ tables_1, d.before a0 Z = true) (ws : List Jvm.Cond) (k : Addr) (h0 : Heap) (n0 : Nat) (O0 : Old Z n0 h0) (Fk : Fld Z h0 k "java/lang/Enum" "ordinal" "I" (.int (2 : Int32))) :
    MetFree l (⟨"java/lang/Enum", "ordinal", "()I"⟩ : MethodName) (head1 (Jvm.Cond.code (⟨"java/lang/Enum", "ordinal", "()I"⟩ : MethodName) jdk_37_method_2_code 1 (some .int) :: ws) ({ frames := 0, cells := 0, slots := 0, locals := 0 } : Room)) (fun av_ U => av_ = #[(.ref k)] ∧ Z.Warmed39 U.vm ∧ U.heap = h0) (fun _ _ _ _ _ => True) (fun _ U o_ U' => ∃ v L, o_ = .returned v ∧ Q_ord2 Z k h0 n0 v U'.heap L ∧ FrameEnd U o_ U' L ({ frames := 0, cells := 0, slots := 0, locals := 0 } : Room).cells ({ frames := 0, cells := 0, slots := 0, locals := 0 } : Room).slots) := by
  refine MetFree.of_bodySF (plainFor_of_name pn_0) hisR ?_
  intro p e s m args below meth c s₁ Bd hml0 hP hK
  obtain ⟨rfl, hZ, hh⟩ := hP
  have hx := Bd.exec
  have hby := Bd.bytes
  have hml : c.maxLocals = 1 := hml0
  have hown : s.vm.findClass "java/lang/Enum" = some m.cls := findClass_of_methodNamed Bd.named
  have hnm := (name_of_methodNamed Bd.named Bd.method).1
  have hlk := own_lk Bd
  have hret := Bd.returns
  have X0 : Stand p l e ({ frames := 0, cells := 0, slots := 0, locals := 0 } : Room) s m #[(.ref k)] below meth c s₁ [] 0 0 := Stand.of_body Bd
  have e0 : s₁.heap = h0 := by rw [← hh, Bd.state]; rfl
  have N0 := Fr.nil n0
  show own_Goes p e below s (Q_ord2 Z k h0 n0) ({ frames := 0, cells := 0, slots := 0, locals := 0 } : Room).cells ({ frames := 0, cells := 0, slots := 0, locals := 0 } : Room).slots (s₁.setTop (entryFrame m #[(.ref k)] 1))
  refine own_go (fun _ ww => castTop (ef_ord2 m k) ww) ?_
  show own_Goes _ _ _ _ _ _ _ (s₁.setTop (mkF m 0 #[.val (.ref k)] []))
  refine own_go (fun _ ww => XS.aloadN X0.here hx rfl (hb hby d2_0) rfl rfl ww) ?_
  show own_Goes _ _ _ _ _ _ _ (s₁.setTop (mkF m 1 #[.val (.ref k)] [(.ref k)]))
  obtain ⟨T7, X7, e7, st7⟩ := getF X0 hx hZ hown (host := "") (Or.inl (hw _ (List.mem_of_getElem? (i := 15) rfl))) Via.refl e0 Fk (g := (mkF m 1 #[.val (.ref k)] [(.ref k)])) rfl rfl (hb hby d2_1)
  refine own_go st7 ?_
  show own_Goes _ _ _ _ _ _ _ (T7.setTop (mkF m 4 #[.val (.ref k)] [(.int (2 : Int32))]))
  exact own_out X7 hlk (v := some (.int (2 : Int32))) (fun h => by rw [hret] at h; cases h) (fun fs hr => retOut X7 hx (t := .int) hret rfl (Or.inl ⟨rfl, by simp, _, rfl⟩) (hb hby d2_4) hr) e7 ⟨rfl, N0, rfl⟩ (by decide) (by decide)
theorem d1_78 : decode prog_47_method_10_code 78 = .ok (.iload_n 1, 1) := by decide +kernel
theorem d1_79 : decode prog_47_method_10_code 79 = .ok (.ifCond .ge 7, 3) := by decide +kernel
theorem d1_82 : decode prog_47_method_10_code 82 = .ok (.iconst 1, 1) := by decide +kernel
theorem d1_83 : decode prog_47_method_10_code 83 = .ok (.goto 40, 3) := by decide +kernel
theorem d1_86 : decode prog_47_method_10_code 86 = .ok (.iconst 0, 1) := by decide +kernel
theorem d1_87 : decode prog_47_method_10_code 87 = .ok (.goto 36, 3) := by decide +kernel
theorem ef_hold2 (m : MethodId) (k : Addr) (x1 : Int32) (r : Int32) : entryFrame m #[(.ref k), (.int x1)] 2 = mkF m 0 #[.val (.ref k), .val (.int x1)] [] := by first | (simp [entryFrame, mkF, argsToLocals, Value.category]; done) | rfl
def Q_hold2 (Z : State) (k : Addr) (x1 : Int32) (r : Int32) (h0 : Heap) (n0 : Nat) (v : Option Value) (h : Heap) (L : List Loc) : Prop := v = some (.int r) ∧ Fr n0 L ∧ h = h0
set_option maxRecDepth 65536 in
set_option maxHeartbeats 40000000 in
theorem rm_hold2 (l : Launch) (Z : State) (a0 : Array Value) (hw : ∀ d ∈ tables_1, d.before a0 Z = true) (ws : List Jvm.Cond) (k : Addr) (x1 : Int32) (r : Int32) (h0 : Heap) (n0 : Nat) (O0 : Old Z n0 h0) (Fk : Fld Z h0 k "java/lang/Enum" "ordinal" "I" (.int (2 : Int32))) (Ek : Exa Z h0 k "com/example/esfahan/esfahan/model/Comparison") (hr1 : x1 < (0 : Int32) → r = 1) (hr0 : ¬ (x1 < (0 : Int32)) → r = 0) :
    MetFree l (⟨"com/example/esfahan/esfahan/model/Comparison", "holdsForSign", "(I)Z"⟩ : MethodName) (head1 (Jvm.Cond.code (⟨"com/example/esfahan/esfahan/model/Comparison", "holdsForSign", "(I)Z"⟩ : MethodName) prog_47_method_10_code 2 (some .boolean) :: ws) ({ frames := 1, cells := 0, slots := 0, locals := 12 } : Room)) (fun av_ U => av_ = #[(.ref k), (.int x1)] ∧ Z.Warmed39 U.vm ∧ U.heap = h0) (fun _ _ _ _ _ => True) (fun _ U o_ U' => ∃ v L, o_ = .returned v ∧ Q_hold2 Z k x1 r h0 n0 v U'.heap L ∧ FrameEnd U o_ U' L ({ frames := 1, cells := 0, slots := 0, locals := 12 } : Room).cells ({ frames := 1, cells := 0, slots := 0, locals := 12 } : Room).slots) := by
  refine MetFree.of_bodySF (plainFor_of_name pn_1) hisR ?_
  intro p e s m args below meth c s₁ Bd hml0 hP hK
  obtain ⟨rfl, hZ, hh⟩ := hP
  have hx := Bd.exec
  have hby := Bd.bytes
  have hml : c.maxLocals = 2 := hml0
  have hown : s.vm.findClass "com/example/esfahan/esfahan/model/Comparison" = some m.cls := findClass_of_methodNamed Bd.named
  have hnm := (name_of_methodNamed Bd.named Bd.method).1
  have hlk := own_lk Bd
  have hret := Bd.returns
  have X0 : Stand p l e ({ frames := 1, cells := 0, slots := 0, locals := 12 } : Room) s m #[(.ref k), (.int x1)] below meth c s₁ [] 0 0 := Stand.of_body Bd
  have e0 : s₁.heap = h0 := by rw [← hh, Bd.state]; rfl
  have N0 := Fr.nil n0
  show own_Goes p e below s (Q_hold2 Z k x1 r h0 n0) ({ frames := 1, cells := 0, slots := 0, locals := 12 } : Room).cells ({ frames := 1, cells := 0, slots := 0, locals := 12 } : Room).slots (s₁.setTop (entryFrame m #[(.ref k), (.int x1)] 2))
  refine own_go (fun _ ww => castTop (ef_hold2 m k x1 r) ww) ?_
  show own_Goes _ _ _ _ _ _ _ (s₁.setTop (mkF m 0 #[.val (.ref k), .val (.int x1)] []))
  refine own_go (fun _ ww => XS.aloadN X0.here hx rfl (hb hby d1_0) rfl rfl ww) ?_
  show own_Goes _ _ _ _ _ _ _ (s₁.setTop (mkF m 1 #[.val (.ref k), .val (.int x1)] [(.ref k)]))
  obtain ⟨cq8, kq8, q8a, q8b, q8c⟩ := isOf hZ e0 Ek
  obtain ⟨_, _, ⟨T8, L8, k8, n8⟩, -, X8, ⟨Lc8, hQ8, l8, y8, z8⟩, st8⟩ := X0.virtualBackUp hx (x := (⟨"com/example/esfahan/esfahan/model/Comparison", "ordinal", "()I"⟩ : MethodName)) (y := (⟨"java/lang/Enum", "ordinal", "()I"⟩ : MethodName)) hown (mvT hZ (hw _ (List.mem_of_getElem? (i := 8) rfl))) (mvT hZ (hw _ (List.mem_of_getElem? (i := 9) rfl))) (mvT hZ (hw _ (List.mem_of_getElem? (i := 10) rfl))) (by decide) (mvT hZ (hw _ (List.mem_of_getElem? (i := 12) rfl))) (mvT hZ (hw _ (List.mem_of_getElem? (i := 11) rfl))) (backOf (W := 0) (rm_ord2 l Z a0 hw [] k h0 n0 O0 Fk) hZ (hw _ (List.mem_of_getElem? (i := 14) rfl)) (hw _ (List.mem_of_getElem? (i := 13) rfl)) (by decide) (by decide)) q8a q8c (g := (mkF m 1 #[.val (.ref k), .val (.int x1)] [(.ref k)])) rfl (by rw [hml]; rfl) (Steps.refl _) (argsL := []) (rest := []) (lenOf pd_0 rfl) rfl (by show 2 * 0 + _ ≤ _; exact Nat.le_of_eq rfl) (hb hby d1_1) (fun _ _ => ⟨rfl, e0, (by decide : 0 + 0 ≤ _), (by decide : 0 + 0 ≤ _)⟩)
  dsimp only [Pt.U, Pt.locs, Pt.cells, Pt.slots] at X8 l8 y8 z8 st8 hQ8
  subst l8 y8 z8
  obtain ⟨rfl, N8q, e8⟩ := hQ8
  have N8 := Fr.app N0 N8q
  refine own_go (fun _ ww => Steps.trans st8 ww) ?_
  show own_Goes _ _ _ _ _ _ _ (T8.setTop (mkF m 4 #[.val (.ref k), .val (.int x1)] [(.int (2 : Int32))]))
  refine own_go (fun _ ww => XS.tswIn X8.here hx rfl (pc0 := 4) (pc' := 78) (o := 74) rfl (hb hby d1_4) rfl (by decide) (by decide) (by decide) (by decide) ww) ?_
  show own_Goes _ _ _ _ _ _ _ (T8.setTop (mkF m 78 #[.val (.ref k), .val (.int x1)] []))
  refine own_go (fun _ ww => XS.iloadN X8.here hx rfl (hb hby d1_78) rfl  ww) ?_
  show own_Goes _ _ _ _ _ _ _ (T8.setTop (mkF m 79 #[.val (.ref k), .val (.int x1)] [(.int x1)]))
  by_cases hc9 : x1 < (0 : Int32)
  ·
    refine own_go (fun _ ww => XS.ifNo X8.here hx rfl (hb hby d1_79) rfl (own_if .ge (tlt hc9).2.1) ww) ?_
    show own_Goes _ _ _ _ _ _ _ (T8.setTop (mkF m 82 #[.val (.ref k), .val (.int x1)] []))
    refine own_go (fun _ ww => XS.iconst X8.here hx rfl (hb hby d1_82) ww) ?_
    show own_Goes _ _ _ _ _ _ _ (T8.setTop (mkF m 83 #[.val (.ref k), .val (.int x1)] [(.int (1 : Int32))]))
    refine own_go (fun _ ww => XS.goto X8.here hx rfl (pc0 := 83) (pc' := 123) rfl (hb hby d1_83) (by decide) (by decide) ww) ?_
    show own_Goes _ _ _ _ _ _ _ (T8.setTop (mkF m 123 #[.val (.ref k), .val (.int x1)] [(.int (1 : Int32))]))
    exact own_out X8 hlk (v := some (.int (1 : Int32))) (fun h => by rw [hret] at h; cases h) (fun fs hr => retOut X8 hx (t := .boolean) hret (by decide) (Or.inl ⟨rfl, by simp, _, rfl⟩) (hb hby d1_123) hr) e8 ⟨by rw [hr1 hc9], N8, rfl⟩ (by decide) (by decide)
  ·
    refine own_go (fun _ ww => XS.ifYes X8.here hx rfl (pc0 := 79) (pc' := 86) rfl (hb hby d1_79) rfl (own_if .ge (flt hc9).2.1) (by decide) (by decide) ww) ?_
    show own_Goes _ _ _ _ _ _ _ (T8.setTop (mkF m 86 #[.val (.ref k), .val (.int x1)] []))
    refine own_go (fun _ ww => XS.iconst X8.here hx rfl (hb hby d1_86) ww) ?_
    show own_Goes _ _ _ _ _ _ _ (T8.setTop (mkF m 87 #[.val (.ref k), .val (.int x1)] [(.int (0 : Int32))]))
    refine own_go (fun _ ww => XS.goto X8.here hx rfl (pc0 := 87) (pc' := 123) rfl (hb hby d1_87) (by decide) (by decide) ww) ?_
    show own_Goes _ _ _ _ _ _ _ (T8.setTop (mkF m 123 #[.val (.ref k), .val (.int x1)] [(.int (0 : Int32))]))
    exact own_out X8 hlk (v := some (.int (0 : Int32))) (fun h => by rw [hret] at h; cases h) (fun fs hr => retOut X8 hx (t := .boolean) hret (by decide) (Or.inl ⟨rfl, by simp, _, rfl⟩) (hb hby d1_123) hr) e8 ⟨by rw [hr0 hc9], N8, rfl⟩ (by decide) (by decide)
theorem ef_ord3 (m : MethodId) (k : Addr) : entryFrame m #[(.ref k)] 1 = mkF m 0 #[.val (.ref k)] [] := by first | (simp [entryFrame, mkF, argsToLocals, Value.category]; done) | rfl
def Q_ord3 (Z : State) (k : Addr) (h0 : Heap) (n0 : Nat) (v : Option Value) (h : Heap) (L : List Loc) : Prop := v = some (.int (3 : Int32)) ∧ Fr n0 L ∧ h = h0
set_option maxRecDepth 65536 in
set_option maxHeartbeats 40000000 in
theorem rm_ord3 (l : Launch) (Z : State) (a0 : Array Value) (hw : ∀ d ∈ tables_1, d.before a0 Z = true) (ws : List Jvm.Cond) (k : Addr) (h0 : Heap) (n0 : Nat) (O0 : Old Z n0 h0) (Fk : Fld Z h0 k "java/lang/Enum" "ordinal" "I" (.int (3 : Int32))) :
    MetFree l (⟨"java/lang/Enum", "ordinal", "()I"⟩ : MethodName) (head1 (Jvm.Cond.code (⟨"java/lang/Enum", "ordinal", "()I"⟩ : MethodName) jdk_37_method_2_code 1 (some .int) :: ws) ({ frames := 0, cells := 0, slots := 0, locals := 0 } : Room)) (fun av_ U => av_ = #[(.ref k)] ∧ Z.Warmed39 U.vm ∧ U.heap = h0) (fun _ _ _ _ _ => True) (fun _ U o_ U' => ∃ v L, o_ = .returned v ∧ Q_ord3 Z k h0 n0 v U'.heap L ∧ FrameEnd U o_ U' L ({ frames := 0, cells := 0, slots := 0, locals := 0 } : Room).cells ({ frames := 0, cells := 0, slots := 0, locals := 0 } : Room).slots) := by
  refine MetFree.of_bodySF (plainFor_of_name pn_0) hisR ?_
  intro p e s m args below meth c s₁ Bd hml0 hP hK
  obtain ⟨rfl, hZ, hh⟩ := hP
  have hx := Bd.exec
  have hby := Bd.bytes
  have hml : c.maxLocals = 1 := hml0
  have hown : s.vm.findClass "java/lang/Enum" = some m.cls := findClass_of_methodNamed Bd.named
  have hnm := (name_of_methodNamed Bd.named Bd.method).1
  have hlk := own_lk Bd
  have hret := Bd.returns
  have X0 : Stand p l e ({ frames := 0, cells := 0, slots := 0, locals := 0 } : Room) s m #[(.ref k)] below meth c s₁ [] 0 0 := Stand.of_body Bd
  have e0 : s₁.heap = h0 := by rw [← hh, Bd.state]; rfl
  have N0 := Fr.nil n0
  show own_Goes p e below s (Q_ord3 Z k h0 n0) ({ frames := 0, cells := 0, slots := 0, locals := 0 } : Room).cells ({ frames := 0, cells := 0, slots := 0, locals := 0 } : Room).slots (s₁.setTop (entryFrame m #[(.ref k)] 1))
  refine own_go (fun _ ww => castTop (ef_ord3 m k) ww) ?_
  show own_Goes _ _ _ _ _ _ _ (s₁.setTop (mkF m 0 #[.val (.ref k)] []))
  refine own_go (fun _ ww => XS.aloadN X0.here hx rfl (hb hby d2_0) rfl rfl ww) ?_
  show own_Goes _ _ _ _ _ _ _ (s₁.setTop (mkF m 1 #[.val (.ref k)] [(.ref k)]))
  obtain ⟨T10, X10, e10, st10⟩ := getF X0 hx hZ hown (host := "") (Or.inl (hw _ (List.mem_of_getElem? (i := 15) rfl))) Via.refl e0 Fk (g := (mkF m 1 #[.val (.ref k)] [(.ref k)])) rfl rfl (hb hby d2_1)
  refine own_go st10 ?_
  show own_Goes _ _ _ _ _ _ _ (T10.setTop (mkF m 4 #[.val (.ref k)] [(.int (3 : Int32))]))
  exact own_out X10 hlk (v := some (.int (3 : Int32))) (fun h => by rw [hret] at h; cases h) (fun fs hr => retOut X10 hx (t := .int) hret rfl (Or.inl ⟨rfl, by simp, _, rfl⟩) (hb hby d2_4) hr) e10 ⟨rfl, N0, rfl⟩ (by decide) (by decide)
theorem d1_90 : decode prog_47_method_10_code 90 = .ok (.iload_n 1, 1) := by decide +kernel
theorem d1_91 : decode prog_47_method_10_code 91 = .ok (.ifCond .gt 7, 3) := by decide +kernel
theorem d1_98 : decode prog_47_method_10_code 98 = .ok (.iconst 0, 1) := by decide +kernel
theorem d1_99 : decode prog_47_method_10_code 99 = .ok (.goto 24, 3) := by decide +kernel
theorem d1_94 : decode prog_47_method_10_code 94 = .ok (.iconst 1, 1) := by decide +kernel
theorem d1_95 : decode prog_47_method_10_code 95 = .ok (.goto 28, 3) := by decide +kernel
theorem ef_hold3 (m : MethodId) (k : Addr) (x1 : Int32) (r : Int32) : entryFrame m #[(.ref k), (.int x1)] 2 = mkF m 0 #[.val (.ref k), .val (.int x1)] [] := by first | (simp [entryFrame, mkF, argsToLocals, Value.category]; done) | rfl
def Q_hold3 (Z : State) (k : Addr) (x1 : Int32) (r : Int32) (h0 : Heap) (n0 : Nat) (v : Option Value) (h : Heap) (L : List Loc) : Prop := v = some (.int r) ∧ Fr n0 L ∧ h = h0
set_option maxRecDepth 65536 in
set_option maxHeartbeats 40000000 in
theorem rm_hold3 (l : Launch) (Z : State) (a0 : Array Value) (hw : ∀ d ∈ tables_1, d.before a0 Z = true) (ws : List Jvm.Cond) (k : Addr) (x1 : Int32) (r : Int32) (h0 : Heap) (n0 : Nat) (O0 : Old Z n0 h0) (Fk : Fld Z h0 k "java/lang/Enum" "ordinal" "I" (.int (3 : Int32))) (Ek : Exa Z h0 k "com/example/esfahan/esfahan/model/Comparison") (hr1 : (0 : Int32) < x1 → r = 0) (hr0 : ¬ ((0 : Int32) < x1) → r = 1) :
    MetFree l (⟨"com/example/esfahan/esfahan/model/Comparison", "holdsForSign", "(I)Z"⟩ : MethodName) (head1 (Jvm.Cond.code (⟨"com/example/esfahan/esfahan/model/Comparison", "holdsForSign", "(I)Z"⟩ : MethodName) prog_47_method_10_code 2 (some .boolean) :: ws) ({ frames := 1, cells := 0, slots := 0, locals := 12 } : Room)) (fun av_ U => av_ = #[(.ref k), (.int x1)] ∧ Z.Warmed39 U.vm ∧ U.heap = h0) (fun _ _ _ _ _ => True) (fun _ U o_ U' => ∃ v L, o_ = .returned v ∧ Q_hold3 Z k x1 r h0 n0 v U'.heap L ∧ FrameEnd U o_ U' L ({ frames := 1, cells := 0, slots := 0, locals := 12 } : Room).cells ({ frames := 1, cells := 0, slots := 0, locals := 12 } : Room).slots) := by
  refine MetFree.of_bodySF (plainFor_of_name pn_1) hisR ?_
  intro p e s m args below meth c s₁ Bd hml0 hP hK
  obtain ⟨rfl, hZ, hh⟩ := hP
  have hx := Bd.exec
  have hby := Bd.bytes
  have hml : c.maxLocals = 2 := hml0
  have hown : s.vm.findClass "com/example/esfahan/esfahan/model/Comparison" = some m.cls := findClass_of_methodNamed Bd.named
  have hnm := (name_of_methodNamed Bd.named Bd.method).1
  have hlk := own_lk Bd
  have hret := Bd.returns
  have X0 : Stand p l e ({ frames := 1, cells := 0, slots := 0, locals := 12 } : Room) s m #[(.ref k), (.int x1)] below meth c s₁ [] 0 0 := Stand.of_body Bd
  have e0 : s₁.heap = h0 := by rw [← hh, Bd.state]; rfl
  have N0 := Fr.nil n0
  show own_Goes p e below s (Q_hold3 Z k x1 r h0 n0) ({ frames := 1, cells := 0, slots := 0, locals := 12 } : Room).cells ({ frames := 1, cells := 0, slots := 0, locals := 12 } : Room).slots (s₁.setTop (entryFrame m #[(.ref k), (.int x1)] 2))
  refine own_go (fun _ ww => castTop (ef_hold3 m k x1 r) ww) ?_
  show own_Goes _ _ _ _ _ _ _ (s₁.setTop (mkF m 0 #[.val (.ref k), .val (.int x1)] []))
  refine own_go (fun _ ww => XS.aloadN X0.here hx rfl (hb hby d1_0) rfl rfl ww) ?_
  show own_Goes _ _ _ _ _ _ _ (s₁.setTop (mkF m 1 #[.val (.ref k), .val (.int x1)] [(.ref k)]))
  obtain ⟨cq11, kq11, q11a, q11b, q11c⟩ := isOf hZ e0 Ek
  obtain ⟨_, _, ⟨T11, L11, k11, n11⟩, -, X11, ⟨Lc11, hQ11, l11, y11, z11⟩, st11⟩ := X0.virtualBackUp hx (x := (⟨"com/example/esfahan/esfahan/model/Comparison", "ordinal", "()I"⟩ : MethodName)) (y := (⟨"java/lang/Enum", "ordinal", "()I"⟩ : MethodName)) hown (mvT hZ (hw _ (List.mem_of_getElem? (i := 8) rfl))) (mvT hZ (hw _ (List.mem_of_getElem? (i := 9) rfl))) (mvT hZ (hw _ (List.mem_of_getElem? (i := 10) rfl))) (by decide) (mvT hZ (hw _ (List.mem_of_getElem? (i := 12) rfl))) (mvT hZ (hw _ (List.mem_of_getElem? (i := 11) rfl))) (backOf (W := 0) (rm_ord3 l Z a0 hw [] k h0 n0 O0 Fk) hZ (hw _ (List.mem_of_getElem? (i := 14) rfl)) (hw _ (List.mem_of_getElem? (i := 13) rfl)) (by decide) (by decide)) q11a q11c (g := (mkF m 1 #[.val (.ref k), .val (.int x1)] [(.ref k)])) rfl (by rw [hml]; rfl) (Steps.refl _) (argsL := []) (rest := []) (lenOf pd_0 rfl) rfl (by show 2 * 0 + _ ≤ _; exact Nat.le_of_eq rfl) (hb hby d1_1) (fun _ _ => ⟨rfl, e0, (by decide : 0 + 0 ≤ _), (by decide : 0 + 0 ≤ _)⟩)
  dsimp only [Pt.U, Pt.locs, Pt.cells, Pt.slots] at X11 l11 y11 z11 st11 hQ11
  subst l11 y11 z11
  obtain ⟨rfl, N11q, e11⟩ := hQ11
  have N11 := Fr.app N0 N11q
  refine own_go (fun _ ww => Steps.trans st11 ww) ?_
  show own_Goes _ _ _ _ _ _ _ (T11.setTop (mkF m 4 #[.val (.ref k), .val (.int x1)] [(.int (3 : Int32))]))
  refine own_go (fun _ ww => XS.tswIn X11.here hx rfl (pc0 := 4) (pc' := 90) (o := 86) rfl (hb hby d1_4) rfl (by decide) (by decide) (by decide) (by decide) ww) ?_
  show own_Goes _ _ _ _ _ _ _ (T11.setTop (mkF m 90 #[.val (.ref k), .val (.int x1)] []))
  refine own_go (fun _ ww => XS.iloadN X11.here hx rfl (hb hby d1_90) rfl  ww) ?_
  show own_Goes _ _ _ _ _ _ _ (T11.setTop (mkF m 91 #[.val (.ref k), .val (.int x1)] [(.int x1)]))
  by_cases hc12 : (0 : Int32) < x1
  ·
    refine own_go (fun _ ww => XS.ifYes X11.here hx rfl (pc0 := 91) (pc' := 98) rfl (hb hby d1_91) rfl (own_if .gt (tlt hc12).2.2.1) (by decide) (by decide) ww) ?_
    show own_Goes _ _ _ _ _ _ _ (T11.setTop (mkF m 98 #[.val (.ref k), .val (.int x1)] []))
    refine own_go (fun _ ww => XS.iconst X11.here hx rfl (hb hby d1_98) ww) ?_
    show own_Goes _ _ _ _ _ _ _ (T11.setTop (mkF m 99 #[.val (.ref k), .val (.int x1)] [(.int (0 : Int32))]))
    refine own_go (fun _ ww => XS.goto X11.here hx rfl (pc0 := 99) (pc' := 123) rfl (hb hby d1_99) (by decide) (by decide) ww) ?_
    show own_Goes _ _ _ _ _ _ _ (T11.setTop (mkF m 123 #[.val (.ref k), .val (.int x1)] [(.int (0 : Int32))]))
    exact own_out X11 hlk (v := some (.int (0 : Int32))) (fun h => by rw [hret] at h; cases h) (fun fs hr => retOut X11 hx (t := .boolean) hret (by decide) (Or.inl ⟨rfl, by simp, _, rfl⟩) (hb hby d1_123) hr) e11 ⟨by rw [hr1 hc12], N11, rfl⟩ (by decide) (by decide)
  ·
    refine own_go (fun _ ww => XS.ifNo X11.here hx rfl (hb hby d1_91) rfl (own_if .gt (flt hc12).2.2.1) ww) ?_
    show own_Goes _ _ _ _ _ _ _ (T11.setTop (mkF m 94 #[.val (.ref k), .val (.int x1)] []))
    refine own_go (fun _ ww => XS.iconst X11.here hx rfl (hb hby d1_94) ww) ?_
    show own_Goes _ _ _ _ _ _ _ (T11.setTop (mkF m 95 #[.val (.ref k), .val (.int x1)] [(.int (1 : Int32))]))
    refine own_go (fun _ ww => XS.goto X11.here hx rfl (pc0 := 95) (pc' := 123) rfl (hb hby d1_95) (by decide) (by decide) ww) ?_
    show own_Goes _ _ _ _ _ _ _ (T11.setTop (mkF m 123 #[.val (.ref k), .val (.int x1)] [(.int (1 : Int32))]))
    exact own_out X11 hlk (v := some (.int (1 : Int32))) (fun h => by rw [hret] at h; cases h) (fun fs hr => retOut X11 hx (t := .boolean) hret (by decide) (Or.inl ⟨rfl, by simp, _, rfl⟩) (hb hby d1_123) hr) e11 ⟨by rw [hr0 hc12], N11, rfl⟩ (by decide) (by decide)
theorem ef_ord4 (m : MethodId) (k : Addr) : entryFrame m #[(.ref k)] 1 = mkF m 0 #[.val (.ref k)] [] := by first | (simp [entryFrame, mkF, argsToLocals, Value.category]; done) | rfl
def Q_ord4 (Z : State) (k : Addr) (h0 : Heap) (n0 : Nat) (v : Option Value) (h : Heap) (L : List Loc) : Prop := v = some (.int (4 : Int32)) ∧ Fr n0 L ∧ h = h0
set_option maxRecDepth 65536 in
set_option maxHeartbeats 40000000 in
theorem rm_ord4 (l : Launch) (Z : State) (a0 : Array Value) (hw : ∀ d ∈ tables_1, d.before a0 Z = true) (ws : List Jvm.Cond) (k : Addr) (h0 : Heap) (n0 : Nat) (O0 : Old Z n0 h0) (Fk : Fld Z h0 k "java/lang/Enum" "ordinal" "I" (.int (4 : Int32))) :
    MetFree l (⟨"java/lang/Enum", "ordinal", "()I"⟩ : MethodName) (head1 (Jvm.Cond.code (⟨"java/lang/Enum", "ordinal", "()I"⟩ : MethodName) jdk_37_method_2_code 1 (some .int) :: ws) ({ frames := 0, cells := 0, slots := 0, locals := 0 } : Room)) (fun av_ U => av_ = #[(.ref k)] ∧ Z.Warmed39 U.vm ∧ U.heap = h0) (fun _ _ _ _ _ => True) (fun _ U o_ U' => ∃ v L, o_ = .returned v ∧ Q_ord4 Z k h0 n0 v U'.heap L ∧ FrameEnd U o_ U' L ({ frames := 0, cells := 0, slots := 0, locals := 0 } : Room).cells ({ frames := 0, cells := 0, slots := 0, locals := 0 } : Room).slots) := by
  refine MetFree.of_bodySF (plainFor_of_name pn_0) hisR ?_
  intro p e s m args below meth c s₁ Bd hml0 hP hK
  obtain ⟨rfl, hZ, hh⟩ := hP
  have hx := Bd.exec
  have hby := Bd.bytes
  have hml : c.maxLocals = 1 := hml0
  have hown : s.vm.findClass "java/lang/Enum" = some m.cls := findClass_of_methodNamed Bd.named
  have hnm := (name_of_methodNamed Bd.named Bd.method).1
  have hlk := own_lk Bd
  have hret := Bd.returns
  have X0 : Stand p l e ({ frames := 0, cells := 0, slots := 0, locals := 0 } : Room) s m #[(.ref k)] below meth c s₁ [] 0 0 := Stand.of_body Bd
  have e0 : s₁.heap = h0 := by rw [← hh, Bd.state]; rfl
  have N0 := Fr.nil n0
  show own_Goes p e below s (Q_ord4 Z k h0 n0) ({ frames := 0, cells := 0, slots := 0, locals := 0 } : Room).cells ({ frames := 0, cells := 0, slots := 0, locals := 0 } : Room).slots (s₁.setTop (entryFrame m #[(.ref k)] 1))
  refine own_go (fun _ ww => castTop (ef_ord4 m k) ww) ?_
  show own_Goes _ _ _ _ _ _ _ (s₁.setTop (mkF m 0 #[.val (.ref k)] []))
  refine own_go (fun _ ww => XS.aloadN X0.here hx rfl (hb hby d2_0) rfl rfl ww) ?_
  show own_Goes _ _ _ _ _ _ _ (s₁.setTop (mkF m 1 #[.val (.ref k)] [(.ref k)]))
  obtain ⟨T13, X13, e13, st13⟩ := getF X0 hx hZ hown (host := "") (Or.inl (hw _ (List.mem_of_getElem? (i := 15) rfl))) Via.refl e0 Fk (g := (mkF m 1 #[.val (.ref k)] [(.ref k)])) rfl rfl (hb hby d2_1)
  refine own_go st13 ?_
  show own_Goes _ _ _ _ _ _ _ (T13.setTop (mkF m 4 #[.val (.ref k)] [(.int (4 : Int32))]))
  exact own_out X13 hlk (v := some (.int (4 : Int32))) (fun h => by rw [hret] at h; cases h) (fun fs hr => retOut X13 hx (t := .int) hret rfl (Or.inl ⟨rfl, by simp, _, rfl⟩) (hb hby d2_4) hr) e13 ⟨rfl, N0, rfl⟩ (by decide) (by decide)
theorem d1_102 : decode prog_47_method_10_code 102 = .ok (.iload_n 1, 1) := by decide +kernel
theorem d1_103 : decode prog_47_method_10_code 103 = .ok (.ifCond .le 7, 3) := by decide +kernel
theorem d1_106 : decode prog_47_method_10_code 106 = .ok (.iconst 1, 1) := by decide +kernel
theorem d1_107 : decode prog_47_method_10_code 107 = .ok (.goto 16, 3) := by decide +kernel
theorem d1_110 : decode prog_47_method_10_code 110 = .ok (.iconst 0, 1) := by decide +kernel
theorem d1_111 : decode prog_47_method_10_code 111 = .ok (.goto 12, 3) := by decide +kernel
theorem ef_hold4 (m : MethodId) (k : Addr) (x1 : Int32) (r : Int32) : entryFrame m #[(.ref k), (.int x1)] 2 = mkF m 0 #[.val (.ref k), .val (.int x1)] [] := by first | (simp [entryFrame, mkF, argsToLocals, Value.category]; done) | rfl
def Q_hold4 (Z : State) (k : Addr) (x1 : Int32) (r : Int32) (h0 : Heap) (n0 : Nat) (v : Option Value) (h : Heap) (L : List Loc) : Prop := v = some (.int r) ∧ Fr n0 L ∧ h = h0
set_option maxRecDepth 65536 in
set_option maxHeartbeats 40000000 in
theorem rm_hold4 (l : Launch) (Z : State) (a0 : Array Value) (hw : ∀ d ∈ tables_1, d.before a0 Z = true) (ws : List Jvm.Cond) (k : Addr) (x1 : Int32) (r : Int32) (h0 : Heap) (n0 : Nat) (O0 : Old Z n0 h0) (Fk : Fld Z h0 k "java/lang/Enum" "ordinal" "I" (.int (4 : Int32))) (Ek : Exa Z h0 k "com/example/esfahan/esfahan/model/Comparison") (hr1 : (0 : Int32) < x1 → r = 1) (hr0 : ¬ ((0 : Int32) < x1) → r = 0) :
    MetFree l (⟨"com/example/esfahan/esfahan/model/Comparison", "holdsForSign", "(I)Z"⟩ : MethodName) (head1 (Jvm.Cond.code (⟨"com/example/esfahan/esfahan/model/Comparison", "holdsForSign", "(I)Z"⟩ : MethodName) prog_47_method_10_code 2 (some .boolean) :: ws) ({ frames := 1, cells := 0, slots := 0, locals := 12 } : Room)) (fun av_ U => av_ = #[(.ref k), (.int x1)] ∧ Z.Warmed39 U.vm ∧ U.heap = h0) (fun _ _ _ _ _ => True) (fun _ U o_ U' => ∃ v L, o_ = .returned v ∧ Q_hold4 Z k x1 r h0 n0 v U'.heap L ∧ FrameEnd U o_ U' L ({ frames := 1, cells := 0, slots := 0, locals := 12 } : Room).cells ({ frames := 1, cells := 0, slots := 0, locals := 12 } : Room).slots) := by
  refine MetFree.of_bodySF (plainFor_of_name pn_1) hisR ?_
  intro p e s m args below meth c s₁ Bd hml0 hP hK
  obtain ⟨rfl, hZ, hh⟩ := hP
  have hx := Bd.exec
  have hby := Bd.bytes
  have hml : c.maxLocals = 2 := hml0
  have hown : s.vm.findClass "com/example/esfahan/esfahan/model/Comparison" = some m.cls := findClass_of_methodNamed Bd.named
  have hnm := (name_of_methodNamed Bd.named Bd.method).1
  have hlk := own_lk Bd
  have hret := Bd.returns
  have X0 : Stand p l e ({ frames := 1, cells := 0, slots := 0, locals := 12 } : Room) s m #[(.ref k), (.int x1)] below meth c s₁ [] 0 0 := Stand.of_body Bd
  have e0 : s₁.heap = h0 := by rw [← hh, Bd.state]; rfl
  have N0 := Fr.nil n0
  show own_Goes p e below s (Q_hold4 Z k x1 r h0 n0) ({ frames := 1, cells := 0, slots := 0, locals := 12 } : Room).cells ({ frames := 1, cells := 0, slots := 0, locals := 12 } : Room).slots (s₁.setTop (entryFrame m #[(.ref k), (.int x1)] 2))
  refine own_go (fun _ ww => castTop (ef_hold4 m k x1 r) ww) ?_
  show own_Goes _ _ _ _ _ _ _ (s₁.setTop (mkF m 0 #[.val (.ref k), .val (.int x1)] []))
  refine own_go (fun _ ww => XS.aloadN X0.here hx rfl (hb hby d1_0) rfl rfl ww) ?_
  show own_Goes _ _ _ _ _ _ _ (s₁.setTop (mkF m 1 #[.val (.ref k), .val (.int x1)] [(.ref k)]))
  obtain ⟨cq14, kq14, q14a, q14b, q14c⟩ := isOf hZ e0 Ek
  obtain ⟨_, _, ⟨T14, L14, k14, n14⟩, -, X14, ⟨Lc14, hQ14, l14, y14, z14⟩, st14⟩ := X0.virtualBackUp hx (x := (⟨"com/example/esfahan/esfahan/model/Comparison", "ordinal", "()I"⟩ : MethodName)) (y := (⟨"java/lang/Enum", "ordinal", "()I"⟩ : MethodName)) hown (mvT hZ (hw _ (List.mem_of_getElem? (i := 8) rfl))) (mvT hZ (hw _ (List.mem_of_getElem? (i := 9) rfl))) (mvT hZ (hw _ (List.mem_of_getElem? (i := 10) rfl))) (by decide) (mvT hZ (hw _ (List.mem_of_getElem? (i := 12) rfl))) (mvT hZ (hw _ (List.mem_of_getElem? (i := 11) rfl))) (backOf (W := 0) (rm_ord4 l Z a0 hw [] k h0 n0 O0 Fk) hZ (hw _ (List.mem_of_getElem? (i := 14) rfl)) (hw _ (List.mem_of_getElem? (i := 13) rfl)) (by decide) (by decide)) q14a q14c (g := (mkF m 1 #[.val (.ref k), .val (.int x1)] [(.ref k)])) rfl (by rw [hml]; rfl) (Steps.refl _) (argsL := []) (rest := []) (lenOf pd_0 rfl) rfl (by show 2 * 0 + _ ≤ _; exact Nat.le_of_eq rfl) (hb hby d1_1) (fun _ _ => ⟨rfl, e0, (by decide : 0 + 0 ≤ _), (by decide : 0 + 0 ≤ _)⟩)
  dsimp only [Pt.U, Pt.locs, Pt.cells, Pt.slots] at X14 l14 y14 z14 st14 hQ14
  subst l14 y14 z14
  obtain ⟨rfl, N14q, e14⟩ := hQ14
  have N14 := Fr.app N0 N14q
  refine own_go (fun _ ww => Steps.trans st14 ww) ?_
  show own_Goes _ _ _ _ _ _ _ (T14.setTop (mkF m 4 #[.val (.ref k), .val (.int x1)] [(.int (4 : Int32))]))
  refine own_go (fun _ ww => XS.tswIn X14.here hx rfl (pc0 := 4) (pc' := 102) (o := 98) rfl (hb hby d1_4) rfl (by decide) (by decide) (by decide) (by decide) ww) ?_
  show own_Goes _ _ _ _ _ _ _ (T14.setTop (mkF m 102 #[.val (.ref k), .val (.int x1)] []))
  refine own_go (fun _ ww => XS.iloadN X14.here hx rfl (hb hby d1_102) rfl  ww) ?_
  show own_Goes _ _ _ _ _ _ _ (T14.setTop (mkF m 103 #[.val (.ref k), .val (.int x1)] [(.int x1)]))
  by_cases hc15 : (0 : Int32) < x1
  ·
    refine own_go (fun _ ww => XS.ifNo X14.here hx rfl (hb hby d1_103) rfl (own_if .le (tlt hc15).2.2.2) ww) ?_
    show own_Goes _ _ _ _ _ _ _ (T14.setTop (mkF m 106 #[.val (.ref k), .val (.int x1)] []))
    refine own_go (fun _ ww => XS.iconst X14.here hx rfl (hb hby d1_106) ww) ?_
    show own_Goes _ _ _ _ _ _ _ (T14.setTop (mkF m 107 #[.val (.ref k), .val (.int x1)] [(.int (1 : Int32))]))
    refine own_go (fun _ ww => XS.goto X14.here hx rfl (pc0 := 107) (pc' := 123) rfl (hb hby d1_107) (by decide) (by decide) ww) ?_
    show own_Goes _ _ _ _ _ _ _ (T14.setTop (mkF m 123 #[.val (.ref k), .val (.int x1)] [(.int (1 : Int32))]))
    exact own_out X14 hlk (v := some (.int (1 : Int32))) (fun h => by rw [hret] at h; cases h) (fun fs hr => retOut X14 hx (t := .boolean) hret (by decide) (Or.inl ⟨rfl, by simp, _, rfl⟩) (hb hby d1_123) hr) e14 ⟨by rw [hr1 hc15], N14, rfl⟩ (by decide) (by decide)
  ·
    refine own_go (fun _ ww => XS.ifYes X14.here hx rfl (pc0 := 103) (pc' := 110) rfl (hb hby d1_103) rfl (own_if .le (flt hc15).2.2.2) (by decide) (by decide) ww) ?_
    show own_Goes _ _ _ _ _ _ _ (T14.setTop (mkF m 110 #[.val (.ref k), .val (.int x1)] []))
    refine own_go (fun _ ww => XS.iconst X14.here hx rfl (hb hby d1_110) ww) ?_
    show own_Goes _ _ _ _ _ _ _ (T14.setTop (mkF m 111 #[.val (.ref k), .val (.int x1)] [(.int (0 : Int32))]))
    refine own_go (fun _ ww => XS.goto X14.here hx rfl (pc0 := 111) (pc' := 123) rfl (hb hby d1_111) (by decide) (by decide) ww) ?_
    show own_Goes _ _ _ _ _ _ _ (T14.setTop (mkF m 123 #[.val (.ref k), .val (.int x1)] [(.int (0 : Int32))]))
    exact own_out X14 hlk (v := some (.int (0 : Int32))) (fun h => by rw [hret] at h; cases h) (fun fs hr => retOut X14 hx (t := .boolean) hret (by decide) (Or.inl ⟨rfl, by simp, _, rfl⟩) (hb hby d1_123) hr) e14 ⟨by rw [hr0 hc15], N14, rfl⟩ (by decide) (by decide)
theorem ef_ord5 (m : MethodId) (k : Addr) : entryFrame m #[(.ref k)] 1 = mkF m 0 #[.val (.ref k)] [] := by first | (simp [entryFrame, mkF, argsToLocals, Value.category]; done) | rfl
def Q_ord5 (Z : State) (k : Addr) (h0 : Heap) (n0 : Nat) (v : Option Value) (h : Heap) (L : List Loc) : Prop := v = some (.int (5 : Int32)) ∧ Fr n0 L ∧ h = h0
set_option maxRecDepth 65536 in
set_option maxHeartbeats 40000000 in
theorem rm_ord5 (l : Launch) (Z : State) (a0 : Array Value) (hw : ∀ d ∈ tables_1, d.before a0 Z = true) (ws : List Jvm.Cond) (k : Addr) (h0 : Heap) (n0 : Nat) (O0 : Old Z n0 h0) (Fk : Fld Z h0 k "java/lang/Enum" "ordinal" "I" (.int (5 : Int32))) :
    MetFree l (⟨"java/lang/Enum", "ordinal", "()I"⟩ : MethodName) (head1 (Jvm.Cond.code (⟨"java/lang/Enum", "ordinal", "()I"⟩ : MethodName) jdk_37_method_2_code 1 (some .int) :: ws) ({ frames := 0, cells := 0, slots := 0, locals := 0 } : Room)) (fun av_ U => av_ = #[(.ref k)] ∧ Z.Warmed39 U.vm ∧ U.heap = h0) (fun _ _ _ _ _ => True) (fun _ U o_ U' => ∃ v L, o_ = .returned v ∧ Q_ord5 Z k h0 n0 v U'.heap L ∧ FrameEnd U o_ U' L ({ frames := 0, cells := 0, slots := 0, locals := 0 } : Room).cells ({ frames := 0, cells := 0, slots := 0, locals := 0 } : Room).slots) := by
  refine MetFree.of_bodySF (plainFor_of_name pn_0) hisR ?_
  intro p e s m args below meth c s₁ Bd hml0 hP hK
  obtain ⟨rfl, hZ, hh⟩ := hP
  have hx := Bd.exec
  have hby := Bd.bytes
  have hml : c.maxLocals = 1 := hml0
  have hown : s.vm.findClass "java/lang/Enum" = some m.cls := findClass_of_methodNamed Bd.named
  have hnm := (name_of_methodNamed Bd.named Bd.method).1
  have hlk := own_lk Bd
  have hret := Bd.returns
  have X0 : Stand p l e ({ frames := 0, cells := 0, slots := 0, locals := 0 } : Room) s m #[(.ref k)] below meth c s₁ [] 0 0 := Stand.of_body Bd
  have e0 : s₁.heap = h0 := by rw [← hh, Bd.state]; rfl
  have N0 := Fr.nil n0
  show own_Goes p e below s (Q_ord5 Z k h0 n0) ({ frames := 0, cells := 0, slots := 0, locals := 0 } : Room).cells ({ frames := 0, cells := 0, slots := 0, locals := 0 } : Room).slots (s₁.setTop (entryFrame m #[(.ref k)] 1))
  refine own_go (fun _ ww => castTop (ef_ord5 m k) ww) ?_
  show own_Goes _ _ _ _ _ _ _ (s₁.setTop (mkF m 0 #[.val (.ref k)] []))
  refine own_go (fun _ ww => XS.aloadN X0.here hx rfl (hb hby d2_0) rfl rfl ww) ?_
  show own_Goes _ _ _ _ _ _ _ (s₁.setTop (mkF m 1 #[.val (.ref k)] [(.ref k)]))
  obtain ⟨T16, X16, e16, st16⟩ := getF X0 hx hZ hown (host := "") (Or.inl (hw _ (List.mem_of_getElem? (i := 15) rfl))) Via.refl e0 Fk (g := (mkF m 1 #[.val (.ref k)] [(.ref k)])) rfl rfl (hb hby d2_1)
  refine own_go st16 ?_
  show own_Goes _ _ _ _ _ _ _ (T16.setTop (mkF m 4 #[.val (.ref k)] [(.int (5 : Int32))]))
  exact own_out X16 hlk (v := some (.int (5 : Int32))) (fun h => by rw [hret] at h; cases h) (fun fs hr => retOut X16 hx (t := .int) hret rfl (Or.inl ⟨rfl, by simp, _, rfl⟩) (hb hby d2_4) hr) e16 ⟨rfl, N0, rfl⟩ (by decide) (by decide)
theorem d1_114 : decode prog_47_method_10_code 114 = .ok (.iload_n 1, 1) := by decide +kernel
theorem d1_115 : decode prog_47_method_10_code 115 = .ok (.ifCond .lt 7, 3) := by decide +kernel
theorem d1_122 : decode prog_47_method_10_code 122 = .ok (.iconst 0, 1) := by decide +kernel
theorem d1_118 : decode prog_47_method_10_code 118 = .ok (.iconst 1, 1) := by decide +kernel
theorem d1_119 : decode prog_47_method_10_code 119 = .ok (.goto 4, 3) := by decide +kernel
theorem ef_hold5 (m : MethodId) (k : Addr) (x1 : Int32) (r : Int32) : entryFrame m #[(.ref k), (.int x1)] 2 = mkF m 0 #[.val (.ref k), .val (.int x1)] [] := by first | (simp [entryFrame, mkF, argsToLocals, Value.category]; done) | rfl
def Q_hold5 (Z : State) (k : Addr) (x1 : Int32) (r : Int32) (h0 : Heap) (n0 : Nat) (v : Option Value) (h : Heap) (L : List Loc) : Prop := v = some (.int r) ∧ Fr n0 L ∧ h = h0
set_option maxRecDepth 65536 in
set_option maxHeartbeats 40000000 in
theorem rm_hold5 (l : Launch) (Z : State) (a0 : Array Value) (hw : ∀ d ∈ tables_1, d.before a0 Z = true) (ws : List Jvm.Cond) (k : Addr) (x1 : Int32) (r : Int32) (h0 : Heap) (n0 : Nat) (O0 : Old Z n0 h0) (Fk : Fld Z h0 k "java/lang/Enum" "ordinal" "I" (.int (5 : Int32))) (Ek : Exa Z h0 k "com/example/esfahan/esfahan/model/Comparison") (hr1 : x1 < (0 : Int32) → r = 0) (hr0 : ¬ (x1 < (0 : Int32)) → r = 1) :
    MetFree l (⟨"com/example/esfahan/esfahan/model/Comparison", "holdsForSign", "(I)Z"⟩ : MethodName) (head1 (Jvm.Cond.code (⟨"com/example/esfahan/esfahan/model/Comparison", "holdsForSign", "(I)Z"⟩ : MethodName) prog_47_method_10_code 2 (some .boolean) :: ws) ({ frames := 1, cells := 0, slots := 0, locals := 12 } : Room)) (fun av_ U => av_ = #[(.ref k), (.int x1)] ∧ Z.Warmed39 U.vm ∧ U.heap = h0) (fun _ _ _ _ _ => True) (fun _ U o_ U' => ∃ v L, o_ = .returned v ∧ Q_hold5 Z k x1 r h0 n0 v U'.heap L ∧ FrameEnd U o_ U' L ({ frames := 1, cells := 0, slots := 0, locals := 12 } : Room).cells ({ frames := 1, cells := 0, slots := 0, locals := 12 } : Room).slots) := by
  refine MetFree.of_bodySF (plainFor_of_name pn_1) hisR ?_
  intro p e s m args below meth c s₁ Bd hml0 hP hK
  obtain ⟨rfl, hZ, hh⟩ := hP
  have hx := Bd.exec
  have hby := Bd.bytes
  have hml : c.maxLocals = 2 := hml0
  have hown : s.vm.findClass "com/example/esfahan/esfahan/model/Comparison" = some m.cls := findClass_of_methodNamed Bd.named
  have hnm := (name_of_methodNamed Bd.named Bd.method).1
  have hlk := own_lk Bd
  have hret := Bd.returns
  have X0 : Stand p l e ({ frames := 1, cells := 0, slots := 0, locals := 12 } : Room) s m #[(.ref k), (.int x1)] below meth c s₁ [] 0 0 := Stand.of_body Bd
  have e0 : s₁.heap = h0 := by rw [← hh, Bd.state]; rfl
  have N0 := Fr.nil n0
  show own_Goes p e below s (Q_hold5 Z k x1 r h0 n0) ({ frames := 1, cells := 0, slots := 0, locals := 12 } : Room).cells ({ frames := 1, cells := 0, slots := 0, locals := 12 } : Room).slots (s₁.setTop (entryFrame m #[(.ref k), (.int x1)] 2))
  refine own_go (fun _ ww => castTop (ef_hold5 m k x1 r) ww) ?_
  show own_Goes _ _ _ _ _ _ _ (s₁.setTop (mkF m 0 #[.val (.ref k), .val (.int x1)] []))
  refine own_go (fun _ ww => XS.aloadN X0.here hx rfl (hb hby d1_0) rfl rfl ww) ?_
  show own_Goes _ _ _ _ _ _ _ (s₁.setTop (mkF m 1 #[.val (.ref k), .val (.int x1)] [(.ref k)]))
  obtain ⟨cq17, kq17, q17a, q17b, q17c⟩ := isOf hZ e0 Ek
  obtain ⟨_, _, ⟨T17, L17, k17, n17⟩, -, X17, ⟨Lc17, hQ17, l17, y17, z17⟩, st17⟩ := X0.virtualBackUp hx (x := (⟨"com/example/esfahan/esfahan/model/Comparison", "ordinal", "()I"⟩ : MethodName)) (y := (⟨"java/lang/Enum", "ordinal", "()I"⟩ : MethodName)) hown (mvT hZ (hw _ (List.mem_of_getElem? (i := 8) rfl))) (mvT hZ (hw _ (List.mem_of_getElem? (i := 9) rfl))) (mvT hZ (hw _ (List.mem_of_getElem? (i := 10) rfl))) (by decide) (mvT hZ (hw _ (List.mem_of_getElem? (i := 12) rfl))) (mvT hZ (hw _ (List.mem_of_getElem? (i := 11) rfl))) (backOf (W := 0) (rm_ord5 l Z a0 hw [] k h0 n0 O0 Fk) hZ (hw _ (List.mem_of_getElem? (i := 14) rfl)) (hw _ (List.mem_of_getElem? (i := 13) rfl)) (by decide) (by decide)) q17a q17c (g := (mkF m 1 #[.val (.ref k), .val (.int x1)] [(.ref k)])) rfl (by rw [hml]; rfl) (Steps.refl _) (argsL := []) (rest := []) (lenOf pd_0 rfl) rfl (by show 2 * 0 + _ ≤ _; exact Nat.le_of_eq rfl) (hb hby d1_1) (fun _ _ => ⟨rfl, e0, (by decide : 0 + 0 ≤ _), (by decide : 0 + 0 ≤ _)⟩)
  dsimp only [Pt.U, Pt.locs, Pt.cells, Pt.slots] at X17 l17 y17 z17 st17 hQ17
  subst l17 y17 z17
  obtain ⟨rfl, N17q, e17⟩ := hQ17
  have N17 := Fr.app N0 N17q
  refine own_go (fun _ ww => Steps.trans st17 ww) ?_
  show own_Goes _ _ _ _ _ _ _ (T17.setTop (mkF m 4 #[.val (.ref k), .val (.int x1)] [(.int (5 : Int32))]))
  refine own_go (fun _ ww => XS.tswIn X17.here hx rfl (pc0 := 4) (pc' := 114) (o := 110) rfl (hb hby d1_4) rfl (by decide) (by decide) (by decide) (by decide) ww) ?_
  show own_Goes _ _ _ _ _ _ _ (T17.setTop (mkF m 114 #[.val (.ref k), .val (.int x1)] []))
  refine own_go (fun _ ww => XS.iloadN X17.here hx rfl (hb hby d1_114) rfl  ww) ?_
  show own_Goes _ _ _ _ _ _ _ (T17.setTop (mkF m 115 #[.val (.ref k), .val (.int x1)] [(.int x1)]))
  by_cases hc18 : x1 < (0 : Int32)
  ·
    refine own_go (fun _ ww => XS.ifYes X17.here hx rfl (pc0 := 115) (pc' := 122) rfl (hb hby d1_115) rfl (own_if .lt (tlt hc18).1) (by decide) (by decide) ww) ?_
    show own_Goes _ _ _ _ _ _ _ (T17.setTop (mkF m 122 #[.val (.ref k), .val (.int x1)] []))
    refine own_go (fun _ ww => XS.iconst X17.here hx rfl (hb hby d1_122) ww) ?_
    show own_Goes _ _ _ _ _ _ _ (T17.setTop (mkF m 123 #[.val (.ref k), .val (.int x1)] [(.int (0 : Int32))]))
    exact own_out X17 hlk (v := some (.int (0 : Int32))) (fun h => by rw [hret] at h; cases h) (fun fs hr => retOut X17 hx (t := .boolean) hret (by decide) (Or.inl ⟨rfl, by simp, _, rfl⟩) (hb hby d1_123) hr) e17 ⟨by rw [hr1 hc18], N17, rfl⟩ (by decide) (by decide)
  ·
    refine own_go (fun _ ww => XS.ifNo X17.here hx rfl (hb hby d1_115) rfl (own_if .lt (flt hc18).1) ww) ?_
    show own_Goes _ _ _ _ _ _ _ (T17.setTop (mkF m 118 #[.val (.ref k), .val (.int x1)] []))
    refine own_go (fun _ ww => XS.iconst X17.here hx rfl (hb hby d1_118) ww) ?_
    show own_Goes _ _ _ _ _ _ _ (T17.setTop (mkF m 119 #[.val (.ref k), .val (.int x1)] [(.int (1 : Int32))]))
    refine own_go (fun _ ww => XS.goto X17.here hx rfl (pc0 := 119) (pc' := 123) rfl (hb hby d1_119) (by decide) (by decide) ww) ?_
    show own_Goes _ _ _ _ _ _ _ (T17.setTop (mkF m 123 #[.val (.ref k), .val (.int x1)] [(.int (1 : Int32))]))
    exact own_out X17 hlk (v := some (.int (1 : Int32))) (fun h => by rw [hret] at h; cases h) (fun fs hr => retOut X17 hx (t := .boolean) hret (by decide) (Or.inl ⟨rfl, by simp, _, rfl⟩) (hb hby d1_123) hr) e17 ⟨by rw [hr0 hc18], N17, rfl⟩ (by decide) (by decide)
theorem d3_0 : decode method_3_code 0 = .ok (.iload_n 0, 1) := by decide +kernel
theorem d3_1 : decode method_3_code 1 = .ok (.iload_n 1, 1) := by decide +kernel
theorem d3_2 : decode method_3_code 2 = .ok (.iload_n 2, 1) := by decide +kernel
theorem d3_3 : decode method_3_code 3 = .ok (.iand, 1) := by decide +kernel
theorem d3_4 : decode method_3_code 4 = .ok (.ifCond .eq 7, 3) := by decide +kernel
theorem d3_11 : decode method_3_code 11 = .ok (.iconst 0, 1) := by decide +kernel
theorem d3_12 : decode method_3_code 12 = .ok (.if_icmp .ne 7, 3) := by decide +kernel
theorem d3_15 : decode method_3_code 15 = .ok (.iconst 1, 1) := by decide +kernel
theorem d3_16 : decode method_3_code 16 = .ok (.goto 4, 3) := by decide +kernel
theorem d3_20 : decode method_3_code 20 = .ok (.ireturn, 1) := by decide +kernel
theorem d3_7 : decode method_3_code 7 = .ok (.iconst 1, 1) := by decide +kernel
theorem d3_8 : decode method_3_code 8 = .ok (.goto 4, 3) := by decide +kernel
theorem ef_agrees (m : MethodId) (x1 : Int32) (y1 : Int32) (z1 : Int32) : entryFrame m #[(.int x1), (.int y1), (.int z1)] 3 = mkF m 0 #[.val (.int x1), .val (.int y1), .val (.int z1)] [] := by first | (simp [entryFrame, mkF, argsToLocals, Value.category]; done) | rfl
def Q_agrees (Z : State) (x1 : Int32) (y1 : Int32) (z1 : Int32) (h0 : Heap) (n0 : Nat) (v : Option Value) (h : Heap) (L : List Loc) : Prop := v = some (.int (1 : Int32)) ∧ Fr n0 L ∧ h = h0
set_option maxRecDepth 65536 in
set_option maxHeartbeats 40000000 in
theorem rm_agrees (l : Launch) (Z : State) (a0 : Array Value) (hw : ∀ d ∈ tables_1, d.before a0 Z = true) (ws : List Jvm.Cond) (x1 : Int32) (y1 : Int32) (z1 : Int32) (h0 : Heap) (n0 : Nat) (O0 : Old Z n0 h0) (hb0 : (y1 &&& z1) = (0 : Int32) → x1 = (0 : Int32)) (hb1 : ¬ ((y1 &&& z1) = (0 : Int32)) → x1 = (1 : Int32)) :
    MetFree l (⟨"com/example/esfahan/esfahan/model/ComparisonHoldsForSignPinLaw", "agrees", "(ZII)Z"⟩ : MethodName) (head1 (Jvm.Cond.code (⟨"com/example/esfahan/esfahan/model/ComparisonHoldsForSignPinLaw", "agrees", "(ZII)Z"⟩ : MethodName) method_3_code 3 (some .boolean) :: ws) ({ frames := 0, cells := 0, slots := 0, locals := 0 } : Room)) (fun av_ U => av_ = #[(.int x1), (.int y1), (.int z1)] ∧ Z.Warmed39 U.vm ∧ U.heap = h0) (fun _ _ _ _ _ => True) (fun _ U o_ U' => ∃ v L, o_ = .returned v ∧ Q_agrees Z x1 y1 z1 h0 n0 v U'.heap L ∧ FrameEnd U o_ U' L ({ frames := 0, cells := 0, slots := 0, locals := 0 } : Room).cells ({ frames := 0, cells := 0, slots := 0, locals := 0 } : Room).slots) := by
  refine MetFree.of_bodySF (plainFor_of_name pn_2) hisR ?_
  intro p e s m args below meth c s₁ Bd hml0 hP hK
  obtain ⟨rfl, hZ, hh⟩ := hP
  have hx := Bd.exec
  have hby := Bd.bytes
  have hml : c.maxLocals = 3 := hml0
  have hown : s.vm.findClass "com/example/esfahan/esfahan/model/ComparisonHoldsForSignPinLaw" = some m.cls := findClass_of_methodNamed Bd.named
  have hnm := (name_of_methodNamed Bd.named Bd.method).1
  have hlk := own_lk Bd
  have hret := Bd.returns
  have X0 : Stand p l e ({ frames := 0, cells := 0, slots := 0, locals := 0 } : Room) s m #[(.int x1), (.int y1), (.int z1)] below meth c s₁ [] 0 0 := Stand.of_body Bd
  have e0 : s₁.heap = h0 := by rw [← hh, Bd.state]; rfl
  have N0 := Fr.nil n0
  show own_Goes p e below s (Q_agrees Z x1 y1 z1 h0 n0) ({ frames := 0, cells := 0, slots := 0, locals := 0 } : Room).cells ({ frames := 0, cells := 0, slots := 0, locals := 0 } : Room).slots (s₁.setTop (entryFrame m #[(.int x1), (.int y1), (.int z1)] 3))
  refine own_go (fun _ ww => castTop (ef_agrees m x1 y1 z1) ww) ?_
  show own_Goes _ _ _ _ _ _ _ (s₁.setTop (mkF m 0 #[.val (.int x1), .val (.int y1), .val (.int z1)] []))
  refine own_go (fun _ ww => XS.iloadN X0.here hx rfl (hb hby d3_0) rfl  ww) ?_
  show own_Goes _ _ _ _ _ _ _ (s₁.setTop (mkF m 1 #[.val (.int x1), .val (.int y1), .val (.int z1)] [(.int x1)]))
  refine own_go (fun _ ww => XS.iloadN X0.here hx rfl (hb hby d3_1) rfl  ww) ?_
  show own_Goes _ _ _ _ _ _ _ (s₁.setTop (mkF m 2 #[.val (.int x1), .val (.int y1), .val (.int z1)] [(.int y1), (.int x1)]))
  refine own_go (fun _ ww => XS.iloadN X0.here hx rfl (hb hby d3_2) rfl  ww) ?_
  show own_Goes _ _ _ _ _ _ _ (s₁.setTop (mkF m 3 #[.val (.int x1), .val (.int y1), .val (.int z1)] [(.int z1), (.int y1), (.int x1)]))
  refine own_go (fun _ ww => XS.iand X0.here hx rfl (hb hby d3_3) rfl ww) ?_
  show own_Goes _ _ _ _ _ _ _ (s₁.setTop (mkF m 4 #[.val (.int x1), .val (.int y1), .val (.int z1)] [(.int (y1 &&& z1)), (.int x1)]))
  by_cases hc19 : (y1 &&& z1) = (0 : Int32)
  ·
    refine own_go (fun _ ww => XS.ifYes X0.here hx rfl (pc0 := 4) (pc' := 11) rfl (hb hby d3_4) rfl (own_if .eq (teq hc19).1) (by decide) (by decide) ww) ?_
    show own_Goes _ _ _ _ _ _ _ (s₁.setTop (mkF m 11 #[.val (.int x1), .val (.int y1), .val (.int z1)] [(.int x1)]))
    refine own_go (fun _ ww => XS.iconst X0.here hx rfl (hb hby d3_11) ww) ?_
    show own_Goes _ _ _ _ _ _ _ (s₁.setTop (mkF m 12 #[.val (.int x1), .val (.int y1), .val (.int z1)] [(.int (0 : Int32)), (.int x1)]))
    refine own_go (fun _ ww => XS.icmpNo X0.here hx rfl (hb hby d3_12) rfl (teq (hb0 hc19)).2 ww) ?_
    show own_Goes _ _ _ _ _ _ _ (s₁.setTop (mkF m 15 #[.val (.int x1), .val (.int y1), .val (.int z1)] []))
    refine own_go (fun _ ww => XS.iconst X0.here hx rfl (hb hby d3_15) ww) ?_
    show own_Goes _ _ _ _ _ _ _ (s₁.setTop (mkF m 16 #[.val (.int x1), .val (.int y1), .val (.int z1)] [(.int (1 : Int32))]))
    refine own_go (fun _ ww => XS.goto X0.here hx rfl (pc0 := 16) (pc' := 20) rfl (hb hby d3_16) (by decide) (by decide) ww) ?_
    show own_Goes _ _ _ _ _ _ _ (s₁.setTop (mkF m 20 #[.val (.int x1), .val (.int y1), .val (.int z1)] [(.int (1 : Int32))]))
    exact own_out X0 hlk (v := some (.int (1 : Int32))) (fun h => by rw [hret] at h; cases h) (fun fs hr => retOut X0 hx (t := .boolean) hret (by decide) (Or.inl ⟨rfl, by simp, _, rfl⟩) (hb hby d3_20) hr) e0 ⟨rfl, N0, rfl⟩ (by decide) (by decide)
  ·
    refine own_go (fun _ ww => XS.ifNo X0.here hx rfl (hb hby d3_4) rfl (own_if .eq (feq hc19).1) ww) ?_
    show own_Goes _ _ _ _ _ _ _ (s₁.setTop (mkF m 7 #[.val (.int x1), .val (.int y1), .val (.int z1)] [(.int x1)]))
    refine own_go (fun _ ww => XS.iconst X0.here hx rfl (hb hby d3_7) ww) ?_
    show own_Goes _ _ _ _ _ _ _ (s₁.setTop (mkF m 8 #[.val (.int x1), .val (.int y1), .val (.int z1)] [(.int (1 : Int32)), (.int x1)]))
    refine own_go (fun _ ww => XS.goto X0.here hx rfl (pc0 := 8) (pc' := 12) rfl (hb hby d3_8) (by decide) (by decide) ww) ?_
    show own_Goes _ _ _ _ _ _ _ (s₁.setTop (mkF m 12 #[.val (.int x1), .val (.int y1), .val (.int z1)] [(.int (1 : Int32)), (.int x1)]))
    refine own_go (fun _ ww => XS.icmpNo X0.here hx rfl (hb hby d3_12) rfl (teq (hb1 hc19)).2 ww) ?_
    show own_Goes _ _ _ _ _ _ _ (s₁.setTop (mkF m 15 #[.val (.int x1), .val (.int y1), .val (.int z1)] []))
    refine own_go (fun _ ww => XS.iconst X0.here hx rfl (hb hby d3_15) ww) ?_
    show own_Goes _ _ _ _ _ _ _ (s₁.setTop (mkF m 16 #[.val (.int x1), .val (.int y1), .val (.int z1)] [(.int (1 : Int32))]))
    refine own_go (fun _ ww => XS.goto X0.here hx rfl (pc0 := 16) (pc' := 20) rfl (hb hby d3_16) (by decide) (by decide) ww) ?_
    show own_Goes _ _ _ _ _ _ _ (s₁.setTop (mkF m 20 #[.val (.int x1), .val (.int y1), .val (.int z1)] [(.int (1 : Int32))]))
    exact own_out X0 hlk (v := some (.int (1 : Int32))) (fun h => by rw [hret] at h; cases h) (fun fs hr => retOut X0 hx (t := .boolean) hret (by decide) (Or.inl ⟨rfl, by simp, _, rfl⟩) (hb hby d3_20) hr) e0 ⟨rfl, N0, rfl⟩ (by decide) (by decide)
theorem own_n1 {x : Int32} (h : x < 0) : ¬ x = 0 := fun q => by subst q; exact absurd h (by decide)
theorem own_n2 {x : Int32} (h : x < 0) : ¬ 0 < x := fun q => by
  rw [Int32.lt_iff_toInt_lt] at h q
  exact absurd (Int.lt_trans h q) (Int.lt_irrefl _)
theorem own_n3 {x : Int32} (h : x = 0) : ¬ 0 < x := fun q => by subst h; exact absurd q (by decide)
theorem own_n4 {x : Int32} (h : ¬ x < 0) (g : ¬ x = 0) : 0 < x := by
  rw [Int32.lt_iff_toInt_lt] at h ⊢
  have e : (0 : Int32).toInt = 0 := rfl
  have ne : x.toInt ≠ 0 := fun q => g (Int32.toInt_inj.mp (q.trans e.symm))
  rw [e] at h ⊢
  omega
theorem ef_law (m : MethodId) (x0 : Int32) (k0 : Addr) (k1 : Addr) (k2 : Addr) (k3 : Addr) (k4 : Addr) (k5 : Addr) : entryFrame m #[(.int x0)] maxLocals = mkF m 0 #[.val (.int x0), .unset] [] := by first | (simp [entryFrame, mkF, argsToLocals, Value.category, maxLocals]; done) | rfl
def Q_law (Z : State) (x0 : Int32) (k0 : Addr) (k1 : Addr) (k2 : Addr) (k3 : Addr) (k4 : Addr) (k5 : Addr) (h0 : Heap) (n0 : Nat) (v : Option Value) (h : Heap) (L : List Loc) : Prop := v = some (.int 1) ∧ Fr n0 L
set_option maxRecDepth 65536 in
set_option maxHeartbeats 40000000 in
theorem rm_law (l : Launch) (Z : State) (a0 : Array Value) (hw : ∀ d ∈ tables_1, d.before a0 Z = true) (ws : List Jvm.Cond) (x0 : Int32) (k0 : Addr) (k1 : Addr) (k2 : Addr) (k3 : Addr) (k4 : Addr) (k5 : Addr) (h0 : Heap) (n0 : Nat) (O0 : Old Z n0 h0) (Sk0 : Sta Z Z.heap "com/example/esfahan/esfahan/model/Comparison" "EQUAL" "Lcom/example/esfahan/esfahan/model/Comparison;" (.ref k0)) (Ek0 : Exa Z Z.heap k0 "com/example/esfahan/esfahan/model/Comparison") (Fk0 : Fld Z Z.heap k0 "java/lang/Enum" "ordinal" "I" (.int (0 : Int32))) (Sk1 : Sta Z Z.heap "com/example/esfahan/esfahan/model/Comparison" "NOT_EQUAL" "Lcom/example/esfahan/esfahan/model/Comparison;" (.ref k1)) (Ek1 : Exa Z Z.heap k1 "com/example/esfahan/esfahan/model/Comparison") (Fk1 : Fld Z Z.heap k1 "java/lang/Enum" "ordinal" "I" (.int (1 : Int32))) (Sk2 : Sta Z Z.heap "com/example/esfahan/esfahan/model/Comparison" "LESS" "Lcom/example/esfahan/esfahan/model/Comparison;" (.ref k2)) (Ek2 : Exa Z Z.heap k2 "com/example/esfahan/esfahan/model/Comparison") (Fk2 : Fld Z Z.heap k2 "java/lang/Enum" "ordinal" "I" (.int (2 : Int32))) (Sk3 : Sta Z Z.heap "com/example/esfahan/esfahan/model/Comparison" "AT_MOST" "Lcom/example/esfahan/esfahan/model/Comparison;" (.ref k3)) (Ek3 : Exa Z Z.heap k3 "com/example/esfahan/esfahan/model/Comparison") (Fk3 : Fld Z Z.heap k3 "java/lang/Enum" "ordinal" "I" (.int (3 : Int32))) (Sk4 : Sta Z Z.heap "com/example/esfahan/esfahan/model/Comparison" "GREATER" "Lcom/example/esfahan/esfahan/model/Comparison;" (.ref k4)) (Ek4 : Exa Z Z.heap k4 "com/example/esfahan/esfahan/model/Comparison") (Fk4 : Fld Z Z.heap k4 "java/lang/Enum" "ordinal" "I" (.int (4 : Int32))) (Sk5 : Sta Z Z.heap "com/example/esfahan/esfahan/model/Comparison" "AT_LEAST" "Lcom/example/esfahan/esfahan/model/Comparison;" (.ref k5)) (Ek5 : Exa Z Z.heap k5 "com/example/esfahan/esfahan/model/Comparison") (Fk5 : Fld Z Z.heap k5 "java/lang/Enum" "ordinal" "I" (.int (5 : Int32))) :
    MetFree l x (head1 (Jvm.Cond.code x code maxLocals ret :: ws) room_1) (fun av_ U => av_ = #[(.int x0)] ∧ Z.Warmed39 U.vm ∧ U.heap = h0) (fun _ _ _ _ _ => True) (fun _ U o_ U' => ∃ v L, o_ = .returned v ∧ Q_law Z x0 k0 k1 k2 k3 k4 k5 h0 n0 v U'.heap L ∧ FrameEnd U o_ U' L room_1.cells room_1.slots) := by
  refine MetFree.of_bodySF (plainFor_of_name pn_2) hisR ?_
  intro p e s m args below meth c s₁ Bd hml0 hP hK
  obtain ⟨rfl, hZ, hh⟩ := hP
  have hx := Bd.exec
  have hby := Bd.bytes
  have hml : c.maxLocals = 2 := hml0
  have hown : s.vm.findClass "com/example/esfahan/esfahan/model/ComparisonHoldsForSignPinLaw" = some m.cls := findClass_of_methodNamed Bd.named
  have hnm := (name_of_methodNamed Bd.named Bd.method).1
  have hlk := own_lk Bd
  have hret := Bd.returns
  have X0 : Stand p l e room_1 s m #[(.int x0)] below meth c s₁ [] 0 0 := Stand.of_body Bd
  have e0 : s₁.heap = h0 := by rw [← hh, Bd.state]; rfl
  have N0 := Fr.nil n0
  show own_Goes p e below s (Q_law Z x0 k0 k1 k2 k3 k4 k5 h0 n0) room_1.cells room_1.slots (s₁.setTop (entryFrame m #[(.int x0)] maxLocals))
  refine own_go (fun _ ww => castTop (ef_law m x0 k0 k1 k2 k3 k4 k5) ww) ?_
  show own_Goes _ _ _ _ _ _ _ (s₁.setTop (mkF m 0 #[.val (.int x0), .unset] []))
  refine own_go (fun _ ww => XS.iloadN X0.here hx rfl (hb hby at_0) rfl  ww) ?_
  show own_Goes _ _ _ _ _ _ _ (s₁.setTop (mkF m 1 #[.val (.int x0), .unset] [(.int x0)]))
  by_cases hc20 : x0 < (0 : Int32)
  ·
    refine own_go (fun _ ww => XS.ifNo X0.here hx rfl (hb hby at_1) rfl (own_if .ge (tlt hc20).2.1) ww) ?_
    show own_Goes _ _ _ _ _ _ _ (s₁.setTop (mkF m 4 #[.val (.int x0), .unset] []))
    refine own_go (fun _ ww => XS.iconst X0.here hx rfl (hb hby at_4) ww) ?_
    show own_Goes _ _ _ _ _ _ _ (s₁.setTop (mkF m 5 #[.val (.int x0), .unset] [(.int (1 : Int32))]))
    refine own_go (fun _ ww => XS.goto X0.here hx rfl (pc0 := 5) (pc' := 17) rfl (hb hby at_5) (by decide) (by decide) ww) ?_
    show own_Goes _ _ _ _ _ _ _ (s₁.setTop (mkF m 17 #[.val (.int x0), .unset] [(.int (1 : Int32))]))
    refine own_go (fun _ ww => XS.istoreN X0.here hx rfl (hb hby at_17) rfl (l' := #[.val (.int x0), .val (.int (1 : Int32))]) rfl ww) ?_
    show own_Goes _ _ _ _ _ _ _ (s₁.setTop (mkF m 18 #[.val (.int x0), .val (.int (1 : Int32))] []))
    obtain ⟨T21, X21, e21, st21⟩ := getS X0 hx hZ hown (host := "") (hw _ (List.mem_of_getElem? (i := 0) rfl)) Via.refl e0 (Sk0.ext O0.2) (g := (mkF m 18 #[.val (.int x0), .val (.int (1 : Int32))] [])) rfl (hb hby at_18)
    refine own_go st21 ?_
    show own_Goes _ _ _ _ _ _ _ (T21.setTop (mkF m 21 #[.val (.int x0), .val (.int (1 : Int32))] [(.ref k0)]))
    refine own_go (fun _ ww => XS.iloadN X21.here hx rfl (hb hby at_21) rfl  ww) ?_
    show own_Goes _ _ _ _ _ _ _ (T21.setTop (mkF m 22 #[.val (.int x0), .val (.int (1 : Int32))] [(.int x0), (.ref k0)]))
    obtain ⟨cq22, kq22, q22a, q22b, q22c⟩ := isOf hZ e21 (Ek0.ext O0.2)
    obtain ⟨_, _, ⟨T22, L22, k22, n22⟩, -, X22, ⟨Lc22, hQ22, l22, y22, z22⟩, st22⟩ := X21.virtualBack hx (y := (⟨"com/example/esfahan/esfahan/model/Comparison", "holdsForSign", "(I)Z"⟩ : MethodName)) (z := (⟨"com/example/esfahan/esfahan/model/Comparison", "holdsForSign", "(I)Z"⟩ : MethodName)) hown (mvT hZ (hw _ (List.mem_of_getElem? (i := 3) rfl))) (mvT hZ (hw _ (List.mem_of_getElem? (i := 4) rfl))) (notFace_of_selects (args := #[]) (mvT hZ (hw _ (List.mem_of_getElem? (i := 6) rfl)))) (mvT hZ (hw _ (List.mem_of_getElem? (i := 6) rfl))) (mvT hZ (hw _ (List.mem_of_getElem? (i := 5) rfl))) (by decide) (backOf (W := 0) (rm_hold0 l Z a0 hw [] k0 x0 (0 : Int32) h0 n0 O0 (Fk0.ext O0.2) (Ek0.ext O0.2) (fun q => absurd q (own_n1 hc20)) (fun _ => rfl)) hZ (hw _ (List.mem_of_getElem? (i := 7) rfl)) (hw _ (List.mem_of_getElem? (i := 1) rfl)) (by decide) (by decide)) q22a q22c (g := (mkF m 22 #[.val (.int x0), .val (.int (1 : Int32))] [(.int x0), (.ref k0)])) rfl (by rw [hml]; rfl) (Steps.refl _) (argsL := [(.int x0)]) (rest := []) (lenOf pd_1 rfl) rfl (by show 2 * 0 + _ ≤ _; exact Nat.le_of_eq rfl) (hb hby at_22) (fun _ _ => ⟨rfl, e21, (by decide : 0 + 0 ≤ _), (by decide : 0 + 0 ≤ _)⟩)
    dsimp only [Pt.U, Pt.locs, Pt.cells, Pt.slots] at X22 l22 y22 z22 st22 hQ22
    subst l22 y22 z22
    obtain ⟨rfl, N22q, e22⟩ := hQ22
    have N22 := Fr.app N0 N22q
    refine own_go (fun _ ww => Steps.trans st22 ww) ?_
    show own_Goes _ _ _ _ _ _ _ (T22.setTop (mkF m 25 #[.val (.int x0), .val (.int (1 : Int32))] [(.int (0 : Int32))]))
    refine own_go (fun _ ww => XS.iconst X22.here hx rfl (hb hby at_25) ww) ?_
    show own_Goes _ _ _ _ _ _ _ (T22.setTop (mkF m 26 #[.val (.int x0), .val (.int (1 : Int32))] [(.int (2 : Int32)), (.int (0 : Int32))]))
    refine own_go (fun _ ww => XS.iloadN X22.here hx rfl (hb hby at_26) rfl  ww) ?_
    show own_Goes _ _ _ _ _ _ _ (T22.setTop (mkF m 27 #[.val (.int x0), .val (.int (1 : Int32))] [(.int (1 : Int32)), (.int (2 : Int32)), (.int (0 : Int32))]))
    obtain ⟨_, _, ⟨T23, L23, k23, n23⟩, -, X23, ⟨Lc23, hQ23, l23, y23, z23⟩, st23⟩ := Jvm.LawKit.callS X22 hx (y := (⟨"com/example/esfahan/esfahan/model/ComparisonHoldsForSignPinLaw", "agrees", "(ZII)Z"⟩ : MethodName)) hown (mvT hZ (hw _ (List.mem_of_getElem? (i := 17) rfl))) (mvT hZ (hw _ (List.mem_of_getElem? (i := 18) rfl))) (mvT hZ (hw _ (List.mem_of_getElem? (i := 19) rfl))) (mvT hZ (hw _ (List.mem_of_getElem? (i := 20) rfl))) (by decide) (backOf (W := 0) (rm_agrees l Z a0 hw [] (0 : Int32) (2 : Int32) (1 : Int32) h0 n0 O0 (by decide) (by decide)) hZ (hw _ (List.mem_of_getElem? (i := 20) rfl)) (hw _ (List.mem_of_getElem? (i := 19) rfl)) (by decide) (by decide)) (g := (mkF m 27 #[.val (.int x0), .val (.int (1 : Int32))] [(.int (1 : Int32)), (.int (2 : Int32)), (.int (0 : Int32))])) rfl (by rw [hml]; rfl) (argsL := [(.int (0 : Int32)), (.int (2 : Int32)), (.int (1 : Int32))]) (rest := []) (lenOf pd_2 rfl) rfl (by show 2 * 0 + _ ≤ _; exact Nat.le_of_eq rfl) (hb hby at_27) (fun _ _ => ⟨rfl, e22, (by decide : 0 + 0 ≤ _), (by decide : 0 + 0 ≤ _)⟩)
    dsimp only [Pt.U, Pt.locs, Pt.cells, Pt.slots] at X23 l23 y23 z23 st23 hQ23
    subst l23 y23 z23
    obtain ⟨rfl, N23q, e23⟩ := hQ23
    have N23 := Fr.app N22 N23q
    refine own_go st23 ?_
    show own_Goes _ _ _ _ _ _ _ (T23.setTop (mkF m 30 #[.val (.int x0), .val (.int (1 : Int32))] [(.int (1 : Int32))]))
    refine own_go (fun _ ww => XS.ifNo X23.here hx rfl (hb hby at_30) rfl (own_if .eq (feq (by decide : ¬ ((1 : Int32) = (0 : Int32)))).1) ww) ?_
    show own_Goes _ _ _ _ _ _ _ (T23.setTop (mkF m 33 #[.val (.int x0), .val (.int (1 : Int32))] []))
    obtain ⟨T24, X24, e24, st24⟩ := getS X23 hx hZ hown (host := "") (hw _ (List.mem_of_getElem? (i := 21) rfl)) Via.refl e23 (Sk1.ext O0.2) (g := (mkF m 33 #[.val (.int x0), .val (.int (1 : Int32))] [])) rfl (hb hby at_33)
    refine own_go st24 ?_
    show own_Goes _ _ _ _ _ _ _ (T24.setTop (mkF m 36 #[.val (.int x0), .val (.int (1 : Int32))] [(.ref k1)]))
    refine own_go (fun _ ww => XS.iloadN X24.here hx rfl (hb hby at_36) rfl  ww) ?_
    show own_Goes _ _ _ _ _ _ _ (T24.setTop (mkF m 37 #[.val (.int x0), .val (.int (1 : Int32))] [(.int x0), (.ref k1)]))
    obtain ⟨cq25, kq25, q25a, q25b, q25c⟩ := isOf hZ e24 (Ek1.ext O0.2)
    obtain ⟨_, _, ⟨T25, L25, k25, n25⟩, -, X25, ⟨Lc25, hQ25, l25, y25, z25⟩, st25⟩ := X24.virtualBack hx (y := (⟨"com/example/esfahan/esfahan/model/Comparison", "holdsForSign", "(I)Z"⟩ : MethodName)) (z := (⟨"com/example/esfahan/esfahan/model/Comparison", "holdsForSign", "(I)Z"⟩ : MethodName)) hown (mvT hZ (hw _ (List.mem_of_getElem? (i := 3) rfl))) (mvT hZ (hw _ (List.mem_of_getElem? (i := 4) rfl))) (notFace_of_selects (args := #[]) (mvT hZ (hw _ (List.mem_of_getElem? (i := 6) rfl)))) (mvT hZ (hw _ (List.mem_of_getElem? (i := 6) rfl))) (mvT hZ (hw _ (List.mem_of_getElem? (i := 5) rfl))) (by decide) (backOf (W := 0) (rm_hold1 l Z a0 hw [] k1 x0 (1 : Int32) h0 n0 O0 (Fk1.ext O0.2) (Ek1.ext O0.2) (fun q => absurd q (own_n1 hc20)) (fun _ => rfl)) hZ (hw _ (List.mem_of_getElem? (i := 7) rfl)) (hw _ (List.mem_of_getElem? (i := 1) rfl)) (by decide) (by decide)) q25a q25c (g := (mkF m 37 #[.val (.int x0), .val (.int (1 : Int32))] [(.int x0), (.ref k1)])) rfl (by rw [hml]; rfl) (Steps.refl _) (argsL := [(.int x0)]) (rest := []) (lenOf pd_1 rfl) rfl (by show 2 * 0 + _ ≤ _; exact Nat.le_of_eq rfl) (hb hby at_37) (fun _ _ => ⟨rfl, e24, (by decide : 0 + 0 ≤ _), (by decide : 0 + 0 ≤ _)⟩)
    dsimp only [Pt.U, Pt.locs, Pt.cells, Pt.slots] at X25 l25 y25 z25 st25 hQ25
    subst l25 y25 z25
    obtain ⟨rfl, N25q, e25⟩ := hQ25
    have N25 := Fr.app N23 N25q
    refine own_go (fun _ ww => Steps.trans st25 ww) ?_
    show own_Goes _ _ _ _ _ _ _ (T25.setTop (mkF m 40 #[.val (.int x0), .val (.int (1 : Int32))] [(.int (1 : Int32))]))
    refine own_go (fun _ ww => XS.iconst X25.here hx rfl (hb hby at_40) ww) ?_
    show own_Goes _ _ _ _ _ _ _ (T25.setTop (mkF m 41 #[.val (.int x0), .val (.int (1 : Int32))] [(.int (5 : Int32)), (.int (1 : Int32))]))
    refine own_go (fun _ ww => XS.iloadN X25.here hx rfl (hb hby at_41) rfl  ww) ?_
    show own_Goes _ _ _ _ _ _ _ (T25.setTop (mkF m 42 #[.val (.int x0), .val (.int (1 : Int32))] [(.int (1 : Int32)), (.int (5 : Int32)), (.int (1 : Int32))]))
    obtain ⟨_, _, ⟨T26, L26, k26, n26⟩, -, X26, ⟨Lc26, hQ26, l26, y26, z26⟩, st26⟩ := Jvm.LawKit.callS X25 hx (y := (⟨"com/example/esfahan/esfahan/model/ComparisonHoldsForSignPinLaw", "agrees", "(ZII)Z"⟩ : MethodName)) hown (mvT hZ (hw _ (List.mem_of_getElem? (i := 17) rfl))) (mvT hZ (hw _ (List.mem_of_getElem? (i := 18) rfl))) (mvT hZ (hw _ (List.mem_of_getElem? (i := 19) rfl))) (mvT hZ (hw _ (List.mem_of_getElem? (i := 20) rfl))) (by decide) (backOf (W := 0) (rm_agrees l Z a0 hw [] (1 : Int32) (5 : Int32) (1 : Int32) h0 n0 O0 (by decide) (by decide)) hZ (hw _ (List.mem_of_getElem? (i := 20) rfl)) (hw _ (List.mem_of_getElem? (i := 19) rfl)) (by decide) (by decide)) (g := (mkF m 42 #[.val (.int x0), .val (.int (1 : Int32))] [(.int (1 : Int32)), (.int (5 : Int32)), (.int (1 : Int32))])) rfl (by rw [hml]; rfl) (argsL := [(.int (1 : Int32)), (.int (5 : Int32)), (.int (1 : Int32))]) (rest := []) (lenOf pd_2 rfl) rfl (by show 2 * 0 + _ ≤ _; exact Nat.le_of_eq rfl) (hb hby at_42) (fun _ _ => ⟨rfl, e25, (by decide : 0 + 0 ≤ _), (by decide : 0 + 0 ≤ _)⟩)
    dsimp only [Pt.U, Pt.locs, Pt.cells, Pt.slots] at X26 l26 y26 z26 st26 hQ26
    subst l26 y26 z26
    obtain ⟨rfl, N26q, e26⟩ := hQ26
    have N26 := Fr.app N25 N26q
    refine own_go st26 ?_
    show own_Goes _ _ _ _ _ _ _ (T26.setTop (mkF m 45 #[.val (.int x0), .val (.int (1 : Int32))] [(.int (1 : Int32))]))
    refine own_go (fun _ ww => XS.ifNo X26.here hx rfl (hb hby at_45) rfl (own_if .eq (feq (by decide : ¬ ((1 : Int32) = (0 : Int32)))).1) ww) ?_
    show own_Goes _ _ _ _ _ _ _ (T26.setTop (mkF m 48 #[.val (.int x0), .val (.int (1 : Int32))] []))
    obtain ⟨T27, X27, e27, st27⟩ := getS X26 hx hZ hown (host := "") (hw _ (List.mem_of_getElem? (i := 23) rfl)) Via.refl e26 (Sk2.ext O0.2) (g := (mkF m 48 #[.val (.int x0), .val (.int (1 : Int32))] [])) rfl (hb hby at_48)
    refine own_go st27 ?_
    show own_Goes _ _ _ _ _ _ _ (T27.setTop (mkF m 51 #[.val (.int x0), .val (.int (1 : Int32))] [(.ref k2)]))
    refine own_go (fun _ ww => XS.iloadN X27.here hx rfl (hb hby at_51) rfl  ww) ?_
    show own_Goes _ _ _ _ _ _ _ (T27.setTop (mkF m 52 #[.val (.int x0), .val (.int (1 : Int32))] [(.int x0), (.ref k2)]))
    obtain ⟨cq28, kq28, q28a, q28b, q28c⟩ := isOf hZ e27 (Ek2.ext O0.2)
    obtain ⟨_, _, ⟨T28, L28, k28, n28⟩, -, X28, ⟨Lc28, hQ28, l28, y28, z28⟩, st28⟩ := X27.virtualBack hx (y := (⟨"com/example/esfahan/esfahan/model/Comparison", "holdsForSign", "(I)Z"⟩ : MethodName)) (z := (⟨"com/example/esfahan/esfahan/model/Comparison", "holdsForSign", "(I)Z"⟩ : MethodName)) hown (mvT hZ (hw _ (List.mem_of_getElem? (i := 3) rfl))) (mvT hZ (hw _ (List.mem_of_getElem? (i := 4) rfl))) (notFace_of_selects (args := #[]) (mvT hZ (hw _ (List.mem_of_getElem? (i := 6) rfl)))) (mvT hZ (hw _ (List.mem_of_getElem? (i := 6) rfl))) (mvT hZ (hw _ (List.mem_of_getElem? (i := 5) rfl))) (by decide) (backOf (W := 0) (rm_hold2 l Z a0 hw [] k2 x0 (1 : Int32) h0 n0 O0 (Fk2.ext O0.2) (Ek2.ext O0.2) (fun _ => rfl) (fun q => absurd hc20 q)) hZ (hw _ (List.mem_of_getElem? (i := 7) rfl)) (hw _ (List.mem_of_getElem? (i := 1) rfl)) (by decide) (by decide)) q28a q28c (g := (mkF m 52 #[.val (.int x0), .val (.int (1 : Int32))] [(.int x0), (.ref k2)])) rfl (by rw [hml]; rfl) (Steps.refl _) (argsL := [(.int x0)]) (rest := []) (lenOf pd_1 rfl) rfl (by show 2 * 0 + _ ≤ _; exact Nat.le_of_eq rfl) (hb hby at_52) (fun _ _ => ⟨rfl, e27, (by decide : 0 + 0 ≤ _), (by decide : 0 + 0 ≤ _)⟩)
    dsimp only [Pt.U, Pt.locs, Pt.cells, Pt.slots] at X28 l28 y28 z28 st28 hQ28
    subst l28 y28 z28
    obtain ⟨rfl, N28q, e28⟩ := hQ28
    have N28 := Fr.app N26 N28q
    refine own_go (fun _ ww => Steps.trans st28 ww) ?_
    show own_Goes _ _ _ _ _ _ _ (T28.setTop (mkF m 55 #[.val (.int x0), .val (.int (1 : Int32))] [(.int (1 : Int32))]))
    refine own_go (fun _ ww => XS.iconst X28.here hx rfl (hb hby at_55) ww) ?_
    show own_Goes _ _ _ _ _ _ _ (T28.setTop (mkF m 56 #[.val (.int x0), .val (.int (1 : Int32))] [(.int (1 : Int32)), (.int (1 : Int32))]))
    refine own_go (fun _ ww => XS.iloadN X28.here hx rfl (hb hby at_56) rfl  ww) ?_
    show own_Goes _ _ _ _ _ _ _ (T28.setTop (mkF m 57 #[.val (.int x0), .val (.int (1 : Int32))] [(.int (1 : Int32)), (.int (1 : Int32)), (.int (1 : Int32))]))
    obtain ⟨_, _, ⟨T29, L29, k29, n29⟩, -, X29, ⟨Lc29, hQ29, l29, y29, z29⟩, st29⟩ := Jvm.LawKit.callS X28 hx (y := (⟨"com/example/esfahan/esfahan/model/ComparisonHoldsForSignPinLaw", "agrees", "(ZII)Z"⟩ : MethodName)) hown (mvT hZ (hw _ (List.mem_of_getElem? (i := 17) rfl))) (mvT hZ (hw _ (List.mem_of_getElem? (i := 18) rfl))) (mvT hZ (hw _ (List.mem_of_getElem? (i := 19) rfl))) (mvT hZ (hw _ (List.mem_of_getElem? (i := 20) rfl))) (by decide) (backOf (W := 0) (rm_agrees l Z a0 hw [] (1 : Int32) (1 : Int32) (1 : Int32) h0 n0 O0 (by decide) (by decide)) hZ (hw _ (List.mem_of_getElem? (i := 20) rfl)) (hw _ (List.mem_of_getElem? (i := 19) rfl)) (by decide) (by decide)) (g := (mkF m 57 #[.val (.int x0), .val (.int (1 : Int32))] [(.int (1 : Int32)), (.int (1 : Int32)), (.int (1 : Int32))])) rfl (by rw [hml]; rfl) (argsL := [(.int (1 : Int32)), (.int (1 : Int32)), (.int (1 : Int32))]) (rest := []) (lenOf pd_2 rfl) rfl (by show 2 * 0 + _ ≤ _; exact Nat.le_of_eq rfl) (hb hby at_57) (fun _ _ => ⟨rfl, e28, (by decide : 0 + 0 ≤ _), (by decide : 0 + 0 ≤ _)⟩)
    dsimp only [Pt.U, Pt.locs, Pt.cells, Pt.slots] at X29 l29 y29 z29 st29 hQ29
    subst l29 y29 z29
    obtain ⟨rfl, N29q, e29⟩ := hQ29
    have N29 := Fr.app N28 N29q
    refine own_go st29 ?_
    show own_Goes _ _ _ _ _ _ _ (T29.setTop (mkF m 60 #[.val (.int x0), .val (.int (1 : Int32))] [(.int (1 : Int32))]))
    refine own_go (fun _ ww => XS.ifNo X29.here hx rfl (hb hby at_60) rfl (own_if .eq (feq (by decide : ¬ ((1 : Int32) = (0 : Int32)))).1) ww) ?_
    show own_Goes _ _ _ _ _ _ _ (T29.setTop (mkF m 63 #[.val (.int x0), .val (.int (1 : Int32))] []))
    obtain ⟨T30, X30, e30, st30⟩ := getS X29 hx hZ hown (host := "") (hw _ (List.mem_of_getElem? (i := 25) rfl)) Via.refl e29 (Sk3.ext O0.2) (g := (mkF m 63 #[.val (.int x0), .val (.int (1 : Int32))] [])) rfl (hb hby at_63)
    refine own_go st30 ?_
    show own_Goes _ _ _ _ _ _ _ (T30.setTop (mkF m 66 #[.val (.int x0), .val (.int (1 : Int32))] [(.ref k3)]))
    refine own_go (fun _ ww => XS.iloadN X30.here hx rfl (hb hby at_66) rfl  ww) ?_
    show own_Goes _ _ _ _ _ _ _ (T30.setTop (mkF m 67 #[.val (.int x0), .val (.int (1 : Int32))] [(.int x0), (.ref k3)]))
    obtain ⟨cq31, kq31, q31a, q31b, q31c⟩ := isOf hZ e30 (Ek3.ext O0.2)
    obtain ⟨_, _, ⟨T31, L31, k31, n31⟩, -, X31, ⟨Lc31, hQ31, l31, y31, z31⟩, st31⟩ := X30.virtualBack hx (y := (⟨"com/example/esfahan/esfahan/model/Comparison", "holdsForSign", "(I)Z"⟩ : MethodName)) (z := (⟨"com/example/esfahan/esfahan/model/Comparison", "holdsForSign", "(I)Z"⟩ : MethodName)) hown (mvT hZ (hw _ (List.mem_of_getElem? (i := 3) rfl))) (mvT hZ (hw _ (List.mem_of_getElem? (i := 4) rfl))) (notFace_of_selects (args := #[]) (mvT hZ (hw _ (List.mem_of_getElem? (i := 6) rfl)))) (mvT hZ (hw _ (List.mem_of_getElem? (i := 6) rfl))) (mvT hZ (hw _ (List.mem_of_getElem? (i := 5) rfl))) (by decide) (backOf (W := 0) (rm_hold3 l Z a0 hw [] k3 x0 (1 : Int32) h0 n0 O0 (Fk3.ext O0.2) (Ek3.ext O0.2) (fun q => absurd q (own_n2 hc20)) (fun _ => rfl)) hZ (hw _ (List.mem_of_getElem? (i := 7) rfl)) (hw _ (List.mem_of_getElem? (i := 1) rfl)) (by decide) (by decide)) q31a q31c (g := (mkF m 67 #[.val (.int x0), .val (.int (1 : Int32))] [(.int x0), (.ref k3)])) rfl (by rw [hml]; rfl) (Steps.refl _) (argsL := [(.int x0)]) (rest := []) (lenOf pd_1 rfl) rfl (by show 2 * 0 + _ ≤ _; exact Nat.le_of_eq rfl) (hb hby at_67) (fun _ _ => ⟨rfl, e30, (by decide : 0 + 0 ≤ _), (by decide : 0 + 0 ≤ _)⟩)
    dsimp only [Pt.U, Pt.locs, Pt.cells, Pt.slots] at X31 l31 y31 z31 st31 hQ31
    subst l31 y31 z31
    obtain ⟨rfl, N31q, e31⟩ := hQ31
    have N31 := Fr.app N29 N31q
    refine own_go (fun _ ww => Steps.trans st31 ww) ?_
    show own_Goes _ _ _ _ _ _ _ (T31.setTop (mkF m 70 #[.val (.int x0), .val (.int (1 : Int32))] [(.int (1 : Int32))]))
    refine own_go (fun _ ww => XS.iconst X31.here hx rfl (hb hby at_70) ww) ?_
    show own_Goes _ _ _ _ _ _ _ (T31.setTop (mkF m 71 #[.val (.int x0), .val (.int (1 : Int32))] [(.int (3 : Int32)), (.int (1 : Int32))]))
    refine own_go (fun _ ww => XS.iloadN X31.here hx rfl (hb hby at_71) rfl  ww) ?_
    show own_Goes _ _ _ _ _ _ _ (T31.setTop (mkF m 72 #[.val (.int x0), .val (.int (1 : Int32))] [(.int (1 : Int32)), (.int (3 : Int32)), (.int (1 : Int32))]))
    obtain ⟨_, _, ⟨T32, L32, k32, n32⟩, -, X32, ⟨Lc32, hQ32, l32, y32, z32⟩, st32⟩ := Jvm.LawKit.callS X31 hx (y := (⟨"com/example/esfahan/esfahan/model/ComparisonHoldsForSignPinLaw", "agrees", "(ZII)Z"⟩ : MethodName)) hown (mvT hZ (hw _ (List.mem_of_getElem? (i := 17) rfl))) (mvT hZ (hw _ (List.mem_of_getElem? (i := 18) rfl))) (mvT hZ (hw _ (List.mem_of_getElem? (i := 19) rfl))) (mvT hZ (hw _ (List.mem_of_getElem? (i := 20) rfl))) (by decide) (backOf (W := 0) (rm_agrees l Z a0 hw [] (1 : Int32) (3 : Int32) (1 : Int32) h0 n0 O0 (by decide) (by decide)) hZ (hw _ (List.mem_of_getElem? (i := 20) rfl)) (hw _ (List.mem_of_getElem? (i := 19) rfl)) (by decide) (by decide)) (g := (mkF m 72 #[.val (.int x0), .val (.int (1 : Int32))] [(.int (1 : Int32)), (.int (3 : Int32)), (.int (1 : Int32))])) rfl (by rw [hml]; rfl) (argsL := [(.int (1 : Int32)), (.int (3 : Int32)), (.int (1 : Int32))]) (rest := []) (lenOf pd_2 rfl) rfl (by show 2 * 0 + _ ≤ _; exact Nat.le_of_eq rfl) (hb hby at_72) (fun _ _ => ⟨rfl, e31, (by decide : 0 + 0 ≤ _), (by decide : 0 + 0 ≤ _)⟩)
    dsimp only [Pt.U, Pt.locs, Pt.cells, Pt.slots] at X32 l32 y32 z32 st32 hQ32
    subst l32 y32 z32
    obtain ⟨rfl, N32q, e32⟩ := hQ32
    have N32 := Fr.app N31 N32q
    refine own_go st32 ?_
    show own_Goes _ _ _ _ _ _ _ (T32.setTop (mkF m 75 #[.val (.int x0), .val (.int (1 : Int32))] [(.int (1 : Int32))]))
    refine own_go (fun _ ww => XS.ifNo X32.here hx rfl (hb hby at_75) rfl (own_if .eq (feq (by decide : ¬ ((1 : Int32) = (0 : Int32)))).1) ww) ?_
    show own_Goes _ _ _ _ _ _ _ (T32.setTop (mkF m 78 #[.val (.int x0), .val (.int (1 : Int32))] []))
    obtain ⟨T33, X33, e33, st33⟩ := getS X32 hx hZ hown (host := "") (hw _ (List.mem_of_getElem? (i := 27) rfl)) Via.refl e32 (Sk4.ext O0.2) (g := (mkF m 78 #[.val (.int x0), .val (.int (1 : Int32))] [])) rfl (hb hby at_78)
    refine own_go st33 ?_
    show own_Goes _ _ _ _ _ _ _ (T33.setTop (mkF m 81 #[.val (.int x0), .val (.int (1 : Int32))] [(.ref k4)]))
    refine own_go (fun _ ww => XS.iloadN X33.here hx rfl (hb hby at_81) rfl  ww) ?_
    show own_Goes _ _ _ _ _ _ _ (T33.setTop (mkF m 82 #[.val (.int x0), .val (.int (1 : Int32))] [(.int x0), (.ref k4)]))
    obtain ⟨cq34, kq34, q34a, q34b, q34c⟩ := isOf hZ e33 (Ek4.ext O0.2)
    obtain ⟨_, _, ⟨T34, L34, k34, n34⟩, -, X34, ⟨Lc34, hQ34, l34, y34, z34⟩, st34⟩ := X33.virtualBack hx (y := (⟨"com/example/esfahan/esfahan/model/Comparison", "holdsForSign", "(I)Z"⟩ : MethodName)) (z := (⟨"com/example/esfahan/esfahan/model/Comparison", "holdsForSign", "(I)Z"⟩ : MethodName)) hown (mvT hZ (hw _ (List.mem_of_getElem? (i := 3) rfl))) (mvT hZ (hw _ (List.mem_of_getElem? (i := 4) rfl))) (notFace_of_selects (args := #[]) (mvT hZ (hw _ (List.mem_of_getElem? (i := 6) rfl)))) (mvT hZ (hw _ (List.mem_of_getElem? (i := 6) rfl))) (mvT hZ (hw _ (List.mem_of_getElem? (i := 5) rfl))) (by decide) (backOf (W := 0) (rm_hold4 l Z a0 hw [] k4 x0 (0 : Int32) h0 n0 O0 (Fk4.ext O0.2) (Ek4.ext O0.2) (fun q => absurd q (own_n2 hc20)) (fun _ => rfl)) hZ (hw _ (List.mem_of_getElem? (i := 7) rfl)) (hw _ (List.mem_of_getElem? (i := 1) rfl)) (by decide) (by decide)) q34a q34c (g := (mkF m 82 #[.val (.int x0), .val (.int (1 : Int32))] [(.int x0), (.ref k4)])) rfl (by rw [hml]; rfl) (Steps.refl _) (argsL := [(.int x0)]) (rest := []) (lenOf pd_1 rfl) rfl (by show 2 * 0 + _ ≤ _; exact Nat.le_of_eq rfl) (hb hby at_82) (fun _ _ => ⟨rfl, e33, (by decide : 0 + 0 ≤ _), (by decide : 0 + 0 ≤ _)⟩)
    dsimp only [Pt.U, Pt.locs, Pt.cells, Pt.slots] at X34 l34 y34 z34 st34 hQ34
    subst l34 y34 z34
    obtain ⟨rfl, N34q, e34⟩ := hQ34
    have N34 := Fr.app N32 N34q
    refine own_go (fun _ ww => Steps.trans st34 ww) ?_
    show own_Goes _ _ _ _ _ _ _ (T34.setTop (mkF m 85 #[.val (.int x0), .val (.int (1 : Int32))] [(.int (0 : Int32))]))
    refine own_go (fun _ ww => XS.iconst X34.here hx rfl (hb hby at_85) ww) ?_
    show own_Goes _ _ _ _ _ _ _ (T34.setTop (mkF m 86 #[.val (.int x0), .val (.int (1 : Int32))] [(.int (4 : Int32)), (.int (0 : Int32))]))
    refine own_go (fun _ ww => XS.iloadN X34.here hx rfl (hb hby at_86) rfl  ww) ?_
    show own_Goes _ _ _ _ _ _ _ (T34.setTop (mkF m 87 #[.val (.int x0), .val (.int (1 : Int32))] [(.int (1 : Int32)), (.int (4 : Int32)), (.int (0 : Int32))]))
    obtain ⟨_, _, ⟨T35, L35, k35, n35⟩, -, X35, ⟨Lc35, hQ35, l35, y35, z35⟩, st35⟩ := Jvm.LawKit.callS X34 hx (y := (⟨"com/example/esfahan/esfahan/model/ComparisonHoldsForSignPinLaw", "agrees", "(ZII)Z"⟩ : MethodName)) hown (mvT hZ (hw _ (List.mem_of_getElem? (i := 17) rfl))) (mvT hZ (hw _ (List.mem_of_getElem? (i := 18) rfl))) (mvT hZ (hw _ (List.mem_of_getElem? (i := 19) rfl))) (mvT hZ (hw _ (List.mem_of_getElem? (i := 20) rfl))) (by decide) (backOf (W := 0) (rm_agrees l Z a0 hw [] (0 : Int32) (4 : Int32) (1 : Int32) h0 n0 O0 (by decide) (by decide)) hZ (hw _ (List.mem_of_getElem? (i := 20) rfl)) (hw _ (List.mem_of_getElem? (i := 19) rfl)) (by decide) (by decide)) (g := (mkF m 87 #[.val (.int x0), .val (.int (1 : Int32))] [(.int (1 : Int32)), (.int (4 : Int32)), (.int (0 : Int32))])) rfl (by rw [hml]; rfl) (argsL := [(.int (0 : Int32)), (.int (4 : Int32)), (.int (1 : Int32))]) (rest := []) (lenOf pd_2 rfl) rfl (by show 2 * 0 + _ ≤ _; exact Nat.le_of_eq rfl) (hb hby at_87) (fun _ _ => ⟨rfl, e34, (by decide : 0 + 0 ≤ _), (by decide : 0 + 0 ≤ _)⟩)
    dsimp only [Pt.U, Pt.locs, Pt.cells, Pt.slots] at X35 l35 y35 z35 st35 hQ35
    subst l35 y35 z35
    obtain ⟨rfl, N35q, e35⟩ := hQ35
    have N35 := Fr.app N34 N35q
    refine own_go st35 ?_
    show own_Goes _ _ _ _ _ _ _ (T35.setTop (mkF m 90 #[.val (.int x0), .val (.int (1 : Int32))] [(.int (1 : Int32))]))
    refine own_go (fun _ ww => XS.ifNo X35.here hx rfl (hb hby at_90) rfl (own_if .eq (feq (by decide : ¬ ((1 : Int32) = (0 : Int32)))).1) ww) ?_
    show own_Goes _ _ _ _ _ _ _ (T35.setTop (mkF m 93 #[.val (.int x0), .val (.int (1 : Int32))] []))
    obtain ⟨T36, X36, e36, st36⟩ := getS X35 hx hZ hown (host := "") (hw _ (List.mem_of_getElem? (i := 29) rfl)) Via.refl e35 (Sk5.ext O0.2) (g := (mkF m 93 #[.val (.int x0), .val (.int (1 : Int32))] [])) rfl (hb hby at_93)
    refine own_go st36 ?_
    show own_Goes _ _ _ _ _ _ _ (T36.setTop (mkF m 96 #[.val (.int x0), .val (.int (1 : Int32))] [(.ref k5)]))
    refine own_go (fun _ ww => XS.iloadN X36.here hx rfl (hb hby at_96) rfl  ww) ?_
    show own_Goes _ _ _ _ _ _ _ (T36.setTop (mkF m 97 #[.val (.int x0), .val (.int (1 : Int32))] [(.int x0), (.ref k5)]))
    obtain ⟨cq37, kq37, q37a, q37b, q37c⟩ := isOf hZ e36 (Ek5.ext O0.2)
    obtain ⟨_, _, ⟨T37, L37, k37, n37⟩, -, X37, ⟨Lc37, hQ37, l37, y37, z37⟩, st37⟩ := X36.virtualBack hx (y := (⟨"com/example/esfahan/esfahan/model/Comparison", "holdsForSign", "(I)Z"⟩ : MethodName)) (z := (⟨"com/example/esfahan/esfahan/model/Comparison", "holdsForSign", "(I)Z"⟩ : MethodName)) hown (mvT hZ (hw _ (List.mem_of_getElem? (i := 3) rfl))) (mvT hZ (hw _ (List.mem_of_getElem? (i := 4) rfl))) (notFace_of_selects (args := #[]) (mvT hZ (hw _ (List.mem_of_getElem? (i := 6) rfl)))) (mvT hZ (hw _ (List.mem_of_getElem? (i := 6) rfl))) (mvT hZ (hw _ (List.mem_of_getElem? (i := 5) rfl))) (by decide) (backOf (W := 0) (rm_hold5 l Z a0 hw [] k5 x0 (0 : Int32) h0 n0 O0 (Fk5.ext O0.2) (Ek5.ext O0.2) (fun _ => rfl) (fun q => absurd hc20 q)) hZ (hw _ (List.mem_of_getElem? (i := 7) rfl)) (hw _ (List.mem_of_getElem? (i := 1) rfl)) (by decide) (by decide)) q37a q37c (g := (mkF m 97 #[.val (.int x0), .val (.int (1 : Int32))] [(.int x0), (.ref k5)])) rfl (by rw [hml]; rfl) (Steps.refl _) (argsL := [(.int x0)]) (rest := []) (lenOf pd_1 rfl) rfl (by show 2 * 0 + _ ≤ _; exact Nat.le_of_eq rfl) (hb hby at_97) (fun _ _ => ⟨rfl, e36, (by decide : 0 + 0 ≤ _), (by decide : 0 + 0 ≤ _)⟩)
    dsimp only [Pt.U, Pt.locs, Pt.cells, Pt.slots] at X37 l37 y37 z37 st37 hQ37
    subst l37 y37 z37
    obtain ⟨rfl, N37q, e37⟩ := hQ37
    have N37 := Fr.app N35 N37q
    refine own_go (fun _ ww => Steps.trans st37 ww) ?_
    show own_Goes _ _ _ _ _ _ _ (T37.setTop (mkF m 100 #[.val (.int x0), .val (.int (1 : Int32))] [(.int (0 : Int32))]))
    refine own_go (fun _ ww => XS.bipush X37.here hx rfl (hb hby at_100) ww) ?_
    show own_Goes _ _ _ _ _ _ _ (T37.setTop (mkF m 102 #[.val (.int x0), .val (.int (1 : Int32))] [(.int (6 : Int32)), (.int (0 : Int32))]))
    refine own_go (fun _ ww => XS.iloadN X37.here hx rfl (hb hby at_102) rfl  ww) ?_
    show own_Goes _ _ _ _ _ _ _ (T37.setTop (mkF m 103 #[.val (.int x0), .val (.int (1 : Int32))] [(.int (1 : Int32)), (.int (6 : Int32)), (.int (0 : Int32))]))
    obtain ⟨_, _, ⟨T38, L38, k38, n38⟩, -, X38, ⟨Lc38, hQ38, l38, y38, z38⟩, st38⟩ := Jvm.LawKit.callS X37 hx (y := (⟨"com/example/esfahan/esfahan/model/ComparisonHoldsForSignPinLaw", "agrees", "(ZII)Z"⟩ : MethodName)) hown (mvT hZ (hw _ (List.mem_of_getElem? (i := 17) rfl))) (mvT hZ (hw _ (List.mem_of_getElem? (i := 18) rfl))) (mvT hZ (hw _ (List.mem_of_getElem? (i := 19) rfl))) (mvT hZ (hw _ (List.mem_of_getElem? (i := 20) rfl))) (by decide) (backOf (W := 0) (rm_agrees l Z a0 hw [] (0 : Int32) (6 : Int32) (1 : Int32) h0 n0 O0 (by decide) (by decide)) hZ (hw _ (List.mem_of_getElem? (i := 20) rfl)) (hw _ (List.mem_of_getElem? (i := 19) rfl)) (by decide) (by decide)) (g := (mkF m 103 #[.val (.int x0), .val (.int (1 : Int32))] [(.int (1 : Int32)), (.int (6 : Int32)), (.int (0 : Int32))])) rfl (by rw [hml]; rfl) (argsL := [(.int (0 : Int32)), (.int (6 : Int32)), (.int (1 : Int32))]) (rest := []) (lenOf pd_2 rfl) rfl (by show 2 * 0 + _ ≤ _; exact Nat.le_of_eq rfl) (hb hby at_103) (fun _ _ => ⟨rfl, e37, (by decide : 0 + 0 ≤ _), (by decide : 0 + 0 ≤ _)⟩)
    dsimp only [Pt.U, Pt.locs, Pt.cells, Pt.slots] at X38 l38 y38 z38 st38 hQ38
    subst l38 y38 z38
    obtain ⟨rfl, N38q, e38⟩ := hQ38
    have N38 := Fr.app N37 N38q
    refine own_go st38 ?_
    show own_Goes _ _ _ _ _ _ _ (T38.setTop (mkF m 106 #[.val (.int x0), .val (.int (1 : Int32))] [(.int (1 : Int32))]))
    refine own_go (fun _ ww => XS.ifNo X38.here hx rfl (hb hby at_106) rfl (own_if .eq (feq (by decide : ¬ ((1 : Int32) = (0 : Int32)))).1) ww) ?_
    show own_Goes _ _ _ _ _ _ _ (T38.setTop (mkF m 109 #[.val (.int x0), .val (.int (1 : Int32))] []))
    refine own_go (fun _ ww => XS.iconst X38.here hx rfl (hb hby at_109) ww) ?_
    show own_Goes _ _ _ _ _ _ _ (T38.setTop (mkF m 110 #[.val (.int x0), .val (.int (1 : Int32))] [(.int (1 : Int32))]))
    refine own_go (fun _ ww => XS.goto X38.here hx rfl (pc0 := 110) (pc' := 114) rfl (hb hby at_110) (by decide) (by decide) ww) ?_
    show own_Goes _ _ _ _ _ _ _ (T38.setTop (mkF m 114 #[.val (.int x0), .val (.int (1 : Int32))] [(.int (1 : Int32))]))
    exact own_out X38 hlk (v := some (.int (1 : Int32))) (fun h => by rw [hret] at h; cases h) (fun fs hr => retOut X38 hx (t := .boolean) hret (by decide) (Or.inl ⟨rfl, by simp, _, rfl⟩) (hb hby at_114) hr) e38 ⟨rfl, N38⟩ (by decide) (by decide)
  ·
    refine own_go (fun _ ww => XS.ifYes X0.here hx rfl (pc0 := 1) (pc' := 8) rfl (hb hby at_1) rfl (own_if .ge (flt hc20).2.1) (by decide) (by decide) ww) ?_
    show own_Goes _ _ _ _ _ _ _ (s₁.setTop (mkF m 8 #[.val (.int x0), .unset] []))
    refine own_go (fun _ ww => XS.iloadN X0.here hx rfl (hb hby at_8) rfl  ww) ?_
    show own_Goes _ _ _ _ _ _ _ (s₁.setTop (mkF m 9 #[.val (.int x0), .unset] [(.int x0)]))
    by_cases hc39 : x0 = (0 : Int32)
    ·
      refine own_go (fun _ ww => XS.ifNo X0.here hx rfl (hb hby at_9) rfl (own_if .ne (teq hc39).2) ww) ?_
      show own_Goes _ _ _ _ _ _ _ (s₁.setTop (mkF m 12 #[.val (.int x0), .unset] []))
      refine own_go (fun _ ww => XS.iconst X0.here hx rfl (hb hby at_12) ww) ?_
      show own_Goes _ _ _ _ _ _ _ (s₁.setTop (mkF m 13 #[.val (.int x0), .unset] [(.int (2 : Int32))]))
      refine own_go (fun _ ww => XS.goto X0.here hx rfl (pc0 := 13) (pc' := 17) rfl (hb hby at_13) (by decide) (by decide) ww) ?_
      show own_Goes _ _ _ _ _ _ _ (s₁.setTop (mkF m 17 #[.val (.int x0), .unset] [(.int (2 : Int32))]))
      refine own_go (fun _ ww => XS.istoreN X0.here hx rfl (hb hby at_17) rfl (l' := #[.val (.int x0), .val (.int (2 : Int32))]) rfl ww) ?_
      show own_Goes _ _ _ _ _ _ _ (s₁.setTop (mkF m 18 #[.val (.int x0), .val (.int (2 : Int32))] []))
      obtain ⟨T40, X40, e40, st40⟩ := getS X0 hx hZ hown (host := "") (hw _ (List.mem_of_getElem? (i := 0) rfl)) Via.refl e0 (Sk0.ext O0.2) (g := (mkF m 18 #[.val (.int x0), .val (.int (2 : Int32))] [])) rfl (hb hby at_18)
      refine own_go st40 ?_
      show own_Goes _ _ _ _ _ _ _ (T40.setTop (mkF m 21 #[.val (.int x0), .val (.int (2 : Int32))] [(.ref k0)]))
      refine own_go (fun _ ww => XS.iloadN X40.here hx rfl (hb hby at_21) rfl  ww) ?_
      show own_Goes _ _ _ _ _ _ _ (T40.setTop (mkF m 22 #[.val (.int x0), .val (.int (2 : Int32))] [(.int x0), (.ref k0)]))
      obtain ⟨cq41, kq41, q41a, q41b, q41c⟩ := isOf hZ e40 (Ek0.ext O0.2)
      obtain ⟨_, _, ⟨T41, L41, k41, n41⟩, -, X41, ⟨Lc41, hQ41, l41, y41, z41⟩, st41⟩ := X40.virtualBack hx (y := (⟨"com/example/esfahan/esfahan/model/Comparison", "holdsForSign", "(I)Z"⟩ : MethodName)) (z := (⟨"com/example/esfahan/esfahan/model/Comparison", "holdsForSign", "(I)Z"⟩ : MethodName)) hown (mvT hZ (hw _ (List.mem_of_getElem? (i := 3) rfl))) (mvT hZ (hw _ (List.mem_of_getElem? (i := 4) rfl))) (notFace_of_selects (args := #[]) (mvT hZ (hw _ (List.mem_of_getElem? (i := 6) rfl)))) (mvT hZ (hw _ (List.mem_of_getElem? (i := 6) rfl))) (mvT hZ (hw _ (List.mem_of_getElem? (i := 5) rfl))) (by decide) (backOf (W := 0) (rm_hold0 l Z a0 hw [] k0 x0 (1 : Int32) h0 n0 O0 (Fk0.ext O0.2) (Ek0.ext O0.2) (fun _ => rfl) (fun q => absurd hc39 q)) hZ (hw _ (List.mem_of_getElem? (i := 7) rfl)) (hw _ (List.mem_of_getElem? (i := 1) rfl)) (by decide) (by decide)) q41a q41c (g := (mkF m 22 #[.val (.int x0), .val (.int (2 : Int32))] [(.int x0), (.ref k0)])) rfl (by rw [hml]; rfl) (Steps.refl _) (argsL := [(.int x0)]) (rest := []) (lenOf pd_1 rfl) rfl (by show 2 * 0 + _ ≤ _; exact Nat.le_of_eq rfl) (hb hby at_22) (fun _ _ => ⟨rfl, e40, (by decide : 0 + 0 ≤ _), (by decide : 0 + 0 ≤ _)⟩)
      dsimp only [Pt.U, Pt.locs, Pt.cells, Pt.slots] at X41 l41 y41 z41 st41 hQ41
      subst l41 y41 z41
      obtain ⟨rfl, N41q, e41⟩ := hQ41
      have N41 := Fr.app N0 N41q
      refine own_go (fun _ ww => Steps.trans st41 ww) ?_
      show own_Goes _ _ _ _ _ _ _ (T41.setTop (mkF m 25 #[.val (.int x0), .val (.int (2 : Int32))] [(.int (1 : Int32))]))
      refine own_go (fun _ ww => XS.iconst X41.here hx rfl (hb hby at_25) ww) ?_
      show own_Goes _ _ _ _ _ _ _ (T41.setTop (mkF m 26 #[.val (.int x0), .val (.int (2 : Int32))] [(.int (2 : Int32)), (.int (1 : Int32))]))
      refine own_go (fun _ ww => XS.iloadN X41.here hx rfl (hb hby at_26) rfl  ww) ?_
      show own_Goes _ _ _ _ _ _ _ (T41.setTop (mkF m 27 #[.val (.int x0), .val (.int (2 : Int32))] [(.int (2 : Int32)), (.int (2 : Int32)), (.int (1 : Int32))]))
      obtain ⟨_, _, ⟨T42, L42, k42, n42⟩, -, X42, ⟨Lc42, hQ42, l42, y42, z42⟩, st42⟩ := Jvm.LawKit.callS X41 hx (y := (⟨"com/example/esfahan/esfahan/model/ComparisonHoldsForSignPinLaw", "agrees", "(ZII)Z"⟩ : MethodName)) hown (mvT hZ (hw _ (List.mem_of_getElem? (i := 17) rfl))) (mvT hZ (hw _ (List.mem_of_getElem? (i := 18) rfl))) (mvT hZ (hw _ (List.mem_of_getElem? (i := 19) rfl))) (mvT hZ (hw _ (List.mem_of_getElem? (i := 20) rfl))) (by decide) (backOf (W := 0) (rm_agrees l Z a0 hw [] (1 : Int32) (2 : Int32) (2 : Int32) h0 n0 O0 (by decide) (by decide)) hZ (hw _ (List.mem_of_getElem? (i := 20) rfl)) (hw _ (List.mem_of_getElem? (i := 19) rfl)) (by decide) (by decide)) (g := (mkF m 27 #[.val (.int x0), .val (.int (2 : Int32))] [(.int (2 : Int32)), (.int (2 : Int32)), (.int (1 : Int32))])) rfl (by rw [hml]; rfl) (argsL := [(.int (1 : Int32)), (.int (2 : Int32)), (.int (2 : Int32))]) (rest := []) (lenOf pd_2 rfl) rfl (by show 2 * 0 + _ ≤ _; exact Nat.le_of_eq rfl) (hb hby at_27) (fun _ _ => ⟨rfl, e41, (by decide : 0 + 0 ≤ _), (by decide : 0 + 0 ≤ _)⟩)
      dsimp only [Pt.U, Pt.locs, Pt.cells, Pt.slots] at X42 l42 y42 z42 st42 hQ42
      subst l42 y42 z42
      obtain ⟨rfl, N42q, e42⟩ := hQ42
      have N42 := Fr.app N41 N42q
      refine own_go st42 ?_
      show own_Goes _ _ _ _ _ _ _ (T42.setTop (mkF m 30 #[.val (.int x0), .val (.int (2 : Int32))] [(.int (1 : Int32))]))
      refine own_go (fun _ ww => XS.ifNo X42.here hx rfl (hb hby at_30) rfl (own_if .eq (feq (by decide : ¬ ((1 : Int32) = (0 : Int32)))).1) ww) ?_
      show own_Goes _ _ _ _ _ _ _ (T42.setTop (mkF m 33 #[.val (.int x0), .val (.int (2 : Int32))] []))
      obtain ⟨T43, X43, e43, st43⟩ := getS X42 hx hZ hown (host := "") (hw _ (List.mem_of_getElem? (i := 21) rfl)) Via.refl e42 (Sk1.ext O0.2) (g := (mkF m 33 #[.val (.int x0), .val (.int (2 : Int32))] [])) rfl (hb hby at_33)
      refine own_go st43 ?_
      show own_Goes _ _ _ _ _ _ _ (T43.setTop (mkF m 36 #[.val (.int x0), .val (.int (2 : Int32))] [(.ref k1)]))
      refine own_go (fun _ ww => XS.iloadN X43.here hx rfl (hb hby at_36) rfl  ww) ?_
      show own_Goes _ _ _ _ _ _ _ (T43.setTop (mkF m 37 #[.val (.int x0), .val (.int (2 : Int32))] [(.int x0), (.ref k1)]))
      obtain ⟨cq44, kq44, q44a, q44b, q44c⟩ := isOf hZ e43 (Ek1.ext O0.2)
      obtain ⟨_, _, ⟨T44, L44, k44, n44⟩, -, X44, ⟨Lc44, hQ44, l44, y44, z44⟩, st44⟩ := X43.virtualBack hx (y := (⟨"com/example/esfahan/esfahan/model/Comparison", "holdsForSign", "(I)Z"⟩ : MethodName)) (z := (⟨"com/example/esfahan/esfahan/model/Comparison", "holdsForSign", "(I)Z"⟩ : MethodName)) hown (mvT hZ (hw _ (List.mem_of_getElem? (i := 3) rfl))) (mvT hZ (hw _ (List.mem_of_getElem? (i := 4) rfl))) (notFace_of_selects (args := #[]) (mvT hZ (hw _ (List.mem_of_getElem? (i := 6) rfl)))) (mvT hZ (hw _ (List.mem_of_getElem? (i := 6) rfl))) (mvT hZ (hw _ (List.mem_of_getElem? (i := 5) rfl))) (by decide) (backOf (W := 0) (rm_hold1 l Z a0 hw [] k1 x0 (0 : Int32) h0 n0 O0 (Fk1.ext O0.2) (Ek1.ext O0.2) (fun _ => rfl) (fun q => absurd hc39 q)) hZ (hw _ (List.mem_of_getElem? (i := 7) rfl)) (hw _ (List.mem_of_getElem? (i := 1) rfl)) (by decide) (by decide)) q44a q44c (g := (mkF m 37 #[.val (.int x0), .val (.int (2 : Int32))] [(.int x0), (.ref k1)])) rfl (by rw [hml]; rfl) (Steps.refl _) (argsL := [(.int x0)]) (rest := []) (lenOf pd_1 rfl) rfl (by show 2 * 0 + _ ≤ _; exact Nat.le_of_eq rfl) (hb hby at_37) (fun _ _ => ⟨rfl, e43, (by decide : 0 + 0 ≤ _), (by decide : 0 + 0 ≤ _)⟩)
      dsimp only [Pt.U, Pt.locs, Pt.cells, Pt.slots] at X44 l44 y44 z44 st44 hQ44
      subst l44 y44 z44
      obtain ⟨rfl, N44q, e44⟩ := hQ44
      have N44 := Fr.app N42 N44q
      refine own_go (fun _ ww => Steps.trans st44 ww) ?_
      show own_Goes _ _ _ _ _ _ _ (T44.setTop (mkF m 40 #[.val (.int x0), .val (.int (2 : Int32))] [(.int (0 : Int32))]))
      refine own_go (fun _ ww => XS.iconst X44.here hx rfl (hb hby at_40) ww) ?_
      show own_Goes _ _ _ _ _ _ _ (T44.setTop (mkF m 41 #[.val (.int x0), .val (.int (2 : Int32))] [(.int (5 : Int32)), (.int (0 : Int32))]))
      refine own_go (fun _ ww => XS.iloadN X44.here hx rfl (hb hby at_41) rfl  ww) ?_
      show own_Goes _ _ _ _ _ _ _ (T44.setTop (mkF m 42 #[.val (.int x0), .val (.int (2 : Int32))] [(.int (2 : Int32)), (.int (5 : Int32)), (.int (0 : Int32))]))
      obtain ⟨_, _, ⟨T45, L45, k45, n45⟩, -, X45, ⟨Lc45, hQ45, l45, y45, z45⟩, st45⟩ := Jvm.LawKit.callS X44 hx (y := (⟨"com/example/esfahan/esfahan/model/ComparisonHoldsForSignPinLaw", "agrees", "(ZII)Z"⟩ : MethodName)) hown (mvT hZ (hw _ (List.mem_of_getElem? (i := 17) rfl))) (mvT hZ (hw _ (List.mem_of_getElem? (i := 18) rfl))) (mvT hZ (hw _ (List.mem_of_getElem? (i := 19) rfl))) (mvT hZ (hw _ (List.mem_of_getElem? (i := 20) rfl))) (by decide) (backOf (W := 0) (rm_agrees l Z a0 hw [] (0 : Int32) (5 : Int32) (2 : Int32) h0 n0 O0 (by decide) (by decide)) hZ (hw _ (List.mem_of_getElem? (i := 20) rfl)) (hw _ (List.mem_of_getElem? (i := 19) rfl)) (by decide) (by decide)) (g := (mkF m 42 #[.val (.int x0), .val (.int (2 : Int32))] [(.int (2 : Int32)), (.int (5 : Int32)), (.int (0 : Int32))])) rfl (by rw [hml]; rfl) (argsL := [(.int (0 : Int32)), (.int (5 : Int32)), (.int (2 : Int32))]) (rest := []) (lenOf pd_2 rfl) rfl (by show 2 * 0 + _ ≤ _; exact Nat.le_of_eq rfl) (hb hby at_42) (fun _ _ => ⟨rfl, e44, (by decide : 0 + 0 ≤ _), (by decide : 0 + 0 ≤ _)⟩)
      dsimp only [Pt.U, Pt.locs, Pt.cells, Pt.slots] at X45 l45 y45 z45 st45 hQ45
      subst l45 y45 z45
      obtain ⟨rfl, N45q, e45⟩ := hQ45
      have N45 := Fr.app N44 N45q
      refine own_go st45 ?_
      show own_Goes _ _ _ _ _ _ _ (T45.setTop (mkF m 45 #[.val (.int x0), .val (.int (2 : Int32))] [(.int (1 : Int32))]))
      refine own_go (fun _ ww => XS.ifNo X45.here hx rfl (hb hby at_45) rfl (own_if .eq (feq (by decide : ¬ ((1 : Int32) = (0 : Int32)))).1) ww) ?_
      show own_Goes _ _ _ _ _ _ _ (T45.setTop (mkF m 48 #[.val (.int x0), .val (.int (2 : Int32))] []))
      obtain ⟨T46, X46, e46, st46⟩ := getS X45 hx hZ hown (host := "") (hw _ (List.mem_of_getElem? (i := 23) rfl)) Via.refl e45 (Sk2.ext O0.2) (g := (mkF m 48 #[.val (.int x0), .val (.int (2 : Int32))] [])) rfl (hb hby at_48)
      refine own_go st46 ?_
      show own_Goes _ _ _ _ _ _ _ (T46.setTop (mkF m 51 #[.val (.int x0), .val (.int (2 : Int32))] [(.ref k2)]))
      refine own_go (fun _ ww => XS.iloadN X46.here hx rfl (hb hby at_51) rfl  ww) ?_
      show own_Goes _ _ _ _ _ _ _ (T46.setTop (mkF m 52 #[.val (.int x0), .val (.int (2 : Int32))] [(.int x0), (.ref k2)]))
      obtain ⟨cq47, kq47, q47a, q47b, q47c⟩ := isOf hZ e46 (Ek2.ext O0.2)
      obtain ⟨_, _, ⟨T47, L47, k47, n47⟩, -, X47, ⟨Lc47, hQ47, l47, y47, z47⟩, st47⟩ := X46.virtualBack hx (y := (⟨"com/example/esfahan/esfahan/model/Comparison", "holdsForSign", "(I)Z"⟩ : MethodName)) (z := (⟨"com/example/esfahan/esfahan/model/Comparison", "holdsForSign", "(I)Z"⟩ : MethodName)) hown (mvT hZ (hw _ (List.mem_of_getElem? (i := 3) rfl))) (mvT hZ (hw _ (List.mem_of_getElem? (i := 4) rfl))) (notFace_of_selects (args := #[]) (mvT hZ (hw _ (List.mem_of_getElem? (i := 6) rfl)))) (mvT hZ (hw _ (List.mem_of_getElem? (i := 6) rfl))) (mvT hZ (hw _ (List.mem_of_getElem? (i := 5) rfl))) (by decide) (backOf (W := 0) (rm_hold2 l Z a0 hw [] k2 x0 (0 : Int32) h0 n0 O0 (Fk2.ext O0.2) (Ek2.ext O0.2) (fun q => absurd q hc20) (fun _ => rfl)) hZ (hw _ (List.mem_of_getElem? (i := 7) rfl)) (hw _ (List.mem_of_getElem? (i := 1) rfl)) (by decide) (by decide)) q47a q47c (g := (mkF m 52 #[.val (.int x0), .val (.int (2 : Int32))] [(.int x0), (.ref k2)])) rfl (by rw [hml]; rfl) (Steps.refl _) (argsL := [(.int x0)]) (rest := []) (lenOf pd_1 rfl) rfl (by show 2 * 0 + _ ≤ _; exact Nat.le_of_eq rfl) (hb hby at_52) (fun _ _ => ⟨rfl, e46, (by decide : 0 + 0 ≤ _), (by decide : 0 + 0 ≤ _)⟩)
      dsimp only [Pt.U, Pt.locs, Pt.cells, Pt.slots] at X47 l47 y47 z47 st47 hQ47
      subst l47 y47 z47
      obtain ⟨rfl, N47q, e47⟩ := hQ47
      have N47 := Fr.app N45 N47q
      refine own_go (fun _ ww => Steps.trans st47 ww) ?_
      show own_Goes _ _ _ _ _ _ _ (T47.setTop (mkF m 55 #[.val (.int x0), .val (.int (2 : Int32))] [(.int (0 : Int32))]))
      refine own_go (fun _ ww => XS.iconst X47.here hx rfl (hb hby at_55) ww) ?_
      show own_Goes _ _ _ _ _ _ _ (T47.setTop (mkF m 56 #[.val (.int x0), .val (.int (2 : Int32))] [(.int (1 : Int32)), (.int (0 : Int32))]))
      refine own_go (fun _ ww => XS.iloadN X47.here hx rfl (hb hby at_56) rfl  ww) ?_
      show own_Goes _ _ _ _ _ _ _ (T47.setTop (mkF m 57 #[.val (.int x0), .val (.int (2 : Int32))] [(.int (2 : Int32)), (.int (1 : Int32)), (.int (0 : Int32))]))
      obtain ⟨_, _, ⟨T48, L48, k48, n48⟩, -, X48, ⟨Lc48, hQ48, l48, y48, z48⟩, st48⟩ := Jvm.LawKit.callS X47 hx (y := (⟨"com/example/esfahan/esfahan/model/ComparisonHoldsForSignPinLaw", "agrees", "(ZII)Z"⟩ : MethodName)) hown (mvT hZ (hw _ (List.mem_of_getElem? (i := 17) rfl))) (mvT hZ (hw _ (List.mem_of_getElem? (i := 18) rfl))) (mvT hZ (hw _ (List.mem_of_getElem? (i := 19) rfl))) (mvT hZ (hw _ (List.mem_of_getElem? (i := 20) rfl))) (by decide) (backOf (W := 0) (rm_agrees l Z a0 hw [] (0 : Int32) (1 : Int32) (2 : Int32) h0 n0 O0 (by decide) (by decide)) hZ (hw _ (List.mem_of_getElem? (i := 20) rfl)) (hw _ (List.mem_of_getElem? (i := 19) rfl)) (by decide) (by decide)) (g := (mkF m 57 #[.val (.int x0), .val (.int (2 : Int32))] [(.int (2 : Int32)), (.int (1 : Int32)), (.int (0 : Int32))])) rfl (by rw [hml]; rfl) (argsL := [(.int (0 : Int32)), (.int (1 : Int32)), (.int (2 : Int32))]) (rest := []) (lenOf pd_2 rfl) rfl (by show 2 * 0 + _ ≤ _; exact Nat.le_of_eq rfl) (hb hby at_57) (fun _ _ => ⟨rfl, e47, (by decide : 0 + 0 ≤ _), (by decide : 0 + 0 ≤ _)⟩)
      dsimp only [Pt.U, Pt.locs, Pt.cells, Pt.slots] at X48 l48 y48 z48 st48 hQ48
      subst l48 y48 z48
      obtain ⟨rfl, N48q, e48⟩ := hQ48
      have N48 := Fr.app N47 N48q
      refine own_go st48 ?_
      show own_Goes _ _ _ _ _ _ _ (T48.setTop (mkF m 60 #[.val (.int x0), .val (.int (2 : Int32))] [(.int (1 : Int32))]))
      refine own_go (fun _ ww => XS.ifNo X48.here hx rfl (hb hby at_60) rfl (own_if .eq (feq (by decide : ¬ ((1 : Int32) = (0 : Int32)))).1) ww) ?_
      show own_Goes _ _ _ _ _ _ _ (T48.setTop (mkF m 63 #[.val (.int x0), .val (.int (2 : Int32))] []))
      obtain ⟨T49, X49, e49, st49⟩ := getS X48 hx hZ hown (host := "") (hw _ (List.mem_of_getElem? (i := 25) rfl)) Via.refl e48 (Sk3.ext O0.2) (g := (mkF m 63 #[.val (.int x0), .val (.int (2 : Int32))] [])) rfl (hb hby at_63)
      refine own_go st49 ?_
      show own_Goes _ _ _ _ _ _ _ (T49.setTop (mkF m 66 #[.val (.int x0), .val (.int (2 : Int32))] [(.ref k3)]))
      refine own_go (fun _ ww => XS.iloadN X49.here hx rfl (hb hby at_66) rfl  ww) ?_
      show own_Goes _ _ _ _ _ _ _ (T49.setTop (mkF m 67 #[.val (.int x0), .val (.int (2 : Int32))] [(.int x0), (.ref k3)]))
      obtain ⟨cq50, kq50, q50a, q50b, q50c⟩ := isOf hZ e49 (Ek3.ext O0.2)
      obtain ⟨_, _, ⟨T50, L50, k50, n50⟩, -, X50, ⟨Lc50, hQ50, l50, y50, z50⟩, st50⟩ := X49.virtualBack hx (y := (⟨"com/example/esfahan/esfahan/model/Comparison", "holdsForSign", "(I)Z"⟩ : MethodName)) (z := (⟨"com/example/esfahan/esfahan/model/Comparison", "holdsForSign", "(I)Z"⟩ : MethodName)) hown (mvT hZ (hw _ (List.mem_of_getElem? (i := 3) rfl))) (mvT hZ (hw _ (List.mem_of_getElem? (i := 4) rfl))) (notFace_of_selects (args := #[]) (mvT hZ (hw _ (List.mem_of_getElem? (i := 6) rfl)))) (mvT hZ (hw _ (List.mem_of_getElem? (i := 6) rfl))) (mvT hZ (hw _ (List.mem_of_getElem? (i := 5) rfl))) (by decide) (backOf (W := 0) (rm_hold3 l Z a0 hw [] k3 x0 (1 : Int32) h0 n0 O0 (Fk3.ext O0.2) (Ek3.ext O0.2) (fun q => absurd q (own_n3 hc39)) (fun _ => rfl)) hZ (hw _ (List.mem_of_getElem? (i := 7) rfl)) (hw _ (List.mem_of_getElem? (i := 1) rfl)) (by decide) (by decide)) q50a q50c (g := (mkF m 67 #[.val (.int x0), .val (.int (2 : Int32))] [(.int x0), (.ref k3)])) rfl (by rw [hml]; rfl) (Steps.refl _) (argsL := [(.int x0)]) (rest := []) (lenOf pd_1 rfl) rfl (by show 2 * 0 + _ ≤ _; exact Nat.le_of_eq rfl) (hb hby at_67) (fun _ _ => ⟨rfl, e49, (by decide : 0 + 0 ≤ _), (by decide : 0 + 0 ≤ _)⟩)
      dsimp only [Pt.U, Pt.locs, Pt.cells, Pt.slots] at X50 l50 y50 z50 st50 hQ50
      subst l50 y50 z50
      obtain ⟨rfl, N50q, e50⟩ := hQ50
      have N50 := Fr.app N48 N50q
      refine own_go (fun _ ww => Steps.trans st50 ww) ?_
      show own_Goes _ _ _ _ _ _ _ (T50.setTop (mkF m 70 #[.val (.int x0), .val (.int (2 : Int32))] [(.int (1 : Int32))]))
      refine own_go (fun _ ww => XS.iconst X50.here hx rfl (hb hby at_70) ww) ?_
      show own_Goes _ _ _ _ _ _ _ (T50.setTop (mkF m 71 #[.val (.int x0), .val (.int (2 : Int32))] [(.int (3 : Int32)), (.int (1 : Int32))]))
      refine own_go (fun _ ww => XS.iloadN X50.here hx rfl (hb hby at_71) rfl  ww) ?_
      show own_Goes _ _ _ _ _ _ _ (T50.setTop (mkF m 72 #[.val (.int x0), .val (.int (2 : Int32))] [(.int (2 : Int32)), (.int (3 : Int32)), (.int (1 : Int32))]))
      obtain ⟨_, _, ⟨T51, L51, k51, n51⟩, -, X51, ⟨Lc51, hQ51, l51, y51, z51⟩, st51⟩ := Jvm.LawKit.callS X50 hx (y := (⟨"com/example/esfahan/esfahan/model/ComparisonHoldsForSignPinLaw", "agrees", "(ZII)Z"⟩ : MethodName)) hown (mvT hZ (hw _ (List.mem_of_getElem? (i := 17) rfl))) (mvT hZ (hw _ (List.mem_of_getElem? (i := 18) rfl))) (mvT hZ (hw _ (List.mem_of_getElem? (i := 19) rfl))) (mvT hZ (hw _ (List.mem_of_getElem? (i := 20) rfl))) (by decide) (backOf (W := 0) (rm_agrees l Z a0 hw [] (1 : Int32) (3 : Int32) (2 : Int32) h0 n0 O0 (by decide) (by decide)) hZ (hw _ (List.mem_of_getElem? (i := 20) rfl)) (hw _ (List.mem_of_getElem? (i := 19) rfl)) (by decide) (by decide)) (g := (mkF m 72 #[.val (.int x0), .val (.int (2 : Int32))] [(.int (2 : Int32)), (.int (3 : Int32)), (.int (1 : Int32))])) rfl (by rw [hml]; rfl) (argsL := [(.int (1 : Int32)), (.int (3 : Int32)), (.int (2 : Int32))]) (rest := []) (lenOf pd_2 rfl) rfl (by show 2 * 0 + _ ≤ _; exact Nat.le_of_eq rfl) (hb hby at_72) (fun _ _ => ⟨rfl, e50, (by decide : 0 + 0 ≤ _), (by decide : 0 + 0 ≤ _)⟩)
      dsimp only [Pt.U, Pt.locs, Pt.cells, Pt.slots] at X51 l51 y51 z51 st51 hQ51
      subst l51 y51 z51
      obtain ⟨rfl, N51q, e51⟩ := hQ51
      have N51 := Fr.app N50 N51q
      refine own_go st51 ?_
      show own_Goes _ _ _ _ _ _ _ (T51.setTop (mkF m 75 #[.val (.int x0), .val (.int (2 : Int32))] [(.int (1 : Int32))]))
      refine own_go (fun _ ww => XS.ifNo X51.here hx rfl (hb hby at_75) rfl (own_if .eq (feq (by decide : ¬ ((1 : Int32) = (0 : Int32)))).1) ww) ?_
      show own_Goes _ _ _ _ _ _ _ (T51.setTop (mkF m 78 #[.val (.int x0), .val (.int (2 : Int32))] []))
      obtain ⟨T52, X52, e52, st52⟩ := getS X51 hx hZ hown (host := "") (hw _ (List.mem_of_getElem? (i := 27) rfl)) Via.refl e51 (Sk4.ext O0.2) (g := (mkF m 78 #[.val (.int x0), .val (.int (2 : Int32))] [])) rfl (hb hby at_78)
      refine own_go st52 ?_
      show own_Goes _ _ _ _ _ _ _ (T52.setTop (mkF m 81 #[.val (.int x0), .val (.int (2 : Int32))] [(.ref k4)]))
      refine own_go (fun _ ww => XS.iloadN X52.here hx rfl (hb hby at_81) rfl  ww) ?_
      show own_Goes _ _ _ _ _ _ _ (T52.setTop (mkF m 82 #[.val (.int x0), .val (.int (2 : Int32))] [(.int x0), (.ref k4)]))
      obtain ⟨cq53, kq53, q53a, q53b, q53c⟩ := isOf hZ e52 (Ek4.ext O0.2)
      obtain ⟨_, _, ⟨T53, L53, k53, n53⟩, -, X53, ⟨Lc53, hQ53, l53, y53, z53⟩, st53⟩ := X52.virtualBack hx (y := (⟨"com/example/esfahan/esfahan/model/Comparison", "holdsForSign", "(I)Z"⟩ : MethodName)) (z := (⟨"com/example/esfahan/esfahan/model/Comparison", "holdsForSign", "(I)Z"⟩ : MethodName)) hown (mvT hZ (hw _ (List.mem_of_getElem? (i := 3) rfl))) (mvT hZ (hw _ (List.mem_of_getElem? (i := 4) rfl))) (notFace_of_selects (args := #[]) (mvT hZ (hw _ (List.mem_of_getElem? (i := 6) rfl)))) (mvT hZ (hw _ (List.mem_of_getElem? (i := 6) rfl))) (mvT hZ (hw _ (List.mem_of_getElem? (i := 5) rfl))) (by decide) (backOf (W := 0) (rm_hold4 l Z a0 hw [] k4 x0 (0 : Int32) h0 n0 O0 (Fk4.ext O0.2) (Ek4.ext O0.2) (fun q => absurd q (own_n3 hc39)) (fun _ => rfl)) hZ (hw _ (List.mem_of_getElem? (i := 7) rfl)) (hw _ (List.mem_of_getElem? (i := 1) rfl)) (by decide) (by decide)) q53a q53c (g := (mkF m 82 #[.val (.int x0), .val (.int (2 : Int32))] [(.int x0), (.ref k4)])) rfl (by rw [hml]; rfl) (Steps.refl _) (argsL := [(.int x0)]) (rest := []) (lenOf pd_1 rfl) rfl (by show 2 * 0 + _ ≤ _; exact Nat.le_of_eq rfl) (hb hby at_82) (fun _ _ => ⟨rfl, e52, (by decide : 0 + 0 ≤ _), (by decide : 0 + 0 ≤ _)⟩)
      dsimp only [Pt.U, Pt.locs, Pt.cells, Pt.slots] at X53 l53 y53 z53 st53 hQ53
      subst l53 y53 z53
      obtain ⟨rfl, N53q, e53⟩ := hQ53
      have N53 := Fr.app N51 N53q
      refine own_go (fun _ ww => Steps.trans st53 ww) ?_
      show own_Goes _ _ _ _ _ _ _ (T53.setTop (mkF m 85 #[.val (.int x0), .val (.int (2 : Int32))] [(.int (0 : Int32))]))
      refine own_go (fun _ ww => XS.iconst X53.here hx rfl (hb hby at_85) ww) ?_
      show own_Goes _ _ _ _ _ _ _ (T53.setTop (mkF m 86 #[.val (.int x0), .val (.int (2 : Int32))] [(.int (4 : Int32)), (.int (0 : Int32))]))
      refine own_go (fun _ ww => XS.iloadN X53.here hx rfl (hb hby at_86) rfl  ww) ?_
      show own_Goes _ _ _ _ _ _ _ (T53.setTop (mkF m 87 #[.val (.int x0), .val (.int (2 : Int32))] [(.int (2 : Int32)), (.int (4 : Int32)), (.int (0 : Int32))]))
      obtain ⟨_, _, ⟨T54, L54, k54, n54⟩, -, X54, ⟨Lc54, hQ54, l54, y54, z54⟩, st54⟩ := Jvm.LawKit.callS X53 hx (y := (⟨"com/example/esfahan/esfahan/model/ComparisonHoldsForSignPinLaw", "agrees", "(ZII)Z"⟩ : MethodName)) hown (mvT hZ (hw _ (List.mem_of_getElem? (i := 17) rfl))) (mvT hZ (hw _ (List.mem_of_getElem? (i := 18) rfl))) (mvT hZ (hw _ (List.mem_of_getElem? (i := 19) rfl))) (mvT hZ (hw _ (List.mem_of_getElem? (i := 20) rfl))) (by decide) (backOf (W := 0) (rm_agrees l Z a0 hw [] (0 : Int32) (4 : Int32) (2 : Int32) h0 n0 O0 (by decide) (by decide)) hZ (hw _ (List.mem_of_getElem? (i := 20) rfl)) (hw _ (List.mem_of_getElem? (i := 19) rfl)) (by decide) (by decide)) (g := (mkF m 87 #[.val (.int x0), .val (.int (2 : Int32))] [(.int (2 : Int32)), (.int (4 : Int32)), (.int (0 : Int32))])) rfl (by rw [hml]; rfl) (argsL := [(.int (0 : Int32)), (.int (4 : Int32)), (.int (2 : Int32))]) (rest := []) (lenOf pd_2 rfl) rfl (by show 2 * 0 + _ ≤ _; exact Nat.le_of_eq rfl) (hb hby at_87) (fun _ _ => ⟨rfl, e53, (by decide : 0 + 0 ≤ _), (by decide : 0 + 0 ≤ _)⟩)
      dsimp only [Pt.U, Pt.locs, Pt.cells, Pt.slots] at X54 l54 y54 z54 st54 hQ54
      subst l54 y54 z54
      obtain ⟨rfl, N54q, e54⟩ := hQ54
      have N54 := Fr.app N53 N54q
      refine own_go st54 ?_
      show own_Goes _ _ _ _ _ _ _ (T54.setTop (mkF m 90 #[.val (.int x0), .val (.int (2 : Int32))] [(.int (1 : Int32))]))
      refine own_go (fun _ ww => XS.ifNo X54.here hx rfl (hb hby at_90) rfl (own_if .eq (feq (by decide : ¬ ((1 : Int32) = (0 : Int32)))).1) ww) ?_
      show own_Goes _ _ _ _ _ _ _ (T54.setTop (mkF m 93 #[.val (.int x0), .val (.int (2 : Int32))] []))
      obtain ⟨T55, X55, e55, st55⟩ := getS X54 hx hZ hown (host := "") (hw _ (List.mem_of_getElem? (i := 29) rfl)) Via.refl e54 (Sk5.ext O0.2) (g := (mkF m 93 #[.val (.int x0), .val (.int (2 : Int32))] [])) rfl (hb hby at_93)
      refine own_go st55 ?_
      show own_Goes _ _ _ _ _ _ _ (T55.setTop (mkF m 96 #[.val (.int x0), .val (.int (2 : Int32))] [(.ref k5)]))
      refine own_go (fun _ ww => XS.iloadN X55.here hx rfl (hb hby at_96) rfl  ww) ?_
      show own_Goes _ _ _ _ _ _ _ (T55.setTop (mkF m 97 #[.val (.int x0), .val (.int (2 : Int32))] [(.int x0), (.ref k5)]))
      obtain ⟨cq56, kq56, q56a, q56b, q56c⟩ := isOf hZ e55 (Ek5.ext O0.2)
      obtain ⟨_, _, ⟨T56, L56, k56, n56⟩, -, X56, ⟨Lc56, hQ56, l56, y56, z56⟩, st56⟩ := X55.virtualBack hx (y := (⟨"com/example/esfahan/esfahan/model/Comparison", "holdsForSign", "(I)Z"⟩ : MethodName)) (z := (⟨"com/example/esfahan/esfahan/model/Comparison", "holdsForSign", "(I)Z"⟩ : MethodName)) hown (mvT hZ (hw _ (List.mem_of_getElem? (i := 3) rfl))) (mvT hZ (hw _ (List.mem_of_getElem? (i := 4) rfl))) (notFace_of_selects (args := #[]) (mvT hZ (hw _ (List.mem_of_getElem? (i := 6) rfl)))) (mvT hZ (hw _ (List.mem_of_getElem? (i := 6) rfl))) (mvT hZ (hw _ (List.mem_of_getElem? (i := 5) rfl))) (by decide) (backOf (W := 0) (rm_hold5 l Z a0 hw [] k5 x0 (1 : Int32) h0 n0 O0 (Fk5.ext O0.2) (Ek5.ext O0.2) (fun q => absurd q hc20) (fun _ => rfl)) hZ (hw _ (List.mem_of_getElem? (i := 7) rfl)) (hw _ (List.mem_of_getElem? (i := 1) rfl)) (by decide) (by decide)) q56a q56c (g := (mkF m 97 #[.val (.int x0), .val (.int (2 : Int32))] [(.int x0), (.ref k5)])) rfl (by rw [hml]; rfl) (Steps.refl _) (argsL := [(.int x0)]) (rest := []) (lenOf pd_1 rfl) rfl (by show 2 * 0 + _ ≤ _; exact Nat.le_of_eq rfl) (hb hby at_97) (fun _ _ => ⟨rfl, e55, (by decide : 0 + 0 ≤ _), (by decide : 0 + 0 ≤ _)⟩)
      dsimp only [Pt.U, Pt.locs, Pt.cells, Pt.slots] at X56 l56 y56 z56 st56 hQ56
      subst l56 y56 z56
      obtain ⟨rfl, N56q, e56⟩ := hQ56
      have N56 := Fr.app N54 N56q
      refine own_go (fun _ ww => Steps.trans st56 ww) ?_
      show own_Goes _ _ _ _ _ _ _ (T56.setTop (mkF m 100 #[.val (.int x0), .val (.int (2 : Int32))] [(.int (1 : Int32))]))
      refine own_go (fun _ ww => XS.bipush X56.here hx rfl (hb hby at_100) ww) ?_
      show own_Goes _ _ _ _ _ _ _ (T56.setTop (mkF m 102 #[.val (.int x0), .val (.int (2 : Int32))] [(.int (6 : Int32)), (.int (1 : Int32))]))
      refine own_go (fun _ ww => XS.iloadN X56.here hx rfl (hb hby at_102) rfl  ww) ?_
      show own_Goes _ _ _ _ _ _ _ (T56.setTop (mkF m 103 #[.val (.int x0), .val (.int (2 : Int32))] [(.int (2 : Int32)), (.int (6 : Int32)), (.int (1 : Int32))]))
      obtain ⟨_, _, ⟨T57, L57, k57, n57⟩, -, X57, ⟨Lc57, hQ57, l57, y57, z57⟩, st57⟩ := Jvm.LawKit.callS X56 hx (y := (⟨"com/example/esfahan/esfahan/model/ComparisonHoldsForSignPinLaw", "agrees", "(ZII)Z"⟩ : MethodName)) hown (mvT hZ (hw _ (List.mem_of_getElem? (i := 17) rfl))) (mvT hZ (hw _ (List.mem_of_getElem? (i := 18) rfl))) (mvT hZ (hw _ (List.mem_of_getElem? (i := 19) rfl))) (mvT hZ (hw _ (List.mem_of_getElem? (i := 20) rfl))) (by decide) (backOf (W := 0) (rm_agrees l Z a0 hw [] (1 : Int32) (6 : Int32) (2 : Int32) h0 n0 O0 (by decide) (by decide)) hZ (hw _ (List.mem_of_getElem? (i := 20) rfl)) (hw _ (List.mem_of_getElem? (i := 19) rfl)) (by decide) (by decide)) (g := (mkF m 103 #[.val (.int x0), .val (.int (2 : Int32))] [(.int (2 : Int32)), (.int (6 : Int32)), (.int (1 : Int32))])) rfl (by rw [hml]; rfl) (argsL := [(.int (1 : Int32)), (.int (6 : Int32)), (.int (2 : Int32))]) (rest := []) (lenOf pd_2 rfl) rfl (by show 2 * 0 + _ ≤ _; exact Nat.le_of_eq rfl) (hb hby at_103) (fun _ _ => ⟨rfl, e56, (by decide : 0 + 0 ≤ _), (by decide : 0 + 0 ≤ _)⟩)
      dsimp only [Pt.U, Pt.locs, Pt.cells, Pt.slots] at X57 l57 y57 z57 st57 hQ57
      subst l57 y57 z57
      obtain ⟨rfl, N57q, e57⟩ := hQ57
      have N57 := Fr.app N56 N57q
      refine own_go st57 ?_
      show own_Goes _ _ _ _ _ _ _ (T57.setTop (mkF m 106 #[.val (.int x0), .val (.int (2 : Int32))] [(.int (1 : Int32))]))
      refine own_go (fun _ ww => XS.ifNo X57.here hx rfl (hb hby at_106) rfl (own_if .eq (feq (by decide : ¬ ((1 : Int32) = (0 : Int32)))).1) ww) ?_
      show own_Goes _ _ _ _ _ _ _ (T57.setTop (mkF m 109 #[.val (.int x0), .val (.int (2 : Int32))] []))
      refine own_go (fun _ ww => XS.iconst X57.here hx rfl (hb hby at_109) ww) ?_
      show own_Goes _ _ _ _ _ _ _ (T57.setTop (mkF m 110 #[.val (.int x0), .val (.int (2 : Int32))] [(.int (1 : Int32))]))
      refine own_go (fun _ ww => XS.goto X57.here hx rfl (pc0 := 110) (pc' := 114) rfl (hb hby at_110) (by decide) (by decide) ww) ?_
      show own_Goes _ _ _ _ _ _ _ (T57.setTop (mkF m 114 #[.val (.int x0), .val (.int (2 : Int32))] [(.int (1 : Int32))]))
      exact own_out X57 hlk (v := some (.int (1 : Int32))) (fun h => by rw [hret] at h; cases h) (fun fs hr => retOut X57 hx (t := .boolean) hret (by decide) (Or.inl ⟨rfl, by simp, _, rfl⟩) (hb hby at_114) hr) e57 ⟨rfl, N57⟩ (by decide) (by decide)
    ·
      refine own_go (fun _ ww => XS.ifYes X0.here hx rfl (pc0 := 9) (pc' := 16) rfl (hb hby at_9) rfl (own_if .ne (feq hc39).2) (by decide) (by decide) ww) ?_
      show own_Goes _ _ _ _ _ _ _ (s₁.setTop (mkF m 16 #[.val (.int x0), .unset] []))
      refine own_go (fun _ ww => XS.iconst X0.here hx rfl (hb hby at_16) ww) ?_
      show own_Goes _ _ _ _ _ _ _ (s₁.setTop (mkF m 17 #[.val (.int x0), .unset] [(.int (4 : Int32))]))
      refine own_go (fun _ ww => XS.istoreN X0.here hx rfl (hb hby at_17) rfl (l' := #[.val (.int x0), .val (.int (4 : Int32))]) rfl ww) ?_
      show own_Goes _ _ _ _ _ _ _ (s₁.setTop (mkF m 18 #[.val (.int x0), .val (.int (4 : Int32))] []))
      obtain ⟨T58, X58, e58, st58⟩ := getS X0 hx hZ hown (host := "") (hw _ (List.mem_of_getElem? (i := 0) rfl)) Via.refl e0 (Sk0.ext O0.2) (g := (mkF m 18 #[.val (.int x0), .val (.int (4 : Int32))] [])) rfl (hb hby at_18)
      refine own_go st58 ?_
      show own_Goes _ _ _ _ _ _ _ (T58.setTop (mkF m 21 #[.val (.int x0), .val (.int (4 : Int32))] [(.ref k0)]))
      refine own_go (fun _ ww => XS.iloadN X58.here hx rfl (hb hby at_21) rfl  ww) ?_
      show own_Goes _ _ _ _ _ _ _ (T58.setTop (mkF m 22 #[.val (.int x0), .val (.int (4 : Int32))] [(.int x0), (.ref k0)]))
      obtain ⟨cq59, kq59, q59a, q59b, q59c⟩ := isOf hZ e58 (Ek0.ext O0.2)
      obtain ⟨_, _, ⟨T59, L59, k59, n59⟩, -, X59, ⟨Lc59, hQ59, l59, y59, z59⟩, st59⟩ := X58.virtualBack hx (y := (⟨"com/example/esfahan/esfahan/model/Comparison", "holdsForSign", "(I)Z"⟩ : MethodName)) (z := (⟨"com/example/esfahan/esfahan/model/Comparison", "holdsForSign", "(I)Z"⟩ : MethodName)) hown (mvT hZ (hw _ (List.mem_of_getElem? (i := 3) rfl))) (mvT hZ (hw _ (List.mem_of_getElem? (i := 4) rfl))) (notFace_of_selects (args := #[]) (mvT hZ (hw _ (List.mem_of_getElem? (i := 6) rfl)))) (mvT hZ (hw _ (List.mem_of_getElem? (i := 6) rfl))) (mvT hZ (hw _ (List.mem_of_getElem? (i := 5) rfl))) (by decide) (backOf (W := 0) (rm_hold0 l Z a0 hw [] k0 x0 (0 : Int32) h0 n0 O0 (Fk0.ext O0.2) (Ek0.ext O0.2) (fun q => absurd q hc39) (fun _ => rfl)) hZ (hw _ (List.mem_of_getElem? (i := 7) rfl)) (hw _ (List.mem_of_getElem? (i := 1) rfl)) (by decide) (by decide)) q59a q59c (g := (mkF m 22 #[.val (.int x0), .val (.int (4 : Int32))] [(.int x0), (.ref k0)])) rfl (by rw [hml]; rfl) (Steps.refl _) (argsL := [(.int x0)]) (rest := []) (lenOf pd_1 rfl) rfl (by show 2 * 0 + _ ≤ _; exact Nat.le_of_eq rfl) (hb hby at_22) (fun _ _ => ⟨rfl, e58, (by decide : 0 + 0 ≤ _), (by decide : 0 + 0 ≤ _)⟩)
      dsimp only [Pt.U, Pt.locs, Pt.cells, Pt.slots] at X59 l59 y59 z59 st59 hQ59
      subst l59 y59 z59
      obtain ⟨rfl, N59q, e59⟩ := hQ59
      have N59 := Fr.app N0 N59q
      refine own_go (fun _ ww => Steps.trans st59 ww) ?_
      show own_Goes _ _ _ _ _ _ _ (T59.setTop (mkF m 25 #[.val (.int x0), .val (.int (4 : Int32))] [(.int (0 : Int32))]))
      refine own_go (fun _ ww => XS.iconst X59.here hx rfl (hb hby at_25) ww) ?_
      show own_Goes _ _ _ _ _ _ _ (T59.setTop (mkF m 26 #[.val (.int x0), .val (.int (4 : Int32))] [(.int (2 : Int32)), (.int (0 : Int32))]))
      refine own_go (fun _ ww => XS.iloadN X59.here hx rfl (hb hby at_26) rfl  ww) ?_
      show own_Goes _ _ _ _ _ _ _ (T59.setTop (mkF m 27 #[.val (.int x0), .val (.int (4 : Int32))] [(.int (4 : Int32)), (.int (2 : Int32)), (.int (0 : Int32))]))
      obtain ⟨_, _, ⟨T60, L60, k60, n60⟩, -, X60, ⟨Lc60, hQ60, l60, y60, z60⟩, st60⟩ := Jvm.LawKit.callS X59 hx (y := (⟨"com/example/esfahan/esfahan/model/ComparisonHoldsForSignPinLaw", "agrees", "(ZII)Z"⟩ : MethodName)) hown (mvT hZ (hw _ (List.mem_of_getElem? (i := 17) rfl))) (mvT hZ (hw _ (List.mem_of_getElem? (i := 18) rfl))) (mvT hZ (hw _ (List.mem_of_getElem? (i := 19) rfl))) (mvT hZ (hw _ (List.mem_of_getElem? (i := 20) rfl))) (by decide) (backOf (W := 0) (rm_agrees l Z a0 hw [] (0 : Int32) (2 : Int32) (4 : Int32) h0 n0 O0 (by decide) (by decide)) hZ (hw _ (List.mem_of_getElem? (i := 20) rfl)) (hw _ (List.mem_of_getElem? (i := 19) rfl)) (by decide) (by decide)) (g := (mkF m 27 #[.val (.int x0), .val (.int (4 : Int32))] [(.int (4 : Int32)), (.int (2 : Int32)), (.int (0 : Int32))])) rfl (by rw [hml]; rfl) (argsL := [(.int (0 : Int32)), (.int (2 : Int32)), (.int (4 : Int32))]) (rest := []) (lenOf pd_2 rfl) rfl (by show 2 * 0 + _ ≤ _; exact Nat.le_of_eq rfl) (hb hby at_27) (fun _ _ => ⟨rfl, e59, (by decide : 0 + 0 ≤ _), (by decide : 0 + 0 ≤ _)⟩)
      dsimp only [Pt.U, Pt.locs, Pt.cells, Pt.slots] at X60 l60 y60 z60 st60 hQ60
      subst l60 y60 z60
      obtain ⟨rfl, N60q, e60⟩ := hQ60
      have N60 := Fr.app N59 N60q
      refine own_go st60 ?_
      show own_Goes _ _ _ _ _ _ _ (T60.setTop (mkF m 30 #[.val (.int x0), .val (.int (4 : Int32))] [(.int (1 : Int32))]))
      refine own_go (fun _ ww => XS.ifNo X60.here hx rfl (hb hby at_30) rfl (own_if .eq (feq (by decide : ¬ ((1 : Int32) = (0 : Int32)))).1) ww) ?_
      show own_Goes _ _ _ _ _ _ _ (T60.setTop (mkF m 33 #[.val (.int x0), .val (.int (4 : Int32))] []))
      obtain ⟨T61, X61, e61, st61⟩ := getS X60 hx hZ hown (host := "") (hw _ (List.mem_of_getElem? (i := 21) rfl)) Via.refl e60 (Sk1.ext O0.2) (g := (mkF m 33 #[.val (.int x0), .val (.int (4 : Int32))] [])) rfl (hb hby at_33)
      refine own_go st61 ?_
      show own_Goes _ _ _ _ _ _ _ (T61.setTop (mkF m 36 #[.val (.int x0), .val (.int (4 : Int32))] [(.ref k1)]))
      refine own_go (fun _ ww => XS.iloadN X61.here hx rfl (hb hby at_36) rfl  ww) ?_
      show own_Goes _ _ _ _ _ _ _ (T61.setTop (mkF m 37 #[.val (.int x0), .val (.int (4 : Int32))] [(.int x0), (.ref k1)]))
      obtain ⟨cq62, kq62, q62a, q62b, q62c⟩ := isOf hZ e61 (Ek1.ext O0.2)
      obtain ⟨_, _, ⟨T62, L62, k62, n62⟩, -, X62, ⟨Lc62, hQ62, l62, y62, z62⟩, st62⟩ := X61.virtualBack hx (y := (⟨"com/example/esfahan/esfahan/model/Comparison", "holdsForSign", "(I)Z"⟩ : MethodName)) (z := (⟨"com/example/esfahan/esfahan/model/Comparison", "holdsForSign", "(I)Z"⟩ : MethodName)) hown (mvT hZ (hw _ (List.mem_of_getElem? (i := 3) rfl))) (mvT hZ (hw _ (List.mem_of_getElem? (i := 4) rfl))) (notFace_of_selects (args := #[]) (mvT hZ (hw _ (List.mem_of_getElem? (i := 6) rfl)))) (mvT hZ (hw _ (List.mem_of_getElem? (i := 6) rfl))) (mvT hZ (hw _ (List.mem_of_getElem? (i := 5) rfl))) (by decide) (backOf (W := 0) (rm_hold1 l Z a0 hw [] k1 x0 (1 : Int32) h0 n0 O0 (Fk1.ext O0.2) (Ek1.ext O0.2) (fun q => absurd q hc39) (fun _ => rfl)) hZ (hw _ (List.mem_of_getElem? (i := 7) rfl)) (hw _ (List.mem_of_getElem? (i := 1) rfl)) (by decide) (by decide)) q62a q62c (g := (mkF m 37 #[.val (.int x0), .val (.int (4 : Int32))] [(.int x0), (.ref k1)])) rfl (by rw [hml]; rfl) (Steps.refl _) (argsL := [(.int x0)]) (rest := []) (lenOf pd_1 rfl) rfl (by show 2 * 0 + _ ≤ _; exact Nat.le_of_eq rfl) (hb hby at_37) (fun _ _ => ⟨rfl, e61, (by decide : 0 + 0 ≤ _), (by decide : 0 + 0 ≤ _)⟩)
      dsimp only [Pt.U, Pt.locs, Pt.cells, Pt.slots] at X62 l62 y62 z62 st62 hQ62
      subst l62 y62 z62
      obtain ⟨rfl, N62q, e62⟩ := hQ62
      have N62 := Fr.app N60 N62q
      refine own_go (fun _ ww => Steps.trans st62 ww) ?_
      show own_Goes _ _ _ _ _ _ _ (T62.setTop (mkF m 40 #[.val (.int x0), .val (.int (4 : Int32))] [(.int (1 : Int32))]))
      refine own_go (fun _ ww => XS.iconst X62.here hx rfl (hb hby at_40) ww) ?_
      show own_Goes _ _ _ _ _ _ _ (T62.setTop (mkF m 41 #[.val (.int x0), .val (.int (4 : Int32))] [(.int (5 : Int32)), (.int (1 : Int32))]))
      refine own_go (fun _ ww => XS.iloadN X62.here hx rfl (hb hby at_41) rfl  ww) ?_
      show own_Goes _ _ _ _ _ _ _ (T62.setTop (mkF m 42 #[.val (.int x0), .val (.int (4 : Int32))] [(.int (4 : Int32)), (.int (5 : Int32)), (.int (1 : Int32))]))
      obtain ⟨_, _, ⟨T63, L63, k63, n63⟩, -, X63, ⟨Lc63, hQ63, l63, y63, z63⟩, st63⟩ := Jvm.LawKit.callS X62 hx (y := (⟨"com/example/esfahan/esfahan/model/ComparisonHoldsForSignPinLaw", "agrees", "(ZII)Z"⟩ : MethodName)) hown (mvT hZ (hw _ (List.mem_of_getElem? (i := 17) rfl))) (mvT hZ (hw _ (List.mem_of_getElem? (i := 18) rfl))) (mvT hZ (hw _ (List.mem_of_getElem? (i := 19) rfl))) (mvT hZ (hw _ (List.mem_of_getElem? (i := 20) rfl))) (by decide) (backOf (W := 0) (rm_agrees l Z a0 hw [] (1 : Int32) (5 : Int32) (4 : Int32) h0 n0 O0 (by decide) (by decide)) hZ (hw _ (List.mem_of_getElem? (i := 20) rfl)) (hw _ (List.mem_of_getElem? (i := 19) rfl)) (by decide) (by decide)) (g := (mkF m 42 #[.val (.int x0), .val (.int (4 : Int32))] [(.int (4 : Int32)), (.int (5 : Int32)), (.int (1 : Int32))])) rfl (by rw [hml]; rfl) (argsL := [(.int (1 : Int32)), (.int (5 : Int32)), (.int (4 : Int32))]) (rest := []) (lenOf pd_2 rfl) rfl (by show 2 * 0 + _ ≤ _; exact Nat.le_of_eq rfl) (hb hby at_42) (fun _ _ => ⟨rfl, e62, (by decide : 0 + 0 ≤ _), (by decide : 0 + 0 ≤ _)⟩)
      dsimp only [Pt.U, Pt.locs, Pt.cells, Pt.slots] at X63 l63 y63 z63 st63 hQ63
      subst l63 y63 z63
      obtain ⟨rfl, N63q, e63⟩ := hQ63
      have N63 := Fr.app N62 N63q
      refine own_go st63 ?_
      show own_Goes _ _ _ _ _ _ _ (T63.setTop (mkF m 45 #[.val (.int x0), .val (.int (4 : Int32))] [(.int (1 : Int32))]))
      refine own_go (fun _ ww => XS.ifNo X63.here hx rfl (hb hby at_45) rfl (own_if .eq (feq (by decide : ¬ ((1 : Int32) = (0 : Int32)))).1) ww) ?_
      show own_Goes _ _ _ _ _ _ _ (T63.setTop (mkF m 48 #[.val (.int x0), .val (.int (4 : Int32))] []))
      obtain ⟨T64, X64, e64, st64⟩ := getS X63 hx hZ hown (host := "") (hw _ (List.mem_of_getElem? (i := 23) rfl)) Via.refl e63 (Sk2.ext O0.2) (g := (mkF m 48 #[.val (.int x0), .val (.int (4 : Int32))] [])) rfl (hb hby at_48)
      refine own_go st64 ?_
      show own_Goes _ _ _ _ _ _ _ (T64.setTop (mkF m 51 #[.val (.int x0), .val (.int (4 : Int32))] [(.ref k2)]))
      refine own_go (fun _ ww => XS.iloadN X64.here hx rfl (hb hby at_51) rfl  ww) ?_
      show own_Goes _ _ _ _ _ _ _ (T64.setTop (mkF m 52 #[.val (.int x0), .val (.int (4 : Int32))] [(.int x0), (.ref k2)]))
      obtain ⟨cq65, kq65, q65a, q65b, q65c⟩ := isOf hZ e64 (Ek2.ext O0.2)
      obtain ⟨_, _, ⟨T65, L65, k65, n65⟩, -, X65, ⟨Lc65, hQ65, l65, y65, z65⟩, st65⟩ := X64.virtualBack hx (y := (⟨"com/example/esfahan/esfahan/model/Comparison", "holdsForSign", "(I)Z"⟩ : MethodName)) (z := (⟨"com/example/esfahan/esfahan/model/Comparison", "holdsForSign", "(I)Z"⟩ : MethodName)) hown (mvT hZ (hw _ (List.mem_of_getElem? (i := 3) rfl))) (mvT hZ (hw _ (List.mem_of_getElem? (i := 4) rfl))) (notFace_of_selects (args := #[]) (mvT hZ (hw _ (List.mem_of_getElem? (i := 6) rfl)))) (mvT hZ (hw _ (List.mem_of_getElem? (i := 6) rfl))) (mvT hZ (hw _ (List.mem_of_getElem? (i := 5) rfl))) (by decide) (backOf (W := 0) (rm_hold2 l Z a0 hw [] k2 x0 (0 : Int32) h0 n0 O0 (Fk2.ext O0.2) (Ek2.ext O0.2) (fun q => absurd q hc20) (fun _ => rfl)) hZ (hw _ (List.mem_of_getElem? (i := 7) rfl)) (hw _ (List.mem_of_getElem? (i := 1) rfl)) (by decide) (by decide)) q65a q65c (g := (mkF m 52 #[.val (.int x0), .val (.int (4 : Int32))] [(.int x0), (.ref k2)])) rfl (by rw [hml]; rfl) (Steps.refl _) (argsL := [(.int x0)]) (rest := []) (lenOf pd_1 rfl) rfl (by show 2 * 0 + _ ≤ _; exact Nat.le_of_eq rfl) (hb hby at_52) (fun _ _ => ⟨rfl, e64, (by decide : 0 + 0 ≤ _), (by decide : 0 + 0 ≤ _)⟩)
      dsimp only [Pt.U, Pt.locs, Pt.cells, Pt.slots] at X65 l65 y65 z65 st65 hQ65
      subst l65 y65 z65
      obtain ⟨rfl, N65q, e65⟩ := hQ65
      have N65 := Fr.app N63 N65q
      refine own_go (fun _ ww => Steps.trans st65 ww) ?_
      show own_Goes _ _ _ _ _ _ _ (T65.setTop (mkF m 55 #[.val (.int x0), .val (.int (4 : Int32))] [(.int (0 : Int32))]))
      refine own_go (fun _ ww => XS.iconst X65.here hx rfl (hb hby at_55) ww) ?_
      show own_Goes _ _ _ _ _ _ _ (T65.setTop (mkF m 56 #[.val (.int x0), .val (.int (4 : Int32))] [(.int (1 : Int32)), (.int (0 : Int32))]))
      refine own_go (fun _ ww => XS.iloadN X65.here hx rfl (hb hby at_56) rfl  ww) ?_
      show own_Goes _ _ _ _ _ _ _ (T65.setTop (mkF m 57 #[.val (.int x0), .val (.int (4 : Int32))] [(.int (4 : Int32)), (.int (1 : Int32)), (.int (0 : Int32))]))
      obtain ⟨_, _, ⟨T66, L66, k66, n66⟩, -, X66, ⟨Lc66, hQ66, l66, y66, z66⟩, st66⟩ := Jvm.LawKit.callS X65 hx (y := (⟨"com/example/esfahan/esfahan/model/ComparisonHoldsForSignPinLaw", "agrees", "(ZII)Z"⟩ : MethodName)) hown (mvT hZ (hw _ (List.mem_of_getElem? (i := 17) rfl))) (mvT hZ (hw _ (List.mem_of_getElem? (i := 18) rfl))) (mvT hZ (hw _ (List.mem_of_getElem? (i := 19) rfl))) (mvT hZ (hw _ (List.mem_of_getElem? (i := 20) rfl))) (by decide) (backOf (W := 0) (rm_agrees l Z a0 hw [] (0 : Int32) (1 : Int32) (4 : Int32) h0 n0 O0 (by decide) (by decide)) hZ (hw _ (List.mem_of_getElem? (i := 20) rfl)) (hw _ (List.mem_of_getElem? (i := 19) rfl)) (by decide) (by decide)) (g := (mkF m 57 #[.val (.int x0), .val (.int (4 : Int32))] [(.int (4 : Int32)), (.int (1 : Int32)), (.int (0 : Int32))])) rfl (by rw [hml]; rfl) (argsL := [(.int (0 : Int32)), (.int (1 : Int32)), (.int (4 : Int32))]) (rest := []) (lenOf pd_2 rfl) rfl (by show 2 * 0 + _ ≤ _; exact Nat.le_of_eq rfl) (hb hby at_57) (fun _ _ => ⟨rfl, e65, (by decide : 0 + 0 ≤ _), (by decide : 0 + 0 ≤ _)⟩)
      dsimp only [Pt.U, Pt.locs, Pt.cells, Pt.slots] at X66 l66 y66 z66 st66 hQ66
      subst l66 y66 z66
      obtain ⟨rfl, N66q, e66⟩ := hQ66
      have N66 := Fr.app N65 N66q
      refine own_go st66 ?_
      show own_Goes _ _ _ _ _ _ _ (T66.setTop (mkF m 60 #[.val (.int x0), .val (.int (4 : Int32))] [(.int (1 : Int32))]))
      refine own_go (fun _ ww => XS.ifNo X66.here hx rfl (hb hby at_60) rfl (own_if .eq (feq (by decide : ¬ ((1 : Int32) = (0 : Int32)))).1) ww) ?_
      show own_Goes _ _ _ _ _ _ _ (T66.setTop (mkF m 63 #[.val (.int x0), .val (.int (4 : Int32))] []))
      obtain ⟨T67, X67, e67, st67⟩ := getS X66 hx hZ hown (host := "") (hw _ (List.mem_of_getElem? (i := 25) rfl)) Via.refl e66 (Sk3.ext O0.2) (g := (mkF m 63 #[.val (.int x0), .val (.int (4 : Int32))] [])) rfl (hb hby at_63)
      refine own_go st67 ?_
      show own_Goes _ _ _ _ _ _ _ (T67.setTop (mkF m 66 #[.val (.int x0), .val (.int (4 : Int32))] [(.ref k3)]))
      refine own_go (fun _ ww => XS.iloadN X67.here hx rfl (hb hby at_66) rfl  ww) ?_
      show own_Goes _ _ _ _ _ _ _ (T67.setTop (mkF m 67 #[.val (.int x0), .val (.int (4 : Int32))] [(.int x0), (.ref k3)]))
      obtain ⟨cq68, kq68, q68a, q68b, q68c⟩ := isOf hZ e67 (Ek3.ext O0.2)
      obtain ⟨_, _, ⟨T68, L68, k68, n68⟩, -, X68, ⟨Lc68, hQ68, l68, y68, z68⟩, st68⟩ := X67.virtualBack hx (y := (⟨"com/example/esfahan/esfahan/model/Comparison", "holdsForSign", "(I)Z"⟩ : MethodName)) (z := (⟨"com/example/esfahan/esfahan/model/Comparison", "holdsForSign", "(I)Z"⟩ : MethodName)) hown (mvT hZ (hw _ (List.mem_of_getElem? (i := 3) rfl))) (mvT hZ (hw _ (List.mem_of_getElem? (i := 4) rfl))) (notFace_of_selects (args := #[]) (mvT hZ (hw _ (List.mem_of_getElem? (i := 6) rfl)))) (mvT hZ (hw _ (List.mem_of_getElem? (i := 6) rfl))) (mvT hZ (hw _ (List.mem_of_getElem? (i := 5) rfl))) (by decide) (backOf (W := 0) (rm_hold3 l Z a0 hw [] k3 x0 (0 : Int32) h0 n0 O0 (Fk3.ext O0.2) (Ek3.ext O0.2) (fun _ => rfl) (fun q => absurd (own_n4 hc20 hc39) q)) hZ (hw _ (List.mem_of_getElem? (i := 7) rfl)) (hw _ (List.mem_of_getElem? (i := 1) rfl)) (by decide) (by decide)) q68a q68c (g := (mkF m 67 #[.val (.int x0), .val (.int (4 : Int32))] [(.int x0), (.ref k3)])) rfl (by rw [hml]; rfl) (Steps.refl _) (argsL := [(.int x0)]) (rest := []) (lenOf pd_1 rfl) rfl (by show 2 * 0 + _ ≤ _; exact Nat.le_of_eq rfl) (hb hby at_67) (fun _ _ => ⟨rfl, e67, (by decide : 0 + 0 ≤ _), (by decide : 0 + 0 ≤ _)⟩)
      dsimp only [Pt.U, Pt.locs, Pt.cells, Pt.slots] at X68 l68 y68 z68 st68 hQ68
      subst l68 y68 z68
      obtain ⟨rfl, N68q, e68⟩ := hQ68
      have N68 := Fr.app N66 N68q
      refine own_go (fun _ ww => Steps.trans st68 ww) ?_
      show own_Goes _ _ _ _ _ _ _ (T68.setTop (mkF m 70 #[.val (.int x0), .val (.int (4 : Int32))] [(.int (0 : Int32))]))
      refine own_go (fun _ ww => XS.iconst X68.here hx rfl (hb hby at_70) ww) ?_
      show own_Goes _ _ _ _ _ _ _ (T68.setTop (mkF m 71 #[.val (.int x0), .val (.int (4 : Int32))] [(.int (3 : Int32)), (.int (0 : Int32))]))
      refine own_go (fun _ ww => XS.iloadN X68.here hx rfl (hb hby at_71) rfl  ww) ?_
      show own_Goes _ _ _ _ _ _ _ (T68.setTop (mkF m 72 #[.val (.int x0), .val (.int (4 : Int32))] [(.int (4 : Int32)), (.int (3 : Int32)), (.int (0 : Int32))]))
      obtain ⟨_, _, ⟨T69, L69, k69, n69⟩, -, X69, ⟨Lc69, hQ69, l69, y69, z69⟩, st69⟩ := Jvm.LawKit.callS X68 hx (y := (⟨"com/example/esfahan/esfahan/model/ComparisonHoldsForSignPinLaw", "agrees", "(ZII)Z"⟩ : MethodName)) hown (mvT hZ (hw _ (List.mem_of_getElem? (i := 17) rfl))) (mvT hZ (hw _ (List.mem_of_getElem? (i := 18) rfl))) (mvT hZ (hw _ (List.mem_of_getElem? (i := 19) rfl))) (mvT hZ (hw _ (List.mem_of_getElem? (i := 20) rfl))) (by decide) (backOf (W := 0) (rm_agrees l Z a0 hw [] (0 : Int32) (3 : Int32) (4 : Int32) h0 n0 O0 (by decide) (by decide)) hZ (hw _ (List.mem_of_getElem? (i := 20) rfl)) (hw _ (List.mem_of_getElem? (i := 19) rfl)) (by decide) (by decide)) (g := (mkF m 72 #[.val (.int x0), .val (.int (4 : Int32))] [(.int (4 : Int32)), (.int (3 : Int32)), (.int (0 : Int32))])) rfl (by rw [hml]; rfl) (argsL := [(.int (0 : Int32)), (.int (3 : Int32)), (.int (4 : Int32))]) (rest := []) (lenOf pd_2 rfl) rfl (by show 2 * 0 + _ ≤ _; exact Nat.le_of_eq rfl) (hb hby at_72) (fun _ _ => ⟨rfl, e68, (by decide : 0 + 0 ≤ _), (by decide : 0 + 0 ≤ _)⟩)
      dsimp only [Pt.U, Pt.locs, Pt.cells, Pt.slots] at X69 l69 y69 z69 st69 hQ69
      subst l69 y69 z69
      obtain ⟨rfl, N69q, e69⟩ := hQ69
      have N69 := Fr.app N68 N69q
      refine own_go st69 ?_
      show own_Goes _ _ _ _ _ _ _ (T69.setTop (mkF m 75 #[.val (.int x0), .val (.int (4 : Int32))] [(.int (1 : Int32))]))
      refine own_go (fun _ ww => XS.ifNo X69.here hx rfl (hb hby at_75) rfl (own_if .eq (feq (by decide : ¬ ((1 : Int32) = (0 : Int32)))).1) ww) ?_
      show own_Goes _ _ _ _ _ _ _ (T69.setTop (mkF m 78 #[.val (.int x0), .val (.int (4 : Int32))] []))
      obtain ⟨T70, X70, e70, st70⟩ := getS X69 hx hZ hown (host := "") (hw _ (List.mem_of_getElem? (i := 27) rfl)) Via.refl e69 (Sk4.ext O0.2) (g := (mkF m 78 #[.val (.int x0), .val (.int (4 : Int32))] [])) rfl (hb hby at_78)
      refine own_go st70 ?_
      show own_Goes _ _ _ _ _ _ _ (T70.setTop (mkF m 81 #[.val (.int x0), .val (.int (4 : Int32))] [(.ref k4)]))
      refine own_go (fun _ ww => XS.iloadN X70.here hx rfl (hb hby at_81) rfl  ww) ?_
      show own_Goes _ _ _ _ _ _ _ (T70.setTop (mkF m 82 #[.val (.int x0), .val (.int (4 : Int32))] [(.int x0), (.ref k4)]))
      obtain ⟨cq71, kq71, q71a, q71b, q71c⟩ := isOf hZ e70 (Ek4.ext O0.2)
      obtain ⟨_, _, ⟨T71, L71, k71, n71⟩, -, X71, ⟨Lc71, hQ71, l71, y71, z71⟩, st71⟩ := X70.virtualBack hx (y := (⟨"com/example/esfahan/esfahan/model/Comparison", "holdsForSign", "(I)Z"⟩ : MethodName)) (z := (⟨"com/example/esfahan/esfahan/model/Comparison", "holdsForSign", "(I)Z"⟩ : MethodName)) hown (mvT hZ (hw _ (List.mem_of_getElem? (i := 3) rfl))) (mvT hZ (hw _ (List.mem_of_getElem? (i := 4) rfl))) (notFace_of_selects (args := #[]) (mvT hZ (hw _ (List.mem_of_getElem? (i := 6) rfl)))) (mvT hZ (hw _ (List.mem_of_getElem? (i := 6) rfl))) (mvT hZ (hw _ (List.mem_of_getElem? (i := 5) rfl))) (by decide) (backOf (W := 0) (rm_hold4 l Z a0 hw [] k4 x0 (1 : Int32) h0 n0 O0 (Fk4.ext O0.2) (Ek4.ext O0.2) (fun _ => rfl) (fun q => absurd (own_n4 hc20 hc39) q)) hZ (hw _ (List.mem_of_getElem? (i := 7) rfl)) (hw _ (List.mem_of_getElem? (i := 1) rfl)) (by decide) (by decide)) q71a q71c (g := (mkF m 82 #[.val (.int x0), .val (.int (4 : Int32))] [(.int x0), (.ref k4)])) rfl (by rw [hml]; rfl) (Steps.refl _) (argsL := [(.int x0)]) (rest := []) (lenOf pd_1 rfl) rfl (by show 2 * 0 + _ ≤ _; exact Nat.le_of_eq rfl) (hb hby at_82) (fun _ _ => ⟨rfl, e70, (by decide : 0 + 0 ≤ _), (by decide : 0 + 0 ≤ _)⟩)
      dsimp only [Pt.U, Pt.locs, Pt.cells, Pt.slots] at X71 l71 y71 z71 st71 hQ71
      subst l71 y71 z71
      obtain ⟨rfl, N71q, e71⟩ := hQ71
      have N71 := Fr.app N69 N71q
      refine own_go (fun _ ww => Steps.trans st71 ww) ?_
      show own_Goes _ _ _ _ _ _ _ (T71.setTop (mkF m 85 #[.val (.int x0), .val (.int (4 : Int32))] [(.int (1 : Int32))]))
      refine own_go (fun _ ww => XS.iconst X71.here hx rfl (hb hby at_85) ww) ?_
      show own_Goes _ _ _ _ _ _ _ (T71.setTop (mkF m 86 #[.val (.int x0), .val (.int (4 : Int32))] [(.int (4 : Int32)), (.int (1 : Int32))]))
      refine own_go (fun _ ww => XS.iloadN X71.here hx rfl (hb hby at_86) rfl  ww) ?_
      show own_Goes _ _ _ _ _ _ _ (T71.setTop (mkF m 87 #[.val (.int x0), .val (.int (4 : Int32))] [(.int (4 : Int32)), (.int (4 : Int32)), (.int (1 : Int32))]))
      obtain ⟨_, _, ⟨T72, L72, k72, n72⟩, -, X72, ⟨Lc72, hQ72, l72, y72, z72⟩, st72⟩ := Jvm.LawKit.callS X71 hx (y := (⟨"com/example/esfahan/esfahan/model/ComparisonHoldsForSignPinLaw", "agrees", "(ZII)Z"⟩ : MethodName)) hown (mvT hZ (hw _ (List.mem_of_getElem? (i := 17) rfl))) (mvT hZ (hw _ (List.mem_of_getElem? (i := 18) rfl))) (mvT hZ (hw _ (List.mem_of_getElem? (i := 19) rfl))) (mvT hZ (hw _ (List.mem_of_getElem? (i := 20) rfl))) (by decide) (backOf (W := 0) (rm_agrees l Z a0 hw [] (1 : Int32) (4 : Int32) (4 : Int32) h0 n0 O0 (by decide) (by decide)) hZ (hw _ (List.mem_of_getElem? (i := 20) rfl)) (hw _ (List.mem_of_getElem? (i := 19) rfl)) (by decide) (by decide)) (g := (mkF m 87 #[.val (.int x0), .val (.int (4 : Int32))] [(.int (4 : Int32)), (.int (4 : Int32)), (.int (1 : Int32))])) rfl (by rw [hml]; rfl) (argsL := [(.int (1 : Int32)), (.int (4 : Int32)), (.int (4 : Int32))]) (rest := []) (lenOf pd_2 rfl) rfl (by show 2 * 0 + _ ≤ _; exact Nat.le_of_eq rfl) (hb hby at_87) (fun _ _ => ⟨rfl, e71, (by decide : 0 + 0 ≤ _), (by decide : 0 + 0 ≤ _)⟩)
      dsimp only [Pt.U, Pt.locs, Pt.cells, Pt.slots] at X72 l72 y72 z72 st72 hQ72
      subst l72 y72 z72
      obtain ⟨rfl, N72q, e72⟩ := hQ72
      have N72 := Fr.app N71 N72q
      refine own_go st72 ?_
      show own_Goes _ _ _ _ _ _ _ (T72.setTop (mkF m 90 #[.val (.int x0), .val (.int (4 : Int32))] [(.int (1 : Int32))]))
      refine own_go (fun _ ww => XS.ifNo X72.here hx rfl (hb hby at_90) rfl (own_if .eq (feq (by decide : ¬ ((1 : Int32) = (0 : Int32)))).1) ww) ?_
      show own_Goes _ _ _ _ _ _ _ (T72.setTop (mkF m 93 #[.val (.int x0), .val (.int (4 : Int32))] []))
      obtain ⟨T73, X73, e73, st73⟩ := getS X72 hx hZ hown (host := "") (hw _ (List.mem_of_getElem? (i := 29) rfl)) Via.refl e72 (Sk5.ext O0.2) (g := (mkF m 93 #[.val (.int x0), .val (.int (4 : Int32))] [])) rfl (hb hby at_93)
      refine own_go st73 ?_
      show own_Goes _ _ _ _ _ _ _ (T73.setTop (mkF m 96 #[.val (.int x0), .val (.int (4 : Int32))] [(.ref k5)]))
      refine own_go (fun _ ww => XS.iloadN X73.here hx rfl (hb hby at_96) rfl  ww) ?_
      show own_Goes _ _ _ _ _ _ _ (T73.setTop (mkF m 97 #[.val (.int x0), .val (.int (4 : Int32))] [(.int x0), (.ref k5)]))
      obtain ⟨cq74, kq74, q74a, q74b, q74c⟩ := isOf hZ e73 (Ek5.ext O0.2)
      obtain ⟨_, _, ⟨T74, L74, k74, n74⟩, -, X74, ⟨Lc74, hQ74, l74, y74, z74⟩, st74⟩ := X73.virtualBack hx (y := (⟨"com/example/esfahan/esfahan/model/Comparison", "holdsForSign", "(I)Z"⟩ : MethodName)) (z := (⟨"com/example/esfahan/esfahan/model/Comparison", "holdsForSign", "(I)Z"⟩ : MethodName)) hown (mvT hZ (hw _ (List.mem_of_getElem? (i := 3) rfl))) (mvT hZ (hw _ (List.mem_of_getElem? (i := 4) rfl))) (notFace_of_selects (args := #[]) (mvT hZ (hw _ (List.mem_of_getElem? (i := 6) rfl)))) (mvT hZ (hw _ (List.mem_of_getElem? (i := 6) rfl))) (mvT hZ (hw _ (List.mem_of_getElem? (i := 5) rfl))) (by decide) (backOf (W := 0) (rm_hold5 l Z a0 hw [] k5 x0 (1 : Int32) h0 n0 O0 (Fk5.ext O0.2) (Ek5.ext O0.2) (fun q => absurd q hc20) (fun _ => rfl)) hZ (hw _ (List.mem_of_getElem? (i := 7) rfl)) (hw _ (List.mem_of_getElem? (i := 1) rfl)) (by decide) (by decide)) q74a q74c (g := (mkF m 97 #[.val (.int x0), .val (.int (4 : Int32))] [(.int x0), (.ref k5)])) rfl (by rw [hml]; rfl) (Steps.refl _) (argsL := [(.int x0)]) (rest := []) (lenOf pd_1 rfl) rfl (by show 2 * 0 + _ ≤ _; exact Nat.le_of_eq rfl) (hb hby at_97) (fun _ _ => ⟨rfl, e73, (by decide : 0 + 0 ≤ _), (by decide : 0 + 0 ≤ _)⟩)
      dsimp only [Pt.U, Pt.locs, Pt.cells, Pt.slots] at X74 l74 y74 z74 st74 hQ74
      subst l74 y74 z74
      obtain ⟨rfl, N74q, e74⟩ := hQ74
      have N74 := Fr.app N72 N74q
      refine own_go (fun _ ww => Steps.trans st74 ww) ?_
      show own_Goes _ _ _ _ _ _ _ (T74.setTop (mkF m 100 #[.val (.int x0), .val (.int (4 : Int32))] [(.int (1 : Int32))]))
      refine own_go (fun _ ww => XS.bipush X74.here hx rfl (hb hby at_100) ww) ?_
      show own_Goes _ _ _ _ _ _ _ (T74.setTop (mkF m 102 #[.val (.int x0), .val (.int (4 : Int32))] [(.int (6 : Int32)), (.int (1 : Int32))]))
      refine own_go (fun _ ww => XS.iloadN X74.here hx rfl (hb hby at_102) rfl  ww) ?_
      show own_Goes _ _ _ _ _ _ _ (T74.setTop (mkF m 103 #[.val (.int x0), .val (.int (4 : Int32))] [(.int (4 : Int32)), (.int (6 : Int32)), (.int (1 : Int32))]))
      obtain ⟨_, _, ⟨T75, L75, k75, n75⟩, -, X75, ⟨Lc75, hQ75, l75, y75, z75⟩, st75⟩ := Jvm.LawKit.callS X74 hx (y := (⟨"com/example/esfahan/esfahan/model/ComparisonHoldsForSignPinLaw", "agrees", "(ZII)Z"⟩ : MethodName)) hown (mvT hZ (hw _ (List.mem_of_getElem? (i := 17) rfl))) (mvT hZ (hw _ (List.mem_of_getElem? (i := 18) rfl))) (mvT hZ (hw _ (List.mem_of_getElem? (i := 19) rfl))) (mvT hZ (hw _ (List.mem_of_getElem? (i := 20) rfl))) (by decide) (backOf (W := 0) (rm_agrees l Z a0 hw [] (1 : Int32) (6 : Int32) (4 : Int32) h0 n0 O0 (by decide) (by decide)) hZ (hw _ (List.mem_of_getElem? (i := 20) rfl)) (hw _ (List.mem_of_getElem? (i := 19) rfl)) (by decide) (by decide)) (g := (mkF m 103 #[.val (.int x0), .val (.int (4 : Int32))] [(.int (4 : Int32)), (.int (6 : Int32)), (.int (1 : Int32))])) rfl (by rw [hml]; rfl) (argsL := [(.int (1 : Int32)), (.int (6 : Int32)), (.int (4 : Int32))]) (rest := []) (lenOf pd_2 rfl) rfl (by show 2 * 0 + _ ≤ _; exact Nat.le_of_eq rfl) (hb hby at_103) (fun _ _ => ⟨rfl, e74, (by decide : 0 + 0 ≤ _), (by decide : 0 + 0 ≤ _)⟩)
      dsimp only [Pt.U, Pt.locs, Pt.cells, Pt.slots] at X75 l75 y75 z75 st75 hQ75
      subst l75 y75 z75
      obtain ⟨rfl, N75q, e75⟩ := hQ75
      have N75 := Fr.app N74 N75q
      refine own_go st75 ?_
      show own_Goes _ _ _ _ _ _ _ (T75.setTop (mkF m 106 #[.val (.int x0), .val (.int (4 : Int32))] [(.int (1 : Int32))]))
      refine own_go (fun _ ww => XS.ifNo X75.here hx rfl (hb hby at_106) rfl (own_if .eq (feq (by decide : ¬ ((1 : Int32) = (0 : Int32)))).1) ww) ?_
      show own_Goes _ _ _ _ _ _ _ (T75.setTop (mkF m 109 #[.val (.int x0), .val (.int (4 : Int32))] []))
      refine own_go (fun _ ww => XS.iconst X75.here hx rfl (hb hby at_109) ww) ?_
      show own_Goes _ _ _ _ _ _ _ (T75.setTop (mkF m 110 #[.val (.int x0), .val (.int (4 : Int32))] [(.int (1 : Int32))]))
      refine own_go (fun _ ww => XS.goto X75.here hx rfl (pc0 := 110) (pc' := 114) rfl (hb hby at_110) (by decide) (by decide) ww) ?_
      show own_Goes _ _ _ _ _ _ _ (T75.setTop (mkF m 114 #[.val (.int x0), .val (.int (4 : Int32))] [(.int (1 : Int32))]))
      exact own_out X75 hlk (v := some (.int (1 : Int32))) (fun h => by rw [hret] at h; cases h) (fun fs hr => retOut X75 hx (t := .boolean) hret (by decide) (Or.inl ⟨rfl, by simp, _, rfl⟩) (hb hby at_114) hr) e75 ⟨rfl, N75⟩ (by decide) (by decide)
set_option maxRecDepth 65536 in
set_option maxHeartbeats 40000000 in
theorem comes_1 {Post : Tables → Env → Array Value → State → Outcome → State → Prop} (hpost : ∀ tb e args s v u, (limb_1_1.after args s (.returned v) u = true ∧ limb_1_2.after args s (.returned v) u = true ∧ True) → FrameEnd s (.returned v) u (Jvm.fieldLocs frame_1_writes args s ++ Jvm.arrayLocs frame_1_arrays args s ++ Jvm.staticLocs frame_1_statics s) 0 0 → Post tb e args s (.returned v) u) :
    ArmFor flags0 classFile x code maxLocals ret World_1 tables_1 room_1 Calls_1 rest_1 Pre_1 Post := by
  intro l hfl _ _ p e ha hc hk s m args below hf hA hF happ hP
  obtain ⟨hcalls, hrest, hpre⟩ := hP
  obtain ⟨-, -, -, hnamed, -, -, -, hat⟩ := (Spec.applies_iff hf).mp happ
  obtain ⟨hg, hn⟩ := and_e (Cond.before_iff.mp (show (Jvm.Cond.and given_1 narrow_1).before args s = true from hpre))
  obtain ⟨q1, q2⟩ := and_e hg
  obtain ⟨q3, q4⟩ := and_e hn
  obtain ⟨q5, q6⟩ := and_e q4
  obtain ⟨q7, q8⟩ := and_e q6
  obtain ⟨q9, q10⟩ := and_e q8
  obtain ⟨q11, q12⟩ := and_e q10
  obtain ⟨q13, q14⟩ := and_e q12
  obtain ⟨q15, q16⟩ := and_e q14
  obtain ⟨q17, q18⟩ := and_e q16
  obtain ⟨q19, q20⟩ := and_e q18
  obtain ⟨q21, q22⟩ := and_e q20
  obtain ⟨q23, q24⟩ := and_e q22
  obtain ⟨w0, rfl⟩ : ∃ w0 : Value, args = #[w0] := by
    have hs : args.size = 1 := by simpa [Cond.value, given_1] using q1
    obtain ⟨L⟩ := args
    match L, hs with
    | [w0], _ => exact ⟨w0, rfl⟩
  have hw := fun d (hd : d ∈ tables_1) => atoms_spec (ws := Jvm.Cond.code x code maxLocals ret :: tables_1) hat d (List.mem_cons_of_mem _ hd)
  have hfit : Fit s := fun {y c} hc i hi => by
    obtain ⟨ha, rfl⟩ := Array.getElem?_eq_some_iff.mp hc
    have q := List.all_eq_true.mp ((Array.all_eq_true_iff_forall_mem.mp hF) _ (Array.getElem_mem ha)) i (List.mem_range.mpr hi)
    simpa [Array.getElem?_eq_getElem hi] using q
  obtain ⟨i0, ei0⟩ := is_v q2
  obtain rfl : w0 = (.int i0) := Option.some.inj ei0
  obtain ⟨a_Comparison_EQUAL, ev_Comparison_EQUAL⟩ := exa_v q3
  have E_Comparison_EQUAL : Exa s s.heap a_Comparison_EQUAL "com/example/esfahan/esfahan/model/Comparison" := Exa.start ev_Comparison_EQUAL q3
  have S_Comparison_EQUAL : Sta s s.heap "com/example/esfahan/esfahan/model/Comparison" "EQUAL" "Lcom/example/esfahan/esfahan/model/Comparison;" (.ref a_Comparison_EQUAL) := Sta.start ev_Comparison_EQUAL (Or.inr ⟨(hw _ (List.mem_of_getElem? (i := 1) rfl)), (hw _ (List.mem_of_getElem? (i := 2) rfl))⟩)
  obtain ⟨a_Comparison_NOT_EQUAL, ev_Comparison_NOT_EQUAL⟩ := exa_v q7
  have E_Comparison_NOT_EQUAL : Exa s s.heap a_Comparison_NOT_EQUAL "com/example/esfahan/esfahan/model/Comparison" := Exa.start ev_Comparison_NOT_EQUAL q7
  have S_Comparison_NOT_EQUAL : Sta s s.heap "com/example/esfahan/esfahan/model/Comparison" "NOT_EQUAL" "Lcom/example/esfahan/esfahan/model/Comparison;" (.ref a_Comparison_NOT_EQUAL) := Sta.start ev_Comparison_NOT_EQUAL (Or.inr ⟨(hw _ (List.mem_of_getElem? (i := 1) rfl)), (hw _ (List.mem_of_getElem? (i := 22) rfl))⟩)
  obtain ⟨a_Comparison_LESS, ev_Comparison_LESS⟩ := exa_v q11
  have E_Comparison_LESS : Exa s s.heap a_Comparison_LESS "com/example/esfahan/esfahan/model/Comparison" := Exa.start ev_Comparison_LESS q11
  have S_Comparison_LESS : Sta s s.heap "com/example/esfahan/esfahan/model/Comparison" "LESS" "Lcom/example/esfahan/esfahan/model/Comparison;" (.ref a_Comparison_LESS) := Sta.start ev_Comparison_LESS (Or.inr ⟨(hw _ (List.mem_of_getElem? (i := 1) rfl)), (hw _ (List.mem_of_getElem? (i := 24) rfl))⟩)
  obtain ⟨a_Comparison_AT_MOST, ev_Comparison_AT_MOST⟩ := exa_v q15
  have E_Comparison_AT_MOST : Exa s s.heap a_Comparison_AT_MOST "com/example/esfahan/esfahan/model/Comparison" := Exa.start ev_Comparison_AT_MOST q15
  have S_Comparison_AT_MOST : Sta s s.heap "com/example/esfahan/esfahan/model/Comparison" "AT_MOST" "Lcom/example/esfahan/esfahan/model/Comparison;" (.ref a_Comparison_AT_MOST) := Sta.start ev_Comparison_AT_MOST (Or.inr ⟨(hw _ (List.mem_of_getElem? (i := 1) rfl)), (hw _ (List.mem_of_getElem? (i := 26) rfl))⟩)
  obtain ⟨a_Comparison_GREATER, ev_Comparison_GREATER⟩ := exa_v q19
  have E_Comparison_GREATER : Exa s s.heap a_Comparison_GREATER "com/example/esfahan/esfahan/model/Comparison" := Exa.start ev_Comparison_GREATER q19
  have S_Comparison_GREATER : Sta s s.heap "com/example/esfahan/esfahan/model/Comparison" "GREATER" "Lcom/example/esfahan/esfahan/model/Comparison;" (.ref a_Comparison_GREATER) := Sta.start ev_Comparison_GREATER (Or.inr ⟨(hw _ (List.mem_of_getElem? (i := 1) rfl)), (hw _ (List.mem_of_getElem? (i := 28) rfl))⟩)
  obtain ⟨a_Comparison_AT_LEAST, ev_Comparison_AT_LEAST⟩ := exa_v q23
  have E_Comparison_AT_LEAST : Exa s s.heap a_Comparison_AT_LEAST "com/example/esfahan/esfahan/model/Comparison" := Exa.start ev_Comparison_AT_LEAST q23
  have S_Comparison_AT_LEAST : Sta s s.heap "com/example/esfahan/esfahan/model/Comparison" "AT_LEAST" "Lcom/example/esfahan/esfahan/model/Comparison;" (.ref a_Comparison_AT_LEAST) := Sta.start ev_Comparison_AT_LEAST (Or.inr ⟨(hw _ (List.mem_of_getElem? (i := 1) rfl)), (hw _ (List.mem_of_getElem? (i := 30) rfl))⟩)
  have F_Comparison_EQUAL_ordinal := own_fI ev_Comparison_EQUAL q5
  have F_Comparison_NOT_EQUAL_ordinal := own_fI ev_Comparison_NOT_EQUAL q9
  have F_Comparison_LESS_ordinal := own_fI ev_Comparison_LESS q13
  have F_Comparison_AT_MOST_ordinal := own_fI ev_Comparison_AT_MOST q17
  have F_Comparison_GREATER_ordinal := own_fI ev_Comparison_GREATER q21
  have F_Comparison_AT_LEAST_ordinal := own_fI ev_Comparison_AT_LEAST q24
  obtain ⟨n, o, h1, h2, h3, _, L, rfl, ⟨rfl, N⟩, hq⟩ := rm_law l s _ hw tables_1 i0 a_Comparison_EQUAL a_Comparison_NOT_EQUAL a_Comparison_LESS a_Comparison_AT_MOST a_Comparison_GREATER a_Comparison_AT_LEAST s.heap s.heap.size (Old.start s) S_Comparison_EQUAL E_Comparison_EQUAL F_Comparison_EQUAL_ordinal S_Comparison_NOT_EQUAL E_Comparison_NOT_EQUAL F_Comparison_NOT_EQUAL_ordinal S_Comparison_LESS E_Comparison_LESS F_Comparison_LESS_ordinal S_Comparison_AT_MOST E_Comparison_AT_MOST F_Comparison_AT_MOST_ordinal S_Comparison_GREATER E_Comparison_GREATER F_Comparison_GREATER_ordinal S_Comparison_AT_LEAST E_Comparison_AT_LEAST F_Comparison_AT_LEAST_ordinal p e ha hc hk s m _ below hf ((Spec.applies_iff_loose hf).mp happ).1 ⟨rfl, State.Warmed39.refl s, rfl⟩ trivial
  refine ⟨n, _, h1, h2, h3, hpost _ _ _ _ _ _ ⟨Cond.after_iff.mpr rfl, Cond.after_iff.mpr (eq_i res_at (Term.int_eval (1)) rfl), trivial⟩ ⟨hq.1, hq.2.1, (hq.2.2.sift fun y hy => Or.inr (N y hy)).mono (by decide) (by decide)⟩⟩
theorem main_1_1 : Claimed_1_1 := comes_1 fun _ _ _ _ _ _ h hF => ⟨h.1, hF⟩
theorem main_1_2 : Claimed_1_2 := comes_1 fun _ _ _ _ _ _ h hF => ⟨h.2.1, hF⟩
end Jvm.Pilot.@@N@@
namespace Jvm.Pilot.@@N@@
open Jvm Jvm.ClassFile Sem Op Lib Jvm.Free Jvm.Stand Jvm.Pilot.@@N@@.Jvm.D
/-! MADE BY PROGRAM (witnessworld.py) out of the Statement's table words and the real class files: 12 classes; the members and pool entries that the words name. The judged class is class 1, her method 1. -/
namespace start1
open Jvm.ClassFile
def u (s : String) : CpInfo := .utf8 (stringToUtf16 s)
/-- a pool by its gaps: so many unusable entries, then the entry; so many at the end -/
def gap : Nat → List CpInfo → List CpInfo
  | 0, r => r
  | n + 1, r => .unusable :: gap n r
def poolList (es : List (Nat × CpInfo)) (last : Nat) : List CpInfo := es.foldr (fun e r => gap e.1 (e.2 :: r)) (gap last [])
def pool (es : List (Nat × CpInfo)) (last : Nat) : Array CpInfo := ⟨poolList es last⟩
def fileOf (pool : Array CpInfo) (this : Nat) (attrs : Array Attribute := #[]) (ms : Array MethodInfo := #[]) (fl : Nat := 33) (sup : Nat := 0) (ifs : Array Nat := #[]) (fds : Array FieldInfo := #[]) : ClassFile where
  minorVersion := 0
  majorVersion := 65
  constantPool := pool
  accessFlags := fl
  thisClass := this
  superClass := sup
  interfaces := ifs
  fields := fds
  methods := ms
  attributes := attrs
def plain (name : String) (sup : Option ClassId) : Class where
  name := name
  kind := .ordinary
  loader := none
  accessFlags := 33
  super := sup
  interfaces := #[]
  cf := none
  fields := #[]
  methods := #[]
  instanceTypes := #[]
  staticTypes := #[]
  resolved := #[]
  callSites := []
  init := .initialized
  statics := none
  mirror := none

def pool0 : Array CpInfo := pool [(5, u "<init>"), (0, u "()V"), (1, .class_ 10), (1, u "java/lang/Object")] 113

def k0m0 : Method := { name := "<init>", desc := "()V", sig := { parameters := [], returnType := none }, accessFlags := 1, code := none }
/-- java/lang/Object -/
def k0 : Class := { plain "java/lang/Object" none with
  accessFlags := 33
  interfaces := #[]
  cf := some (fileOf pool0 8 #[] #[{ accessFlags := 1, nameIndex := 5, descriptorIndex := 6, attributes := #[] }] 33 0 #[] #[])
  fields := #[]
  methods := #[k0m0]
  instanceTypes := #[]
  staticTypes := #[]
  resolved := Array.replicate 124 none
  statics := none }

def pool1 : Array CpInfo := pool [(2, .class_ 4), (1, u "java/lang/Object"), (0, u "<init>"), (0, u "()V"), (0, .fieldref 8 9), (0, .class_ 10), (0, .nameAndType 11 12), (0, u "com/example/esfahan/esfahan/model/Comparison"), (0, u "EQUAL"), (0, u "Lcom/example/esfahan/esfahan/model/Comparison;"), (0, .methodref 8 14), (0, .nameAndType 15 16), (0, u "holdsForSign"), (0, u "(I)Z"), (0, .methodref 18 19), (0, .class_ 20), (0, .nameAndType 21 22), (0, u "com/example/esfahan/esfahan/model/ComparisonHoldsForSignPinLaw"), (0, u "agrees"), (0, u "(ZII)Z"), (0, .fieldref 8 24), (0, .nameAndType 25 12), (0, u "NOT_EQUAL"), (0, .fieldref 8 27), (0, .nameAndType 28 12), (0, u "LESS"), (0, .fieldref 8 30), (0, .nameAndType 31 12), (0, u "AT_MOST"), (0, .fieldref 8 33), (0, .nameAndType 34 12), (0, u "GREATER"), (0, .fieldref 8 36), (0, .nameAndType 37 12), (0, u "AT_LEAST"), (2, u "law")] 3

def k1m0 : Method := { name := "<init>", desc := "()V", sig := { parameters := [], returnType := none }, accessFlags := 1, code := none }
def k1c1 : Code := { maxStack := 3, maxLocals := 2, code := code, exceptionTable := #[], attributes := #[] }
def k1m1 : Method := { name := "law", desc := "(I)Z", sig := { parameters := [.int], returnType := some .boolean }, accessFlags := 9, code := some k1c1 }
def k1c2 : Code := { maxStack := 3, maxLocals := 3, code := method_3_code, exceptionTable := #[], attributes := #[] }
def k1m2 : Method := { name := "agrees", desc := "(ZII)Z", sig := { parameters := [.boolean, .int, .int], returnType := some .boolean }, accessFlags := 10, code := some k1c2 }
/-- com/example/esfahan/esfahan/model/ComparisonHoldsForSignPinLaw -/
def k1 : Class := { plain "com/example/esfahan/esfahan/model/ComparisonHoldsForSignPinLaw" (some 0) with
  accessFlags := 49
  interfaces := #[]
  cf := some (fileOf pool1 18 #[] #[{ accessFlags := 1, nameIndex := 5, descriptorIndex := 6, attributes := #[] }, { accessFlags := 9, nameIndex := 40, descriptorIndex := 16, attributes := #[] }, { accessFlags := 10, nameIndex := 21, descriptorIndex := 22, attributes := #[] }] 49 2 #[] #[])
  fields := #[]
  methods := #[k1m0, k1m1, k1m2]
  instanceTypes := #[]
  staticTypes := #[]
  resolved := Array.replicate 44 none
  statics := none }

def pool2 : Array CpInfo := pool [(1, .class_ 2), (0, u "java/lang/constant/Constable"), (0, .class_ 4), (0, u "java/lang/Object")] 6

/-- java/lang/constant/Constable -/
def k2 : Class := { plain "java/lang/constant/Constable" (some 0) with
  accessFlags := 1537
  interfaces := #[]
  cf := some (fileOf pool2 1 #[] #[] 1537 3 #[] #[])
  fields := #[]
  methods := #[]
  instanceTypes := #[]
  staticTypes := #[]
  resolved := Array.replicate 11 none
  statics := none }

def pool3 : Array CpInfo := pool [(1, .class_ 2), (0, u "java/lang/Comparable"), (0, .class_ 4), (0, u "java/lang/Object")] 7

/-- java/lang/Comparable -/
def k3 : Class := { plain "java/lang/Comparable" (some 0) with
  accessFlags := 1537
  interfaces := #[]
  cf := some (fileOf pool3 1 #[] #[] 1537 3 #[] #[])
  fields := #[]
  methods := #[]
  instanceTypes := #[]
  staticTypes := #[]
  resolved := Array.replicate 12 none
  statics := none }

def pool4 : Array CpInfo := pool [(1, .class_ 2), (0, u "java/io/Serializable"), (0, .class_ 4), (0, u "java/lang/Object")] 2

/-- java/io/Serializable -/
def k4 : Class := { plain "java/io/Serializable" (some 0) with
  accessFlags := 1537
  interfaces := #[]
  cf := some (fileOf pool4 1 #[] #[] 1537 3 #[] #[])
  fields := #[]
  methods := #[]
  instanceTypes := #[]
  staticTypes := #[]
  resolved := Array.replicate 7 none
  statics := none }

def pool5 : Array CpInfo := pool [(2, .class_ 4), (1, u "java/lang/Enum"), (0, u "name"), (0, u "Ljava/lang/String;"), (0, .fieldref 2 8), (0, .nameAndType 9 10), (0, u "ordinal"), (0, u "I"), (1, .class_ 14), (1, u "java/lang/Object"), (4, u "hash"), (86, .class_ 108), (1, u "java/lang/Enum$EnumDesc"), (2, .class_ 112), (0, u "java/lang/constant/Constable"), (0, .class_ 114), (0, u "java/lang/Comparable"), (0, .class_ 116), (0, u "java/io/Serializable"), (9, u "()I")] 77

def k5c0 : Code := { maxStack := 1, maxLocals := 1, code := jdk_37_method_2_code, exceptionTable := #[], attributes := #[] }
def k5m0 : Method := { name := "ordinal", desc := "()I", sig := { parameters := [], returnType := some .int }, accessFlags := 17, code := some k5c0 }
/-- java/lang/Enum -/
def k5 : Class := { plain "java/lang/Enum" (some 0) with
  accessFlags := 1057
  interfaces := #[2, 3, 4]
  cf := some (fileOf pool5 2 #[.nestMembers #[106]] #[{ accessFlags := 17, nameIndex := 9, descriptorIndex := 126, attributes := #[] }] 1057 12 #[111, 113, 115] #[{ accessFlags := 18, nameIndex := 5, descriptorIndex := 6, attributes := #[] }, { accessFlags := 18, nameIndex := 9, descriptorIndex := 10, attributes := #[] }, { accessFlags := 2, nameIndex := 19, descriptorIndex := 10, attributes := #[] }])
  fields := #[{ name := "name", type := (.object "java/lang/String"), accessFlags := 18, slot := 0, constantValue := 0 }, { name := "ordinal", type := .int, accessFlags := 18, slot := 1, constantValue := 0 }, { name := "hash", type := .int, accessFlags := 2, slot := 2, constantValue := 0 }]
  methods := #[k5m0]
  instanceTypes := #[(.object "java/lang/String"), .int, .int]
  staticTypes := #[]
  resolved := Array.replicate 204 none
  statics := none }

def pool6 : Array CpInfo := pool [(1, .class_ 2), (0, u "com/example/esfahan/esfahan/model/Comparison"), (2, u "EQUAL"), (0, u "Lcom/example/esfahan/esfahan/model/Comparison;"), (2, u "NOT_EQUAL"), (2, u "LESS"), (2, u "AT_MOST"), (2, u "GREATER"), (2, u "AT_LEAST"), (2, u "$VALUES"), (0, u "[Lcom/example/esfahan/esfahan/model/Comparison;"), (6, .class_ 34), (1, u "java/lang/Enum"), (8, u "symbol"), (0, u "Ljava/lang/String;"), (41, u "holdsForSign"), (0, u "(I)Z"), (13, .methodref 1 102), (0, .nameAndType 103 104), (0, u "ordinal"), (0, u "()I")] 63

def k6c0 : Code := { maxStack := 4, maxLocals := 2, code := prog_47_method_10_code, exceptionTable := #[], attributes := #[] }
def k6m0 : Method := { name := "holdsForSign", desc := "(I)Z", sig := { parameters := [.int], returnType := some .boolean }, accessFlags := 1, code := some k6c0 }
/-- com/example/esfahan/esfahan/model/Comparison -/
def k6 : Class := { plain "com/example/esfahan/esfahan/model/Comparison" (some 5) with
  accessFlags := 16433
  interfaces := #[]
  cf := some (fileOf pool6 1 #[] #[{ accessFlags := 1, nameIndex := 86, descriptorIndex := 87, attributes := #[] }] 16433 32 #[] #[{ accessFlags := 16409, nameIndex := 5, descriptorIndex := 6, attributes := #[] }, { accessFlags := 16409, nameIndex := 9, descriptorIndex := 6, attributes := #[] }, { accessFlags := 16409, nameIndex := 12, descriptorIndex := 6, attributes := #[] }, { accessFlags := 16409, nameIndex := 15, descriptorIndex := 6, attributes := #[] }, { accessFlags := 16409, nameIndex := 18, descriptorIndex := 6, attributes := #[] }, { accessFlags := 16409, nameIndex := 21, descriptorIndex := 6, attributes := #[] }, { accessFlags := 18, nameIndex := 43, descriptorIndex := 44, attributes := #[] }, { accessFlags := 4122, nameIndex := 24, descriptorIndex := 25, attributes := #[] }])
  fields := #[{ name := "EQUAL", type := (.object "com/example/esfahan/esfahan/model/Comparison"), accessFlags := 16409, slot := 0, constantValue := 0 }, { name := "NOT_EQUAL", type := (.object "com/example/esfahan/esfahan/model/Comparison"), accessFlags := 16409, slot := 1, constantValue := 0 }, { name := "LESS", type := (.object "com/example/esfahan/esfahan/model/Comparison"), accessFlags := 16409, slot := 2, constantValue := 0 }, { name := "AT_MOST", type := (.object "com/example/esfahan/esfahan/model/Comparison"), accessFlags := 16409, slot := 3, constantValue := 0 }, { name := "GREATER", type := (.object "com/example/esfahan/esfahan/model/Comparison"), accessFlags := 16409, slot := 4, constantValue := 0 }, { name := "AT_LEAST", type := (.object "com/example/esfahan/esfahan/model/Comparison"), accessFlags := 16409, slot := 5, constantValue := 0 }, { name := "symbol", type := (.object "java/lang/String"), accessFlags := 18, slot := 3, constantValue := 0 }, { name := "$VALUES", type := (.array (.object "com/example/esfahan/esfahan/model/Comparison")), accessFlags := 4122, slot := 6, constantValue := 0 }]
  methods := #[k6m0]
  instanceTypes := #[(.object "java/lang/String"), .int, .int, (.object "java/lang/String")]
  staticTypes := #[(.object "com/example/esfahan/esfahan/model/Comparison"), (.object "com/example/esfahan/esfahan/model/Comparison"), (.object "com/example/esfahan/esfahan/model/Comparison"), (.object "com/example/esfahan/esfahan/model/Comparison"), (.object "com/example/esfahan/esfahan/model/Comparison"), (.object "com/example/esfahan/esfahan/model/Comparison"), (.array (.object "com/example/esfahan/esfahan/model/Comparison"))]
  resolved := Array.replicate 168 none
  statics := some 0 }

def pool7 : Array CpInfo := pool [(1, u "java/lang/Cloneable"), (0, .class_ 1), (0, u "java/lang/Object"), (0, .class_ 3)] 3

/-- java/lang/Cloneable -/
def k7 : Class := { plain "java/lang/Cloneable" (some 0) with
  accessFlags := 1537
  interfaces := #[]
  cf := some (fileOf pool7 2 #[] #[] 1537 4 #[] #[])
  fields := #[]
  methods := #[]
  instanceTypes := #[]
  staticTypes := #[]
  resolved := Array.replicate 8 none
  statics := none }

/-- the primitive byte -/
def k8 : Class := { plain "byte" none with kind := .primitive 'B', accessFlags := 0x411 }
/-- [B -/
def k9 : Class := { plain "[B" (some 0) with kind := .array 8 .byte, interfaces := #[7, 4], accessFlags := 1041 }

/-- the primitive int -/
def k10 : Class := { plain "int" none with kind := .primitive 'I', accessFlags := 0x411 }
/-- [I -/
def k11 : Class := { plain "[I" (some 0) with kind := .array 10 .int, interfaces := #[7, 4], accessFlags := 1041 }

def heap : Heap := #[{ cls := 6, slots := #[.ref 1, .ref 2, .ref 3, .ref 4, .ref 5, .ref 6, .null], vm := .statics 6 },
  { cls := 6, slots := #[.null, .int 0, .int 0, .null], vm := .none },
  { cls := 6, slots := #[.null, .int 1, .int 0, .null], vm := .none },
  { cls := 6, slots := #[.null, .int 2, .int 0, .null], vm := .none },
  { cls := 6, slots := #[.null, .int 3, .int 0, .null], vm := .none },
  { cls := 6, slots := #[.null, .int 4, .int 0, .null], vm := .none },
  { cls := 6, slots := #[.null, .int 5, .int 0, .null], vm := .none }]
def classes : Array Class := #[k0, k1, k2, k3, k4, k5, k6, k7, k8, k9, k10, k11]
def interned : List (Array UInt16 × Addr) := []
def slotsUsed : Nat := 31
def theMethod : MethodId := ⟨1, 1⟩
def args0 : Array Value := #[.int 5]
def aboutOver (below : List Frame) : State where
  vm := { classes := classes, interned := interned.toArray }
  heap := heap
  slotsUsed := slotsUsed
  threads := #[{ frames := .invoking theMethod args0 :: below }]
def below0 : List Frame := [.native { method := ⟨0, 0⟩, args := #[] }]
def about1 : State := aboutOver below0
def p0 : Program := .bare "" "" ""
def e0 : Env := launch0.env 0 0 0
theorem w_frames : about1.frames = Frame.invoking theMethod args0 :: below0 := rfl
set_option maxRecDepth 65536 in
theorem w_args : argsFit about1.vm theMethod args0 = true := by decide +kernel
set_option maxRecDepth 65536 in
theorem w_heap : heapFits about1 = true := by decide +kernel
set_option maxRecDepth 65536 in
theorem w_runnable : about1.curStatus? = some .runnable := by decide +kernel
set_option maxRecDepth 65536 in
theorem w_alone : about1.alone = true := by decide +kernel
set_option maxRecDepth 65536 in
theorem w_named : about1.methodNamed? x = some theMethod := by decide +kernel
set_option maxRecDepth 65536 in
theorem w_hears : about1.hears theMethod below0 = true := by decide +kernel
set_option maxRecDepth 65536 in
theorem w_ripe : about1.ripe theMethod args0 below0 = true := by decide +kernel
theorem w_running : about1.status = .running := rfl
set_option maxRecDepth 65536 in
theorem w_room : about1.hasRoom e0.platform room_1 = true :=
  launch0.hasRoom_least _ room_1 (by decide +kernel) (by decide +kernel) (by decide +kernel) (by decide +kernel) (by decide +kernel) (by decide +kernel)
theorem allAtoms_all (ts : List Jvm.Cond) (a : Array Jvm.Value) (st : Jvm.State) : (allAtoms ts).before a st = ts.all (fun c => c.before a st) := by
  induction ts with
  | nil => rfl
  | cons c t ih =>
    show (Jvm.Cond.and c (allAtoms t)).before a st = _
    rw [Jvm.Cond.before_and, ih, List.all_cons]
def words1 : List Jvm.Cond := Jvm.Cond.code x code maxLocals ret :: tables_1
/-- a 'code' word, met by the world's own term for the bytes: nothing is compared byte by byte -/
theorem code_word {y : MethodName} {bytes : ByteArray} {mx : Nat} {rt : Option FieldType} {a : Array Value} {s : State} {m : MethodId} {meth : Method} {c : Code} (h1 : s.methodNamed? y = some m) (h2 : s.vm.method? m = some meth) (h3 : meth.code = some c) (h4 : c.code = bytes)
    (h5 : (c.maxLocals == mx && c.exceptionTable.isEmpty && decide (c.maxStack ≤ mostOperands) && decide (meth.sig.returnType = rt) && !meth.locks && decide (parseMethodDescriptor y.desc = some meth.sig)) = true) : (Jvm.Cond.code y bytes mx rt).before a s = true := by
  simp only [Bool.and_eq_true, beq_iff_eq, Bool.not_eq_true', decide_eq_true_eq] at h5
  obtain ⟨⟨⟨⟨⟨g1, g2⟩, g3⟩, g4⟩, g5⟩, g6⟩ := h5
  simp [Cond.before, Cond.holds, Cond.value, h1, h2, h3, h4, g1, g2, g3, g4, g5, g6]
def isCode : Jvm.Cond → Bool
  | .code _ _ _ _ => true
  | _ => false
theorem all_split {L : List Jvm.Cond} {P : Jvm.Cond → Bool} (h1 : L.all (fun c => isCode c || P c) = true) (h2 : ∀ c ∈ L.filter isCode, P c = true) : L.all P = true := by
  refine List.all_eq_true.mpr fun c hc => ?_
  have h := List.all_eq_true.mp h1 c hc
  rcases Bool.eq_false_or_eq_true (isCode c) with hi | hi
  · exact h2 c (List.mem_filter.mpr ⟨hc, hi⟩)
  · simpa [hi] using h
set_option maxRecDepth 65536 in
theorem w_c0 : (Jvm.Cond.code x code maxLocals ret).before args0 about1 = true := code_word (m := ⟨1, 1⟩) (meth := k1m1) (c := k1c1) (by decide +kernel) rfl rfl rfl (by decide +kernel)
set_option maxRecDepth 65536 in
theorem w_c1 : (Jvm.Cond.code ({ cls := "com/example/esfahan/esfahan/model/Comparison", name := "holdsForSign", desc := "(I)Z" } : Jvm.MethodName) prog_47_method_10_code (2 : Nat) (Option.some Jvm.ClassFile.FieldType.boolean)).before args0 about1 = true := code_word (m := ⟨6, 0⟩) (meth := k6m0) (c := k6c0) (by decide +kernel) rfl rfl rfl (by decide +kernel)
set_option maxRecDepth 65536 in
theorem w_c2 : (Jvm.Cond.code ({ cls := "java/lang/Enum", name := "ordinal", desc := "()I" } : Jvm.MethodName) jdk_37_method_2_code (1 : Nat) (Option.some Jvm.ClassFile.FieldType.int)).before args0 about1 = true := code_word (m := ⟨5, 0⟩) (meth := k5m0) (c := k5c0) (by decide +kernel) rfl rfl rfl (by decide +kernel)
set_option maxRecDepth 65536 in
theorem w_c3 : (Jvm.Cond.code ({ cls := "com/example/esfahan/esfahan/model/ComparisonHoldsForSignPinLaw", name := "agrees", desc := "(ZII)Z" } : Jvm.MethodName) method_3_code (3 : Nat) (Option.some Jvm.ClassFile.FieldType.boolean)).before args0 about1 = true := code_word (m := ⟨1, 2⟩) (meth := k1m2) (c := k1c2) (by decide +kernel) rfl rfl rfl (by decide +kernel)
def codes1 : List Jvm.Cond := [Jvm.Cond.code x code maxLocals ret, Jvm.Cond.code ({ cls := "com/example/esfahan/esfahan/model/Comparison", name := "holdsForSign", desc := "(I)Z" } : Jvm.MethodName) prog_47_method_10_code (2 : Nat) (Option.some Jvm.ClassFile.FieldType.boolean), Jvm.Cond.code ({ cls := "java/lang/Enum", name := "ordinal", desc := "()I" } : Jvm.MethodName) jdk_37_method_2_code (1 : Nat) (Option.some Jvm.ClassFile.FieldType.int), Jvm.Cond.code ({ cls := "com/example/esfahan/esfahan/model/ComparisonHoldsForSignPinLaw", name := "agrees", desc := "(ZII)Z" } : Jvm.MethodName) method_3_code (3 : Nat) (Option.some Jvm.ClassFile.FieldType.boolean)]
set_option maxRecDepth 65536 in
theorem codes_eq : words1.filter isCode = codes1 := rfl
theorem w_codes : ∀ c ∈ words1.filter isCode, c.before args0 about1 = true := by
  rw [codes_eq]
  intro c hc
  simp only [codes1, List.mem_cons, List.not_mem_nil, or_false] at hc
  rcases hc with rfl | rfl | rfl | rfl
  · exact w_c0
  · exact w_c1
  · exact w_c2
  · exact w_c3
set_option maxRecDepth 65536 in
theorem w_t1 : (words1.take 24).all (fun c => isCode c || c.before args0 about1) = true := by decide +kernel
set_option maxRecDepth 65536 in
theorem w_t2 : (words1.drop 24).all (fun c => isCode c || c.before args0 about1) = true := by decide +kernel
theorem w_tables : (allAtoms (Jvm.Cond.code x code maxLocals ret :: tables_1)).before args0 about1 = true := by
  rw [allAtoms_all]
  show words1.all (fun c => c.before args0 about1) = true
  refine all_split ?_ w_codes
  rw [← List.take_append_drop 24 words1, List.all_append, w_t1, w_t2]
  rfl
set_option maxRecDepth 65536 in
theorem w_case : (Jvm.Cond.and given_1 narrow_1).before args0 about1 = true := by decide +kernel
theorem w_applies : (headSpec (Jvm.Cond.code x code maxLocals ret :: tables_1) room_1).applies x e0.platform about1 = true :=
  (Spec.applies_iff w_frames).mpr ⟨w_running, w_runnable, w_alone, w_named, w_hears, w_ripe, w_room, w_tables⟩
theorem atStart : AtStart classFile x code maxLocals ret World_1 tables_1 room_1 Calls_1 rest_1 Pre_1 launch0 p0 e0 about1 theMethod args0 below0 :=
  ⟨lists_1, trivial, launch0.admits_env _ _ _, launch0.least_env, fairChoices_fair.cas, fairChoices_fair.clock, w_frames, w_args, w_heap, w_applies, trivial, trivial, w_case⟩
end start1
theorem witness_1 : WitnessClaimed_1 := ⟨start1.p0, start1.e0, start1.about1, start1.theMethod, start1.args0, start1.below0, start1.atStart⟩
end Jvm.Pilot.@@N@@
