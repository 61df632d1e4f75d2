import JvmDerived
import JvmDerived.Pilot.@@N@@Statement
import JvmDerived.Pilot.@@N@@Code
set_option linter.unusedVariables false
set_option linter.unusedSimpArgs false
namespace Jvm.Pilot.@@N@@
open Jvm Jvm.ClassFile Sem Op Lib Jvm.Free Jvm.Stand Jvm.LawKit Jvm.RoadKit Bundle Jvm.Pilot.@@N@@.Jvm.D
theorem own_lt {x y : Int32} (h : x < y) : if_icmp.holds .lt x y = true ∧ if_icmp.holds .ge x y = false := by simp [if_icmp.holds, h, Int32.not_le.mpr h]
def own_Goes (p : Program) (e : Env) (below : List Frame) (s : State) (Q : Option Value → Heap → List Loc → Prop) (kc ks : Nat) (U : State) : Prop :=
  ∃ t o, Steps p.tables e below U t ∧ t.status = .running ∧ Ended t below o ∧ ∃ v L, o = .returned v ∧ Q v t.heap L ∧ FrameEnd s o t L kc ks
theorem own_go {p : Program} {e : Env} {below : List Frame} {s : State} {Q : Option Value → Heap → List Loc → Prop} {kc ks : Nat} {U V : State} (h : ∀ t, Steps p.tables e below V t → Steps p.tables e below U t) (g : own_Goes p e below s Q kc ks V) : own_Goes p e below s Q kc ks U := by
  obtain ⟨t, o, h1, r⟩ := g
  exact ⟨t, o, h t h1, r⟩
theorem own_out {p : Program} {l : Launch} {e : Env} {R : Room} {s : State} {m : MethodId} {args : Array Value} {below : List Frame} {meth : Method} {c : Code} {T : State} {locs : List Loc} {cells slots : Nat} {h : Heap} {Q : Option Value → Heap → List Loc → Prop} {kc ks : Nat} {U : State} {v : Option Value}
    (X : Stand p l e R s m args below meth c T locs cells slots) (hlk : meth.locks = false) (hv : meth.sig.returnType = none → v = none)
    (hs : ∀ fs, (∀ (f : JFrame) (acts : List Action), f.method = m → f.locked = none → f.entered = [] → (doReturn e (T.setTop f) acts v).1 = T.setFrames fs) → Steps p.tables e below U (T.setFrames fs))
    (eT : T.heap = h) (hQ : Q v h locs) (hc : cells ≤ kc) (hsl : slots ≤ ks) : own_Goes p e below s Q kc ks U := by
  obtain ⟨fs, hr, hrun, hended, hW, hsame⟩ := X.leave hv hlk
  subst eT
  exact ⟨_, _, hs fs hr, hrun, hended, _, _, rfl, hQ, ⟨_, rfl⟩, hW, hsame.mono hc hsl⟩
theorem own_ks {h0 h : Heap} {ws : List Addr} (K : Keep h0 h ws) : h0.size ≤ h.size := K.1
theorem own_cmpL (x : Int64) : XT.cmpL x x = 0 := by simp [XT.cmpL]
theorem own_vne {a b : Int32} (h : a ≠ b) : Value.int a ≠ .int b := fun q => h (Value.int.inj q)
theorem own_nn (x : Int32) : ¬ (x &&& 2147483647) < 0 := fun h => absurd ((XT.and_neg32 x 2147483647).mp h).2 (by decide)
theorem own_lk {p : Program} {l : Launch} {x : MethodName} {S : Spec} {code : ByteArray} {maxLocals : Nat} {ret : Option FieldType} {e : Env} {s : State} {m : MethodId} {args : Array Value} {below : List Frame} {meth : Method} {c : Code} {s₁ : State} (B : BodyLoose p l x S code maxLocals ret e s m args below meth c s₁) : meth.locks = false := B.notSynchronized
theorem own_if (cd : ClassFile.Cond) {x : Int32} {b : Bool} (h : if_icmp.holds cd x 0 = b) : ifCond.holds cd x = b := by rw [if0]; exact h
theorem own_aeq {a b : Addr} (h : a = b) : XT.acmp .eq (.ref a) (.ref b) = true ∧ XT.acmp .ne (.ref a) (.ref b) = false := by subst h; exact ⟨XT.aa_eq_t rfl, XT.aa_ne_f rfl⟩
theorem own_ane {a b : Addr} (h : ¬ a = b) : XT.acmp .eq (.ref a) (.ref b) = false ∧ XT.acmp .ne (.ref a) (.ref b) = true := ⟨XT.aa_eq_f (fun q => h (Value.ref.inj q)), XT.aa_ne_t (fun q => h (Value.ref.inj q))⟩
theorem own_eqI {args : Array Value} {s : State} {u : Term} {k : Int32} (h : (Jvm.Cond.eq u (.int k)).value args s none s [] = some true) : u.eval args s none [] s = some (.int k) := by
  simp only [Jvm.Cond.value] at h
  cases hf : u.eval args s none [] s with
  | none => simp [hf] at h
  | some v => cases v <;> simp [hf, Term.eval] at h; subst h; rfl
theorem own_eqJ {args : Array Value} {s : State} {u : Term} {k : Int64} (h : (Jvm.Cond.eq u (.long k)).value args s none s [] = some true) : u.eval args s none [] s = some (.long k) := by
  simp only [Jvm.Cond.value] at h
  cases hf : u.eval args s none [] s with
  | none => simp [hf] at h
  | some v => cases v <;> simp [hf, Term.eval] at h; subst h; rfl
theorem own_cl_gt (x y : Int64) : 0 < XT.cmpL x y ↔ y < x := by
  unfold XT.cmpL
  by_cases h : y < x
  · simp [h]
  · by_cases g : x = y
    · subst g; simp [h]
    · simp [h, g]
theorem own_cl_lt (x y : Int64) : XT.cmpL x y < 0 ↔ x < y := by
  unfold XT.cmpL
  by_cases h : y < x
  · have : ¬ x < y := fun q => by rw [Int64.lt_iff_toInt_lt] at h q; omega
    simp [h, this]
  · by_cases g : x = y
    · subst g; simp [h]
    · have : x < y := by
        rw [Int64.lt_iff_toInt_lt] at h ⊢
        have ne : x.toInt ≠ y.toInt := fun q => g (Int64.toInt_inj.mp q)
        omega
      simp [h, g, this]
theorem own_privateBack {p : Program} {l : Launch} {e : Env} {R : Room} {s : State} {m : MethodId} {args : Array Value} {below : List Frame} {meth : Method} {c : Code} {T : State} {locs : List Loc} {cells slots : Nat}
    (X : Stand p l e R s m args below meth c T locs cells slots) (hexec : p.tables.exec = Jvm.exec) {own : String} {index k : Nat} {y : MethodName} {bytes : ByteArray} {maxL : Nat} {ret : Option FieldType}
    (hown : s.vm.findClass own = some m.cls) (hlink : (Jvm.Cond.methodLink own index y).before args s = true) (hinst : (Jvm.Cond.instanceMethod y).before args s = true) (hmk : (Jvm.Cond.instantiable y.cls k).before args s = true)
    (hpriv : s.PrivateAt y) (hcode : (Jvm.Cond.code y bytes maxL ret).before args s = true) (hy : y.cls ≠ "java/lang/invoke/MethodHandle" ∧ y.cls ≠ "java/lang/invoke/VarHandle")
    {W : Nat} {Pre : Free.Pt → Array Value → Prop} {Post : Free.Pt → Array Value → Option Value → Free.Pt → Prop} (hK : Free.Back l R p e below s args y 3 W Pre Post)
    {g : JFrame} (hg : g.method = m) (hsize : g.locals.size = c.maxLocals) {s₀ : State} (hcome : Steps p.tables e below s₀ (T.setTop g)) {a : Addr} {cell : Cell} (hcell : T.heap[a]? = some cell) (hobj : ∀ q, cell.vm ≠ .statics q)
    {argsL rest : List Value} (hlen : ∀ sig, parseMethodDescriptor y.desc = some sig → argsL.length = sig.parameters.length)
    (hstack : g.stack = argsL.reverse ++ .ref a :: rest) (hW : 2 * g.monitorRoom + (rest.map fun v => v.category).sum ≤ W) (hdg : decode c.code g.pc = .ok (.invokevirtual index, 3))
    (hpre : ∀ vm₁, s.WarmedH vm₁ → Pre ⟨T.setVm vm₁, locs, cells, slots⟩ (.ref a :: argsL).toArray) :
    ∃ (v : Option Value) (vm₁ : Vm) (B : Free.Pt), s.WarmedH vm₁ ∧ Stand p l e R s m args below meth c B.U B.locs B.cells B.slots ∧ Post ⟨T.setVm vm₁, locs, cells, slots⟩ (.ref a :: argsL).toArray v B ∧
      Steps p.tables e below s₀ (B.U.setTop { g with pc := g.pc + 3, stack := v.toList ++ rest }) := by
  obtain ⟨mk, r, named, found, inst, abs⟩ := Cond.instanceMethod_spec hinst
  obtain ⟨r', cM, found', -, -, -, -, -, -, sig⟩ := Cond.code_spec named hcode
  cases found.symm.trans found'
  obtain ⟨cC, kC, k1, k2, -, k4, -⟩ := Cond.instantiable_spec hmk
  cases (findClass_of_methodNamed named).symm.trans k1
  have face : kC.isInterface = false := (Bool.or_eq_false_iff.mp k4).1
  have sel : selectMethod e.platform s.vm cell.cls mk = .method mk := selectMethod_private found (hpriv mk r named found)
  obtain ⟨vm₁, X₁, go⟩ := X.invokevirtual hexec hown hlink named found inst k2 face hy (a := a) (cell := cell) hcell hobj sel found abs k2 face (g := g) hg (argsL := argsL) (rest := rest) (hlen _ sig) hstack hdg
  obtain ⟨v, B, X', post, back⟩ := hK m meth c ⟨T.setVm vm₁, locs, cells, slots⟩ { g with stack := rest } (.invokevirtual index) mk (.ref a :: argsL).toArray X₁ hg hsize hdg hW (X₁.named named) (hpre vm₁ X₁.warmed)
  exact ⟨v, vm₁, B, X₁.warmed, X', post, (hcome.trans (go _ fun acts => by rw [doInvoke_state]; exact Steps.refl _)).trans back⟩
theorem own_fitR {C : String} {v : Value} (h : v.isRef = true) : fits (.object C) v = true := by rcases ref_cases h with rfl | ⟨a, rfl⟩ <;> rfl
theorem own_fI {args : Array Value} {s : State} {t : Term} {a : Addr} {O n d : String} {k : Int32} (ev : t.eval args s none [] s = some (.ref a)) (h : (Jvm.Cond.eq (.field t O n d) (.int k)).value args s none s [] = some true) : Fld s s.heap a O n d (.int k) := by
  refine Fld.start ?_
  simp only [Jvm.Cond.value, fld_at ev] at h
  cases hf : s.fieldOf? a O n d with
  | none => simp [hf] at h
  | some v => cases v <;> simp [hf, Term.eval] at h; subst h; rfl
theorem own_fJ {args : Array Value} {s : State} {t : Term} {a : Addr} {O n d : String} {k : Int64} (ev : t.eval args s none [] s = some (.ref a)) (h : (Jvm.Cond.eq (.field t O n d) (.long k)).value args s none s [] = some true) : Fld s s.heap a O n d (.long k) := by
  refine Fld.start ?_
  simp only [Jvm.Cond.value, fld_at ev] at h
  cases hf : s.fieldOf? a O n d with
  | none => simp [hf] at h
  | some v => cases v <;> simp [hf, Term.eval] at h; subst h; rfl
theorem own_fN {args : Array Value} {s : State} {t : Term} {a : Addr} {O n d : String} (ev : t.eval args s none [] s = some (.ref a)) (h : (Jvm.Cond.eq (.field t O n d) .null).value args s none s [] = some true) : Fld s s.heap a O n d .null := Fld.start ((fld_at ev).symm.trans (null_v h))
theorem pn_0 : plainName "com/example/role_rights/rolerights/scenario/ScenarioClock" = true := by first | (simp [plainName, overriddenIn]; done) | decide +kernel
theorem pn_1 : plainName "java/time/Instant" = true := by first | (simp [plainName, overriddenIn]; done) | decide +kernel
theorem pn_2 : plainName "com/example/role_rights/rolerights/scenario/ScenarioClockAdvancePinLaw" = true := by first | (simp [plainName, overriddenIn]; done) | decide +kernel
theorem pd_0 : parseMethodDescriptor "(JI)V" = some ⟨[.long, .int], none⟩ := by decide +kernel
theorem pd_1 : parseMethodDescriptor "(JI)Ljava/time/Instant;" = some ⟨[.long, .int], some (.object "java/time/Instant")⟩ := by decide +kernel
theorem pd_2 : parseMethodDescriptor "(J)Ljava/time/Instant;" = some ⟨[.long], some (.object "java/time/Instant")⟩ := by decide +kernel
theorem pd_3 : parseMethodDescriptor "()Ljava/time/Instant;" = some ⟨[], some (.object "java/time/Instant")⟩ := by decide +kernel
theorem pd_4 : parseMethodDescriptor "()J" = some ⟨[], some .long⟩ := by decide +kernel
theorem pd_5 : parseMethodDescriptor "()V" = some ⟨[], none⟩ := by decide +kernel
theorem pd_6 : parseMethodDescriptor "(Lcom/example/role_rights/rolerights/scenario/ScenarioClock;)J" = some ⟨[(.object "com/example/role_rights/rolerights/scenario/ScenarioClock")], some .long⟩ := by decide +kernel
theorem pd_7 : parseMethodDescriptor "(I)V" = some ⟨[.int], none⟩ := by decide +kernel
theorem own_cl_eq {x y : Int64} (h : XT.cmpL x y = 0) : x = y := by
  unfold XT.cmpL at h
  by_cases g : y < x
  · simp [g] at h
  · by_cases k : x = y
    · exact k
    · simp [g, k] at h
theorem own_or0 (x : Int64) : x ||| ((0 : Int32).toInt64) = x := by
  have e : (0 : Int32).toInt64 = 0 := by decide
  rw [e]
  exact Int64.or_zero
theorem own_bd (x : Int32) : 0 ≤ (x.toInt64 &&& 2147483647).toInt ∧ (x.toInt64 &&& 2147483647).toInt < 2147483648 := by
  have h0 : ¬ (x.toInt64 &&& 2147483647) < 0 := fun h => absurd ((XT.and_neg64 x.toInt64 2147483647).mp h).2 (by decide)
  have h1 : (x.toInt64 &&& 2147483647).toBitVec.toNat ≤ 2147483647 := by
    show (x.toInt64.toBitVec &&& (2147483647 : Int64).toBitVec).toNat ≤ 2147483647
    rw [BitVec.toNat_and]
    exact Nat.and_le_right
  rw [XT.negI64] at h0
  generalize x.toInt64 &&& 2147483647 = y at h0 h1 ⊢
  have := BitVec.toInt_eq_toNat_cond y.toBitVec
  have e : y.toInt = y.toBitVec.toInt := rfl
  rw [e] at h0 ⊢
  rw [this] at h0 ⊢
  split at h0 <;> split <;> omega
theorem own_nar {y : Int64} (h : 0 ≤ y.toInt ∧ y.toInt < 2147483648) : y.toInt32.toInt64 = y := XT.narrowOk ⟨by omega, by omega⟩
theorem own_sum {s y : Int64} (hs : 0 ≤ s.toInt ∧ s.toInt < 4294967296) (h : 0 ≤ y.toInt ∧ y.toInt < 2147483648) : (s + y).toInt = s.toInt + y.toInt := XT.add64 ⟨by omega, by omega⟩
theorem own_adv {s y : Int64} (hs : 0 ≤ s.toInt ∧ s.toInt < 4294967296) (h : 0 ≤ y.toInt ∧ y.toInt < 2147483648) : ¬ (0 : Int32) < XT.cmpL (y.toInt32.toInt64) ((31556889864403199 : Int64) - s) := by
  rw [own_nar h, own_cl_gt, Int64.lt_iff_toInt_lt]
  have e : ((31556889864403199 : Int64) - s).toInt = 31556889864403199 - s.toInt := by
    rw [XT.sub64 ⟨by show -2 ^ 63 ≤ (31556889864403199 : Int) - s.toInt; omega, by show (31556889864403199 : Int) - s.toInt < 2 ^ 63; omega⟩]
    rfl
  rw [e]
  omega
theorem own_lo {x : Int64} (h : 0 ≤ x.toInt ∧ x.toInt < 8589934592) : ¬ XT.cmpL x (-31557014167219200) < 0 := by
  rw [own_cl_lt, Int64.lt_iff_toInt_lt]
  have e : (-31557014167219200 : Int64).toInt = -31557014167219200 := by decide
  rw [e]
  omega
theorem own_hi {x : Int64} (h : 0 ≤ x.toInt ∧ x.toInt < 8589934592) : ¬ (0 : Int32) < XT.cmpL x 31556889864403199 := by
  rw [own_cl_gt, Int64.lt_iff_toInt_lt]
  have e : (31556889864403199 : Int64).toInt = 31556889864403199 := by decide
  rw [e]
  omega
theorem d1_0 : decode prog_54_method_1_code 0 = .ok (.aload_n 0, 1) := by decide +kernel
theorem d1_1 : decode prog_54_method_1_code 1 = .ok (.invokespecial 1, 3) := by decide +kernel
theorem d1_4 : decode prog_54_method_1_code 4 = .ok (.return_, 1) := by decide +kernel
theorem ef_init (m : MethodId) (a : Addr) : entryFrame m #[(.ref a)] 1 = mkF m 0 #[.val (.ref a)] [] := by
  first | (simp [entryFrame, mkF, argsToLocals, Value.category]; done) | rfl
def Q_init (Z : State) (a : Addr) (h0 : Heap) (n0 : Nat) (v : Option Value) (h : Heap) (L : List Loc) : Prop := v = none ∧ Fr n0 L ∧ h = h0
set_option maxRecDepth 65536 in
set_option maxHeartbeats 40000000 in
theorem rm_init (l : Launch) (Z : State) (a0 : Array Value) (hw : ∀ d ∈ tables_1, d.before a0 Z = true) (ws : List Jvm.Cond) (a : Addr) (h0 : Heap) (n0 : Nat) (O0 : Old Z n0 h0) :
    MetFree l (⟨"com/example/role_rights/rolerights/scenario/ScenarioClock", "<init>", "()V"⟩ : MethodName) (head1 (Jvm.Cond.code (⟨"com/example/role_rights/rolerights/scenario/ScenarioClock", "<init>", "()V"⟩ : MethodName) prog_54_method_1_code 1 none :: ws) ({ frames := 1, cells := 0, slots := 0, locals := 12 } : Room)) (fun av_ U => av_ = #[(.ref a)] ∧ Z.Warmed39 U.vm ∧ U.heap = h0) (fun _ _ _ _ _ => True) (fun _ U o_ U' => ∃ v L, o_ = .returned v ∧ Q_init Z a h0 n0 v U'.heap L ∧ FrameEnd U o_ U' L ({ frames := 1, cells := 0, slots := 0, locals := 12 } : Room).cells ({ frames := 1, cells := 0, slots := 0, locals := 12 } : Room).slots) := by
  refine MetFree.of_bodySF (plainFor_of_name pn_0) hisR ?_
  intro p e s m args below meth c s₁ Bd hml0 hP hK
  obtain ⟨rfl, hZ, hh⟩ := hP
  have hx := Bd.exec
  have hby := Bd.bytes
  have hml : c.maxLocals = 1 := hml0
  have hown : s.vm.findClass "com/example/role_rights/rolerights/scenario/ScenarioClock" = some m.cls := findClass_of_methodNamed Bd.named
  have hnm := (name_of_methodNamed Bd.named Bd.method).1
  have hlk := own_lk Bd
  have hret := Bd.returns
  have X0 : Stand p l e ({ frames := 1, cells := 0, slots := 0, locals := 12 } : Room) s m #[(.ref a)] below meth c s₁ [] 0 0 := Stand.of_body Bd
  have e0 : s₁.heap = h0 := by rw [← hh, Bd.state]; rfl
  have N0 := Fr.nil n0
  show own_Goes p e below s (Q_init Z a h0 n0) ({ frames := 1, cells := 0, slots := 0, locals := 12 } : Room).cells ({ frames := 1, cells := 0, slots := 0, locals := 12 } : Room).slots (s₁.setTop (entryFrame m #[(.ref a)] 1))
  refine own_go (fun _ ww => castTop (ef_init m a) ww) ?_
  show own_Goes _ _ _ _ _ _ _ (s₁.setTop (mkF m 0 #[.val (.ref a)] []))
  refine own_go (fun _ ww => XS.aloadN X0.here hx rfl (hb hby d1_0) rfl rfl ww) ?_
  show own_Goes _ _ _ _ _ _ _ (s₁.setTop (mkF m 1 #[.val (.ref a)] [(.ref a)]))
  obtain ⟨T1, X1, e1, st1⟩ := initO X0 hx hZ hown (hw _ (List.mem_of_getElem? (i := 7) rfl)) (hw _ (List.mem_of_getElem? (i := 8) rfl)) (hw _ (List.mem_of_getElem? (i := 9) rfl)) e0 (g := (mkF m 1 #[.val (.ref a)] [(.ref a)])) rfl (by rw [hml]; rfl) rfl (hb hby d1_1) (by decide) (W := 0) (by show 2 * 0 + _ ≤ _; exact Nat.le_of_eq rfl) (by decide)
  refine own_go st1 ?_
  show own_Goes _ _ _ _ _ _ _ (T1.setTop (mkF m 4 #[.val (.ref a)] []))
  exact own_out X1 hlk (v := none) (fun _ => rfl) (fun fs hr => X1.returnOut hx hret (hb hby d1_4) hr) e1 ⟨rfl, N0, rfl⟩ (by decide) (by decide)
theorem d9_0 : decode jdk_2320_method_9_code 0 = .ok (.aload_n 0, 1) := by decide +kernel
theorem d9_1 : decode jdk_2320_method_9_code 1 = .ok (.invokespecial 137, 3) := by decide +kernel
theorem d9_4 : decode jdk_2320_method_9_code 4 = .ok (.aload_n 0, 1) := by decide +kernel
theorem d9_5 : decode jdk_2320_method_9_code 5 = .ok (.lload_n 1, 1) := by decide +kernel
theorem d9_6 : decode jdk_2320_method_9_code 6 = .ok (.putfield 140, 3) := by decide +kernel
theorem d9_9 : decode jdk_2320_method_9_code 9 = .ok (.aload_n 0, 1) := by decide +kernel
theorem d9_10 : decode jdk_2320_method_9_code 10 = .ok (.iload_n 3, 1) := by decide +kernel
theorem d9_11 : decode jdk_2320_method_9_code 11 = .ok (.putfield 144, 3) := by decide +kernel
theorem d9_14 : decode jdk_2320_method_9_code 14 = .ok (.return_, 1) := by decide +kernel
theorem ef_iinit (m : MethodId) (a : Addr) (x1 : Int64) (x2 : Int32) : entryFrame m #[(.ref a), (.long x1), (.int x2)] 4 = mkF m 0 #[.val (.ref a), .val (.long x1), .second, .val (.int x2)] [] := by
  first | (simp [entryFrame, mkF, argsToLocals, Value.category]; done) | rfl
def Q_iinit (Z : State) (a : Addr) (x1 : Int64) (x2 : Int32) (h0 : Heap) (n0 : Nat) (v : Option Value) (h : Heap) (L : List Loc) : Prop := v = none ∧ Fr n0 L ∧ Keep h0 h [a] ∧ Fld Z h a "java/time/Instant" "seconds" "J" (.long x1)
set_option maxRecDepth 65536 in
set_option maxHeartbeats 40000000 in
theorem rm_iinit (l : Launch) (Z : State) (a0 : Array Value) (hw : ∀ d ∈ tables_1, d.before a0 Z = true) (ws : List Jvm.Cond) (a : Addr) (x1 : Int64) (x2 : Int32) (h0 : Heap) (n0 : Nat) (O0 : Old Z n0 h0) (F1 : Fld Z h0 a "java/time/Instant" "seconds" "J" (.long (0 : Int64))) (F2 : Fld Z h0 a "java/time/Instant" "nanos" "I" (.int (0 : Int32))) (Ea : Exa Z h0 a "java/time/Instant") (g_a : n0 ≤ a) :
    MetFree l (⟨"java/time/Instant", "<init>", "(JI)V"⟩ : MethodName) (head1 (Jvm.Cond.code (⟨"java/time/Instant", "<init>", "(JI)V"⟩ : MethodName) jdk_2320_method_9_code 4 none :: ws) ({ frames := 1, cells := 0, slots := 0, locals := 12 } : Room)) (fun av_ U => av_ = #[(.ref a), (.long x1), (.int x2)] ∧ Z.Warmed39 U.vm ∧ U.heap = h0) (fun _ _ _ _ _ => True) (fun _ U o_ U' => ∃ v L, o_ = .returned v ∧ Q_iinit Z a x1 x2 h0 n0 v U'.heap L ∧ FrameEnd U o_ U' L ({ frames := 1, cells := 0, slots := 0, locals := 12 } : Room).cells ({ frames := 1, cells := 0, slots := 0, locals := 12 } : Room).slots) := by
  refine MetFree.of_bodySF (plainFor_of_name pn_1) hisR ?_
  intro p e s m args below meth c s₁ Bd hml0 hP hK
  obtain ⟨rfl, hZ, hh⟩ := hP
  have hx := Bd.exec
  have hby := Bd.bytes
  have hml : c.maxLocals = 4 := hml0
  have hown : s.vm.findClass "java/time/Instant" = some m.cls := findClass_of_methodNamed Bd.named
  have hnm := (name_of_methodNamed Bd.named Bd.method).1
  have hlk := own_lk Bd
  have hret := Bd.returns
  have X0 : Stand p l e ({ frames := 1, cells := 0, slots := 0, locals := 12 } : Room) s m #[(.ref a), (.long x1), (.int x2)] below meth c s₁ [] 0 0 := Stand.of_body Bd
  have e0 : s₁.heap = h0 := by rw [← hh, Bd.state]; rfl
  have N0 := Fr.nil n0
  show own_Goes p e below s (Q_iinit Z a x1 x2 h0 n0) ({ frames := 1, cells := 0, slots := 0, locals := 12 } : Room).cells ({ frames := 1, cells := 0, slots := 0, locals := 12 } : Room).slots (s₁.setTop (entryFrame m #[(.ref a), (.long x1), (.int x2)] 4))
  refine own_go (fun _ ww => castTop (ef_iinit m a x1 x2) ww) ?_
  show own_Goes _ _ _ _ _ _ _ (s₁.setTop (mkF m 0 #[.val (.ref a), .val (.long x1), .second, .val (.int x2)] []))
  refine own_go (fun _ ww => XS.aloadN X0.here hx rfl (hb hby d9_0) rfl rfl ww) ?_
  show own_Goes _ _ _ _ _ _ _ (s₁.setTop (mkF m 1 #[.val (.ref a), .val (.long x1), .second, .val (.int x2)] [(.ref a)]))
  obtain ⟨T2, X2, e2, st2⟩ := initO X0 hx hZ hown (hw _ (List.mem_of_getElem? (i := 51) rfl)) (hw _ (List.mem_of_getElem? (i := 8) rfl)) (hw _ (List.mem_of_getElem? (i := 9) rfl)) e0 (g := (mkF m 1 #[.val (.ref a), .val (.long x1), .second, .val (.int x2)] [(.ref a)])) rfl (by rw [hml]; rfl) rfl (hb hby d9_1) (by decide) (W := 0) (by show 2 * 0 + _ ≤ _; exact Nat.le_of_eq rfl) (by decide)
  refine own_go st2 ?_
  show own_Goes _ _ _ _ _ _ _ (T2.setTop (mkF m 4 #[.val (.ref a), .val (.long x1), .second, .val (.int x2)] []))
  refine own_go (fun _ ww => XS.aloadN X2.here hx rfl (hb hby d9_4) rfl rfl ww) ?_
  show own_Goes _ _ _ _ _ _ _ (T2.setTop (mkF m 5 #[.val (.ref a), .val (.long x1), .second, .val (.int x2)] [(.ref a)]))
  refine own_go (fun _ ww => XT.lloadN X2.here hx rfl (hb hby d9_5) rfl  ww) ?_
  show own_Goes _ _ _ _ _ _ _ (T2.setTop (mkF m 6 #[.val (.ref a), .val (.long x1), .second, .val (.int x2)] [(.long x1), (.ref a)]))
  obtain ⟨T3, h3, X3, e3, W3, st3⟩ := putF X2 hx hZ hown (host := "") (Or.inl (hw _ (List.mem_of_getElem? (i := 34) rfl))) Via.refl e2 F1 Ea (Or.inr ⟨(hw _ (List.mem_of_getElem? (i := 35) rfl)), rfl, hnm⟩) (hw _ (List.mem_of_getElem? (i := 46) rfl)) (ty := .long) (by decide) rfl rfl (g := (mkF m 6 #[.val (.ref a), .val (.long x1), .second, .val (.int x2)] [(.long x1), (.ref a)])) rfl rfl (hb hby d9_6)
  have f4 : Fld Z h3 a "java/time/Instant" "seconds" "J" (.long x1) := (F1.same W3)
  have f5 : Fld Z h3 a "java/time/Instant" "nanos" "I" (.int (0 : Int32)) := (F2.other W3 (Or.inr (slot_ne (Or.inr (hw _ (List.mem_of_getElem? (i := 53) rfl))) (Or.inr (hw _ (List.mem_of_getElem? (i := 35) rfl))) (by decide) (t := .int) (t' := .long) (by decide) (by decide))))
  have f6 : Exa Z h3 a "java/time/Instant" := (Ea.wr W3)
  have N3 := Fr.snoc X3 N0 g_a
  have O3 := O0.wr W3 g_a
  have K3 := (Keep.refl h0 [a]).wr W3 (Or.inl (List.mem_of_getElem? (i := 0) rfl))
  refine own_go st3 ?_
  show own_Goes _ _ _ _ _ _ _ (T3.setTop (mkF m 9 #[.val (.ref a), .val (.long x1), .second, .val (.int x2)] []))
  refine own_go (fun _ ww => XS.aloadN X3.here hx rfl (hb hby d9_9) rfl rfl ww) ?_
  show own_Goes _ _ _ _ _ _ _ (T3.setTop (mkF m 10 #[.val (.ref a), .val (.long x1), .second, .val (.int x2)] [(.ref a)]))
  refine own_go (fun _ ww => XS.iloadN X3.here hx rfl (hb hby d9_10) rfl  ww) ?_
  show own_Goes _ _ _ _ _ _ _ (T3.setTop (mkF m 11 #[.val (.ref a), .val (.long x1), .second, .val (.int x2)] [(.int x2), (.ref a)]))
  obtain ⟨T7, h7, X7, e7, W7, st7⟩ := putF X3 hx hZ hown (host := "") (Or.inl (hw _ (List.mem_of_getElem? (i := 52) rfl))) Via.refl e3 f5 f6 (Or.inr ⟨(hw _ (List.mem_of_getElem? (i := 53) rfl)), rfl, hnm⟩) (hw _ (List.mem_of_getElem? (i := 46) rfl)) (ty := .int) (by decide) rfl rfl (g := (mkF m 11 #[.val (.ref a), .val (.long x1), .second, .val (.int x2)] [(.int x2), (.ref a)])) rfl rfl (hb hby d9_11)
  have f8 : Fld Z h7 a "java/time/Instant" "seconds" "J" (.long x1) := (f4.other W7 (Or.inr (slot_ne (Or.inr (hw _ (List.mem_of_getElem? (i := 35) rfl))) (Or.inr (hw _ (List.mem_of_getElem? (i := 53) rfl))) (by decide) (t := .long) (t' := .int) (by decide) (by decide))))
  have f9 : Fld Z h7 a "java/time/Instant" "nanos" "I" (.int x2) := (f5.same W7)
  have f10 : Exa Z h7 a "java/time/Instant" := (f6.wr W7)
  have N7 := Fr.snoc X7 N3 g_a
  have O7 := O3.wr W7 g_a
  have K7 := K3.wr W7 (Or.inl (List.mem_of_getElem? (i := 0) rfl))
  refine own_go st7 ?_
  show own_Goes _ _ _ _ _ _ _ (T7.setTop (mkF m 14 #[.val (.ref a), .val (.long x1), .second, .val (.int x2)] []))
  exact own_out X7 hlk (v := none) (fun _ => rfl) (fun fs hr => X7.returnOut hx hret (hb hby d9_14) hr) e7 ⟨rfl, N7, K7, f8⟩ (by decide) (by decide)
theorem d6_0 : decode jdk_2320_method_8_code 0 = .ok (.lload_n 0, 1) := by decide +kernel
theorem d6_1 : decode jdk_2320_method_8_code 1 = .ok (.iload_n 2, 1) := by decide +kernel
theorem d6_2 : decode jdk_2320_method_8_code 2 = .ok (.i2l, 1) := by decide +kernel
theorem d6_3 : decode jdk_2320_method_8_code 3 = .ok (.lor, 1) := by decide +kernel
theorem d6_4 : decode jdk_2320_method_8_code 4 = .ok (.lconst 0, 1) := by decide +kernel
theorem d6_5 : decode jdk_2320_method_8_code 5 = .ok (.lcmp, 1) := by decide +kernel
theorem d6_6 : decode jdk_2320_method_8_code 6 = .ok (.ifCond .ne 7, 3) := by decide +kernel
theorem d6_9 : decode jdk_2320_method_8_code 9 = .ok (.getstatic 121, 3) := by decide +kernel
theorem d6_12 : decode jdk_2320_method_8_code 12 = .ok (.areturn, 1) := by decide +kernel
theorem d6_13 : decode jdk_2320_method_8_code 13 = .ok (.lload_n 0, 1) := by decide +kernel
theorem d6_14 : decode jdk_2320_method_8_code 14 = .ok (.ldc2_w 125, 3) := by decide +kernel
theorem d6_17 : decode jdk_2320_method_8_code 17 = .ok (.lcmp, 1) := by decide +kernel
theorem d6_18 : decode jdk_2320_method_8_code 18 = .ok (.ifCond .lt 11, 3) := by decide +kernel
theorem d6_21 : decode jdk_2320_method_8_code 21 = .ok (.lload_n 0, 1) := by decide +kernel
theorem d6_22 : decode jdk_2320_method_8_code 22 = .ok (.ldc2_w 127, 3) := by decide +kernel
theorem d6_25 : decode jdk_2320_method_8_code 25 = .ok (.lcmp, 1) := by decide +kernel
theorem d6_26 : decode jdk_2320_method_8_code 26 = .ok (.ifCond .le 13, 3) := by decide +kernel
theorem d6_39 : decode jdk_2320_method_8_code 39 = .ok (.new 21, 3) := by decide +kernel
theorem d6_42 : decode jdk_2320_method_8_code 42 = .ok (.dup, 1) := by decide +kernel
theorem d6_43 : decode jdk_2320_method_8_code 43 = .ok (.lload_n 0, 1) := by decide +kernel
theorem d6_44 : decode jdk_2320_method_8_code 44 = .ok (.iload_n 2, 1) := by decide +kernel
theorem d6_45 : decode jdk_2320_method_8_code 45 = .ok (.invokespecial 134, 3) := by decide +kernel
theorem d6_48 : decode jdk_2320_method_8_code 48 = .ok (.areturn, 1) := by decide +kernel
theorem ef_create (m : MethodId) (x1 : Int64) (aE : Addr) : entryFrame m #[(.long x1), (.int (0 : Int32))] 3 = mkF m 0 #[.val (.long x1), .second, .val (.int (0 : Int32))] [] := by
  first | (simp [entryFrame, mkF, argsToLocals, Value.category]; done) | rfl
def Q_create (Z : State) (x1 : Int64) (aE : Addr) (h0 : Heap) (n0 : Nat) (v : Option Value) (h : Heap) (L : List Loc) : Prop := ∃ r, v = some (.ref r) ∧ Fr n0 L ∧ Keep h0 h [] ∧ Exa Z h r "java/time/Instant" ∧ Fld Z h r "java/time/Instant" "seconds" "J" (.long x1)
set_option maxRecDepth 65536 in
set_option maxHeartbeats 40000000 in
theorem rm_create (l : Launch) (Z : State) (a0 : Array Value) (hw : ∀ d ∈ tables_1, d.before a0 Z = true) (ws : List Jvm.Cond) (x1 : Int64) (aE : Addr) (h0 : Heap) (n0 : Nat) (O0 : Old Z n0 h0) (SE : Sta Z Z.heap "java/time/Instant" "EPOCH" "Ljava/time/Instant;" (.ref aE)) (EE : Exa Z Z.heap aE "java/time/Instant") (FE : Fld Z Z.heap aE "java/time/Instant" "seconds" "J" (.long (0 : Int64))) (hbd : 0 ≤ x1.toInt ∧ x1.toInt < 8589934592) :
    MetFree l (⟨"java/time/Instant", "create", "(JI)Ljava/time/Instant;"⟩ : MethodName) (head1 (Jvm.Cond.code (⟨"java/time/Instant", "create", "(JI)Ljava/time/Instant;"⟩ : MethodName) jdk_2320_method_8_code 3 (some (.object "java/time/Instant")) :: ws) ({ frames := 2, cells := 1, slots := 2, locals := 28 } : Room)) (fun av_ U => av_ = #[(.long x1), (.int (0 : Int32))] ∧ Z.Warmed39 U.vm ∧ U.heap = h0) (fun _ _ _ _ _ => True) (fun _ U o_ U' => ∃ v L, o_ = .returned v ∧ Q_create Z x1 aE h0 n0 v U'.heap L ∧ FrameEnd U o_ U' L ({ frames := 2, cells := 1, slots := 2, locals := 28 } : Room).cells ({ frames := 2, cells := 1, slots := 2, locals := 28 } : Room).slots) := by
  refine MetFree.of_bodySF (plainFor_of_name pn_1) hisR ?_
  intro p e s m args below meth c s₁ Bd hml0 hP hK
  obtain ⟨rfl, hZ, hh⟩ := hP
  have hx := Bd.exec
  have hby := Bd.bytes
  have hml : c.maxLocals = 3 := hml0
  have hown : s.vm.findClass "java/time/Instant" = some m.cls := findClass_of_methodNamed Bd.named
  have hnm := (name_of_methodNamed Bd.named Bd.method).1
  have hlk := own_lk Bd
  have hret := Bd.returns
  have X0 : Stand p l e ({ frames := 2, cells := 1, slots := 2, locals := 28 } : Room) s m #[(.long x1), (.int (0 : Int32))] below meth c s₁ [] 0 0 := Stand.of_body Bd
  have e0 : s₁.heap = h0 := by rw [← hh, Bd.state]; rfl
  have N0 := Fr.nil n0
  show own_Goes p e below s (Q_create Z x1 aE h0 n0) ({ frames := 2, cells := 1, slots := 2, locals := 28 } : Room).cells ({ frames := 2, cells := 1, slots := 2, locals := 28 } : Room).slots (s₁.setTop (entryFrame m #[(.long x1), (.int (0 : Int32))] 3))
  refine own_go (fun _ ww => castTop (ef_create m x1 aE) ww) ?_
  show own_Goes _ _ _ _ _ _ _ (s₁.setTop (mkF m 0 #[.val (.long x1), .second, .val (.int (0 : Int32))] []))
  refine own_go (fun _ ww => XT.lloadN X0.here hx rfl (hb hby d6_0) rfl  ww) ?_
  show own_Goes _ _ _ _ _ _ _ (s₁.setTop (mkF m 1 #[.val (.long x1), .second, .val (.int (0 : Int32))] [(.long x1)]))
  refine own_go (fun _ ww => XS.iloadN X0.here hx rfl (hb hby d6_1) rfl  ww) ?_
  show own_Goes _ _ _ _ _ _ _ (s₁.setTop (mkF m 2 #[.val (.long x1), .second, .val (.int (0 : Int32))] [(.int (0 : Int32)), (.long x1)]))
  refine own_go (fun _ ww => XT.i2l X0.here hx rfl (hb hby d6_2) rfl ww) ?_
  show own_Goes _ _ _ _ _ _ _ (s₁.setTop (mkF m 3 #[.val (.long x1), .second, .val (.int (0 : Int32))] [(.long ((0 : Int32).toInt64)), (.long x1)]))
  refine own_go (fun _ ww => XT.lor X0.here hx rfl (hb hby d6_3) rfl ww) ?_
  show own_Goes _ _ _ _ _ _ _ (s₁.setTop (mkF m 4 #[.val (.long x1), .second, .val (.int (0 : Int32))] [(.long (x1 ||| ((0 : Int32).toInt64)))]))
  refine own_go (fun _ ww => XT.lconst X0.here hx rfl (hb hby d6_4) ww) ?_
  show own_Goes _ _ _ _ _ _ _ (s₁.setTop (mkF m 5 #[.val (.long x1), .second, .val (.int (0 : Int32))] [(.long (0 : Int64)), (.long (x1 ||| ((0 : Int32).toInt64)))]))
  refine own_go (fun _ ww => XT.lcmp X0.here hx rfl (hb hby d6_5) rfl ww) ?_
  show own_Goes _ _ _ _ _ _ _ (s₁.setTop (mkF m 6 #[.val (.long x1), .second, .val (.int (0 : Int32))] [(.int (XT.cmpL (x1 ||| ((0 : Int32).toInt64)) (0 : Int64)))]))
  by_cases hc11 : (XT.cmpL (x1 ||| ((0 : Int32).toInt64)) (0 : Int64)) = (0 : Int32)
  ·
    refine own_go (fun _ ww => XS.ifNo X0.here hx rfl (hb hby d6_6) rfl (own_if .ne (teq hc11).2) ww) ?_
    show own_Goes _ _ _ _ _ _ _ (s₁.setTop (mkF m 9 #[.val (.long x1), .second, .val (.int (0 : Int32))] []))
    obtain ⟨T12, X12, e12, st12⟩ := getS X0 hx hZ hown (host := "") (hw _ (List.mem_of_getElem? (i := 28) rfl)) Via.refl e0 (SE.ext O0.2) (g := (mkF m 9 #[.val (.long x1), .second, .val (.int (0 : Int32))] [])) rfl (hb hby d6_9)
    refine own_go st12 ?_
    show own_Goes _ _ _ _ _ _ _ (T12.setTop (mkF m 12 #[.val (.long x1), .second, .val (.int (0 : Int32))] [(.ref aE)]))
    exact own_out X12 hlk (v := some (.ref aE)) (fun h => by rw [hret] at h; cases h) (fun fs hr => retOut X12 hx (t := (.object "java/time/Instant")) hret rfl (Or.inr (Or.inr (Or.inr (Or.inr ⟨rfl, rfl, rfl⟩)))) (hb hby d6_12) hr) e12 ⟨_, rfl, N0, (Keep.refl h0 []), EE.ext O0.2, (by rw [← own_or0 x1, own_cl_eq hc11]; exact FE.ext O0.2)⟩ (by decide) (by decide)
  ·
    refine own_go (fun _ ww => XS.ifYes X0.here hx rfl (pc0 := 6) (pc' := 13) rfl (hb hby d6_6) rfl (own_if .ne (feq hc11).2) (by decide) (by decide) ww) ?_
    show own_Goes _ _ _ _ _ _ _ (s₁.setTop (mkF m 13 #[.val (.long x1), .second, .val (.int (0 : Int32))] []))
    refine own_go (fun _ ww => XT.lloadN X0.here hx rfl (hb hby d6_13) rfl  ww) ?_
    show own_Goes _ _ _ _ _ _ _ (s₁.setTop (mkF m 14 #[.val (.long x1), .second, .val (.int (0 : Int32))] [(.long x1)]))
    refine own_go (fun _ ww => X0.ldc2J hx hown (mvT hZ (hw _ (List.mem_of_getElem? (i := 43) rfl))) rfl (hb hby d6_14) ww) ?_
    show own_Goes _ _ _ _ _ _ _ (s₁.setTop (mkF m 17 #[.val (.long x1), .second, .val (.int (0 : Int32))] [(.long (-31557014167219200 : Int64)), (.long x1)]))
    refine own_go (fun _ ww => XT.lcmp X0.here hx rfl (hb hby d6_17) rfl ww) ?_
    show own_Goes _ _ _ _ _ _ _ (s₁.setTop (mkF m 18 #[.val (.long x1), .second, .val (.int (0 : Int32))] [(.int (XT.cmpL x1 (-31557014167219200 : Int64)))]))
    refine own_go (fun _ ww => XS.ifNo X0.here hx rfl (hb hby d6_18) rfl (own_if .lt (flt (own_lo hbd)).1) ww) ?_
    show own_Goes _ _ _ _ _ _ _ (s₁.setTop (mkF m 21 #[.val (.long x1), .second, .val (.int (0 : Int32))] []))
    refine own_go (fun _ ww => XT.lloadN X0.here hx rfl (hb hby d6_21) rfl  ww) ?_
    show own_Goes _ _ _ _ _ _ _ (s₁.setTop (mkF m 22 #[.val (.long x1), .second, .val (.int (0 : Int32))] [(.long x1)]))
    refine own_go (fun _ ww => X0.ldc2J hx hown (mvT hZ (hw _ (List.mem_of_getElem? (i := 44) rfl))) rfl (hb hby d6_22) ww) ?_
    show own_Goes _ _ _ _ _ _ _ (s₁.setTop (mkF m 25 #[.val (.long x1), .second, .val (.int (0 : Int32))] [(.long (31556889864403199 : Int64)), (.long x1)]))
    refine own_go (fun _ ww => XT.lcmp X0.here hx rfl (hb hby d6_25) rfl ww) ?_
    show own_Goes _ _ _ _ _ _ _ (s₁.setTop (mkF m 26 #[.val (.long x1), .second, .val (.int (0 : Int32))] [(.int (XT.cmpL x1 (31556889864403199 : Int64)))]))
    refine own_go (fun _ ww => XS.ifYes X0.here hx rfl (pc0 := 26) (pc' := 39) rfl (hb hby d6_26) rfl (own_if .le (flt (own_hi hbd)).2.2.2) (by decide) (by decide) ww) ?_
    show own_Goes _ _ _ _ _ _ _ (s₁.setTop (mkF m 39 #[.val (.long x1), .second, .val (.int (0 : Int32))] []))
    obtain ⟨T13, h13, X13, e13, E13, A13, D13, -, st13⟩ := newO X0 hx hZ hown (hw _ (List.mem_of_getElem? (i := 45) rfl)) (hw _ (List.mem_of_getElem? (i := 46) rfl)) (hw _ (List.mem_of_getElem? (i := 23) rfl)) e0 (g := (mkF m 39 #[.val (.long x1), .second, .val (.int (0 : Int32))] [])) rfl (hb hby d6_39) (by decide) (by decide)
    obtain ⟨b13, g13⟩ : ∃ z, z = h0.size := ⟨_, rfl⟩
    rw [← g13] at A13 D13 st13
    have g_b13 : n0 ≤ b13 := Nat.le_trans (O0.1 ▸ O0.2.1) (Nat.le_of_eq g13.symm)
    have O13 := O0.ext E13
    have sz_b13 : h0.size ≤ b13 := Nat.le_trans (own_ks (Keep.refl h0 [])) (Nat.le_of_eq g13.symm)
    have K13 := (Keep.refl h0 []).ext E13
    have f14 : Fld Z h13 b13 "java/time/Instant" "seconds" "J" (.long (0 : Int64)) := D13 (Or.inr (hw _ (List.mem_of_getElem? (i := 35) rfl))) (ty := .long) (by decide)
    have f15 : Fld Z h13 b13 "java/time/Instant" "nanos" "I" (.int (0 : Int32)) := D13 (Or.inr (hw _ (List.mem_of_getElem? (i := 53) rfl))) (ty := .int) (by decide)
    refine own_go st13 ?_
    show own_Goes _ _ _ _ _ _ _ (T13.setTop (mkF m 42 #[.val (.long x1), .second, .val (.int (0 : Int32))] [(.ref b13)]))
    refine own_go (fun _ ww => XS.dup X13.here hx rfl (hb hby d6_42) rfl rfl ww) ?_
    show own_Goes _ _ _ _ _ _ _ (T13.setTop (mkF m 43 #[.val (.long x1), .second, .val (.int (0 : Int32))] [(.ref b13), (.ref b13)]))
    refine own_go (fun _ ww => XT.lloadN X13.here hx rfl (hb hby d6_43) rfl  ww) ?_
    show own_Goes _ _ _ _ _ _ _ (T13.setTop (mkF m 44 #[.val (.long x1), .second, .val (.int (0 : Int32))] [(.long x1), (.ref b13), (.ref b13)]))
    refine own_go (fun _ ww => XS.iloadN X13.here hx rfl (hb hby d6_44) rfl  ww) ?_
    show own_Goes _ _ _ _ _ _ _ (T13.setTop (mkF m 45 #[.val (.long x1), .second, .val (.int (0 : Int32))] [(.int (0 : Int32)), (.long x1), (.ref b13), (.ref b13)]))
    obtain ⟨_, _, ⟨T16, L16, k16, n16⟩, -, X16, ⟨Lc16, hQ16, l16, y16, z16⟩, st16⟩ := X13.specialBack hx (y := (⟨"java/time/Instant", "<init>", "(JI)V"⟩ : MethodName)) rfl hown (mvT hZ (hw _ (List.mem_of_getElem? (i := 47) rfl))) (mvT hZ (hw _ (List.mem_of_getElem? (i := 48) rfl))) (mvT hZ (hw _ (List.mem_of_getElem? (i := 50) rfl))) (by decide) (backOf (W := 1) (rm_iinit l Z a0 hw [] b13 x1 (0 : Int32) h13 n0 O13 f14 f15 A13 g_b13) hZ (hw _ (List.mem_of_getElem? (i := 50) rfl)) (hw _ (List.mem_of_getElem? (i := 23) rfl)) (by decide) (by decide)) (g := (mkF m 45 #[.val (.long x1), .second, .val (.int (0 : Int32))] [(.int (0 : Int32)), (.long x1), (.ref b13), (.ref b13)])) rfl (by rw [hml]; rfl) (Steps.refl _) (a := b13) (argsL := [(.long x1), (.int (0 : Int32))]) (rest := [(.ref b13)]) (lenOf pd_0 rfl) rfl (by show 2 * 0 + _ ≤ _; exact Nat.le_of_eq rfl) (hb hby d6_45) (fun _ _ => ⟨rfl, e13, (by decide : 1 + 0 ≤ _), (by decide : 2 + 0 ≤ _)⟩)
    dsimp only [Pt.U, Pt.locs, Pt.cells, Pt.slots] at X16 l16 y16 z16 st16 hQ16
    subst l16 y16 z16
    obtain ⟨rfl, N16q, K16q, P16⟩ := hQ16
    have N16 := Fr.app N0 N16q
    have f17 : Exa Z T16.heap b13 "java/time/Instant" := (A13.keep K16q)
    have O16 := O13.keep K16q (allS g_b13 all0)
    have K16 := K13.trans K16q (allS (Or.inr sz_b13) all0)
    refine own_go (fun _ ww => Steps.trans st16 ww) ?_
    show own_Goes _ _ _ _ _ _ _ (T16.setTop (mkF m 48 #[.val (.long x1), .second, .val (.int (0 : Int32))] [(.ref b13)]))
    exact own_out X16 hlk (v := some (.ref b13)) (fun h => by rw [hret] at h; cases h) (fun fs hr => retOut X16 hx (t := (.object "java/time/Instant")) hret rfl (Or.inr (Or.inr (Or.inr (Or.inr ⟨rfl, rfl, rfl⟩)))) (hb hby d6_48) hr) rfl ⟨_, rfl, N16, K16, f17, P16⟩ (by decide) (by decide)
theorem d5_0 : decode jdk_2320_method_3_code 0 = .ok (.lload_n 0, 1) := by decide +kernel
theorem d5_1 : decode jdk_2320_method_3_code 1 = .ok (.iconst 0, 1) := by decide +kernel
theorem d5_2 : decode jdk_2320_method_3_code 2 = .ok (.invokestatic 20, 3) := by decide +kernel
theorem d5_5 : decode jdk_2320_method_3_code 5 = .ok (.areturn, 1) := by decide +kernel
theorem ef_ofe (m : MethodId) (x1 : Int64) (aE : Addr) : entryFrame m #[(.long x1)] 2 = mkF m 0 #[.val (.long x1), .second] [] := by
  first | (simp [entryFrame, mkF, argsToLocals, Value.category]; done) | rfl
def Q_ofe (Z : State) (x1 : Int64) (aE : Addr) (h0 : Heap) (n0 : Nat) (v : Option Value) (h : Heap) (L : List Loc) : Prop := ∃ r, v = some (.ref r) ∧ Fr n0 L ∧ Keep h0 h [] ∧ Exa Z h r "java/time/Instant" ∧ Fld Z h r "java/time/Instant" "seconds" "J" (.long x1)
set_option maxRecDepth 65536 in
set_option maxHeartbeats 40000000 in
theorem rm_ofe (l : Launch) (Z : State) (a0 : Array Value) (hw : ∀ d ∈ tables_1, d.before a0 Z = true) (ws : List Jvm.Cond) (x1 : Int64) (aE : Addr) (h0 : Heap) (n0 : Nat) (O0 : Old Z n0 h0) (SE : Sta Z Z.heap "java/time/Instant" "EPOCH" "Ljava/time/Instant;" (.ref aE)) (EE : Exa Z Z.heap aE "java/time/Instant") (FE : Fld Z Z.heap aE "java/time/Instant" "seconds" "J" (.long (0 : Int64))) (hbd : 0 ≤ x1.toInt ∧ x1.toInt < 8589934592) :
    MetFree l (⟨"java/time/Instant", "ofEpochSecond", "(J)Ljava/time/Instant;"⟩ : MethodName) (head1 (Jvm.Cond.code (⟨"java/time/Instant", "ofEpochSecond", "(J)Ljava/time/Instant;"⟩ : MethodName) jdk_2320_method_3_code 2 (some (.object "java/time/Instant")) :: ws) ({ frames := 3, cells := 1, slots := 2, locals := 42 } : Room)) (fun av_ U => av_ = #[(.long x1)] ∧ Z.Warmed39 U.vm ∧ U.heap = h0) (fun _ _ _ _ _ => True) (fun _ U o_ U' => ∃ v L, o_ = .returned v ∧ Q_ofe Z x1 aE h0 n0 v U'.heap L ∧ FrameEnd U o_ U' L ({ frames := 3, cells := 1, slots := 2, locals := 42 } : Room).cells ({ frames := 3, cells := 1, slots := 2, locals := 42 } : Room).slots) := by
  refine MetFree.of_bodySF (plainFor_of_name pn_1) hisR ?_
  intro p e s m args below meth c s₁ Bd hml0 hP hK
  obtain ⟨rfl, hZ, hh⟩ := hP
  have hx := Bd.exec
  have hby := Bd.bytes
  have hml : c.maxLocals = 2 := hml0
  have hown : s.vm.findClass "java/time/Instant" = some m.cls := findClass_of_methodNamed Bd.named
  have hnm := (name_of_methodNamed Bd.named Bd.method).1
  have hlk := own_lk Bd
  have hret := Bd.returns
  have X0 : Stand p l e ({ frames := 3, cells := 1, slots := 2, locals := 42 } : Room) s m #[(.long x1)] below meth c s₁ [] 0 0 := Stand.of_body Bd
  have e0 : s₁.heap = h0 := by rw [← hh, Bd.state]; rfl
  have N0 := Fr.nil n0
  show own_Goes p e below s (Q_ofe Z x1 aE h0 n0) ({ frames := 3, cells := 1, slots := 2, locals := 42 } : Room).cells ({ frames := 3, cells := 1, slots := 2, locals := 42 } : Room).slots (s₁.setTop (entryFrame m #[(.long x1)] 2))
  refine own_go (fun _ ww => castTop (ef_ofe m x1 aE) ww) ?_
  show own_Goes _ _ _ _ _ _ _ (s₁.setTop (mkF m 0 #[.val (.long x1), .second] []))
  refine own_go (fun _ ww => XT.lloadN X0.here hx rfl (hb hby d5_0) rfl  ww) ?_
  show own_Goes _ _ _ _ _ _ _ (s₁.setTop (mkF m 1 #[.val (.long x1), .second] [(.long x1)]))
  refine own_go (fun _ ww => XS.iconst X0.here hx rfl (hb hby d5_1) ww) ?_
  show own_Goes _ _ _ _ _ _ _ (s₁.setTop (mkF m 2 #[.val (.long x1), .second] [(.int (0 : Int32)), (.long x1)]))
  obtain ⟨_, _, ⟨T18, L18, k18, n18⟩, -, X18, ⟨Lc18, hQ18, l18, y18, z18⟩, st18⟩ := Jvm.LawKit.callS X0 hx (y := (⟨"java/time/Instant", "create", "(JI)Ljava/time/Instant;"⟩ : MethodName)) hown (mvT hZ (hw _ (List.mem_of_getElem? (i := 25) rfl))) (mvT hZ (hw _ (List.mem_of_getElem? (i := 26) rfl))) (mvT hZ (hw _ (List.mem_of_getElem? (i := 23) rfl))) (mvT hZ (hw _ (List.mem_of_getElem? (i := 27) rfl))) (by decide) (backOf (W := 0) (rm_create l Z a0 hw [] x1 aE h0 n0 O0 SE EE FE hbd) hZ (hw _ (List.mem_of_getElem? (i := 27) rfl)) (hw _ (List.mem_of_getElem? (i := 23) rfl)) (by decide) (by decide)) (g := (mkF m 2 #[.val (.long x1), .second] [(.int (0 : Int32)), (.long x1)])) rfl (by rw [hml]; rfl) (argsL := [(.long x1), (.int (0 : Int32))]) (rest := []) (lenOf pd_1 rfl) rfl (by show 2 * 0 + _ ≤ _; exact Nat.le_of_eq rfl) (hb hby d5_2) (fun _ _ => ⟨rfl, e0, (by decide : 0 + 1 ≤ _), (by decide : 0 + 2 ≤ _)⟩)
  dsimp only [Pt.U, Pt.locs, Pt.cells, Pt.slots] at X18 l18 y18 z18 st18 hQ18
  subst l18 y18 z18
  obtain ⟨r18, rfl, N18q, K18q, E18q, P18⟩ := hQ18
  have N18 := Fr.app N0 N18q
  have O18 := O0.keep K18q all0
  have K18 := (Keep.refl h0 []).trans K18q all0
  refine own_go st18 ?_
  show own_Goes _ _ _ _ _ _ _ (T18.setTop (mkF m 5 #[.val (.long x1), .second] [(.ref r18)]))
  exact own_out X18 hlk (v := some (.ref r18)) (fun h => by rw [hret] at h; cases h) (fun fs hr => retOut X18 hx (t := (.object "java/time/Instant")) hret rfl (Or.inr (Or.inr (Or.inr (Or.inr ⟨rfl, rfl, rfl⟩)))) (hb hby d5_5) hr) rfl ⟨_, rfl, N18, K18, E18q, P18⟩ (by decide) (by decide)
theorem d4_0 : decode prog_54_method_2_code 0 = .ok (.aload_n 0, 1) := by decide +kernel
theorem d4_1 : decode prog_54_method_2_code 1 = .ok (.getfield 7, 3) := by decide +kernel
theorem d4_4 : decode prog_54_method_2_code 4 = .ok (.invokestatic 13, 3) := by decide +kernel
theorem d4_7 : decode prog_54_method_2_code 7 = .ok (.areturn, 1) := by decide +kernel
theorem ef_instant (m : MethodId) (a : Addr) (x1 : Int64) (aE : Addr) : entryFrame m #[(.ref a)] 1 = mkF m 0 #[.val (.ref a)] [] := by
  first | (simp [entryFrame, mkF, argsToLocals, Value.category]; done) | rfl
def Q_instant (Z : State) (a : Addr) (x1 : Int64) (aE : Addr) (h0 : Heap) (n0 : Nat) (v : Option Value) (h : Heap) (L : List Loc) : Prop := ∃ r, v = some (.ref r) ∧ Fr n0 L ∧ Keep h0 h [] ∧ Exa Z h r "java/time/Instant" ∧ Fld Z h r "java/time/Instant" "seconds" "J" (.long x1)
set_option maxRecDepth 65536 in
set_option maxHeartbeats 40000000 in
theorem rm_instant (l : Launch) (Z : State) (a0 : Array Value) (hw : ∀ d ∈ tables_1, d.before a0 Z = true) (ws : List Jvm.Cond) (a : Addr) (x1 : Int64) (aE : Addr) (h0 : Heap) (n0 : Nat) (O0 : Old Z n0 h0) (Fa : Fld Z h0 a "com/example/role_rights/rolerights/scenario/ScenarioClock" "seconds" "J" (.long x1)) (SE : Sta Z Z.heap "java/time/Instant" "EPOCH" "Ljava/time/Instant;" (.ref aE)) (EE : Exa Z Z.heap aE "java/time/Instant") (FE : Fld Z Z.heap aE "java/time/Instant" "seconds" "J" (.long (0 : Int64))) (hbd : 0 ≤ x1.toInt ∧ x1.toInt < 8589934592) :
    MetFree l (⟨"com/example/role_rights/rolerights/scenario/ScenarioClock", "instant", "()Ljava/time/Instant;"⟩ : MethodName) (head1 (Jvm.Cond.code (⟨"com/example/role_rights/rolerights/scenario/ScenarioClock", "instant", "()Ljava/time/Instant;"⟩ : MethodName) prog_54_method_2_code 1 (some (.object "java/time/Instant")) :: ws) ({ frames := 4, cells := 1, slots := 2, locals := 55 } : Room)) (fun av_ U => av_ = #[(.ref a)] ∧ Z.Warmed39 U.vm ∧ U.heap = h0) (fun _ _ _ _ _ => True) (fun _ U o_ U' => ∃ v L, o_ = .returned v ∧ Q_instant Z a x1 aE h0 n0 v U'.heap L ∧ FrameEnd U o_ U' L ({ frames := 4, cells := 1, slots := 2, locals := 55 } : Room).cells ({ frames := 4, cells := 1, slots := 2, locals := 55 } : Room).slots) := by
  refine MetFree.of_bodySF (plainFor_of_name pn_0) hisR ?_
  intro p e s m args below meth c s₁ Bd hml0 hP hK
  obtain ⟨rfl, hZ, hh⟩ := hP
  have hx := Bd.exec
  have hby := Bd.bytes
  have hml : c.maxLocals = 1 := hml0
  have hown : s.vm.findClass "com/example/role_rights/rolerights/scenario/ScenarioClock" = some m.cls := findClass_of_methodNamed Bd.named
  have hnm := (name_of_methodNamed Bd.named Bd.method).1
  have hlk := own_lk Bd
  have hret := Bd.returns
  have X0 : Stand p l e ({ frames := 4, cells := 1, slots := 2, locals := 55 } : Room) s m #[(.ref a)] below meth c s₁ [] 0 0 := Stand.of_body Bd
  have e0 : s₁.heap = h0 := by rw [← hh, Bd.state]; rfl
  have N0 := Fr.nil n0
  show own_Goes p e below s (Q_instant Z a x1 aE h0 n0) ({ frames := 4, cells := 1, slots := 2, locals := 55 } : Room).cells ({ frames := 4, cells := 1, slots := 2, locals := 55 } : Room).slots (s₁.setTop (entryFrame m #[(.ref a)] 1))
  refine own_go (fun _ ww => castTop (ef_instant m a x1 aE) ww) ?_
  show own_Goes _ _ _ _ _ _ _ (s₁.setTop (mkF m 0 #[.val (.ref a)] []))
  refine own_go (fun _ ww => XS.aloadN X0.here hx rfl (hb hby d4_0) rfl rfl ww) ?_
  show own_Goes _ _ _ _ _ _ _ (s₁.setTop (mkF m 1 #[.val (.ref a)] [(.ref a)]))
  obtain ⟨T19, X19, e19, st19⟩ := getF X0 hx hZ hown (host := "") (Or.inl (hw _ (List.mem_of_getElem? (i := 19) rfl))) Via.refl e0 Fa (g := (mkF m 1 #[.val (.ref a)] [(.ref a)])) rfl rfl (hb hby d4_1)
  refine own_go st19 ?_
  show own_Goes _ _ _ _ _ _ _ (T19.setTop (mkF m 4 #[.val (.ref a)] [(.long x1)]))
  obtain ⟨_, _, ⟨T20, L20, k20, n20⟩, -, X20, ⟨Lc20, hQ20, l20, y20, z20⟩, st20⟩ := Jvm.LawKit.callS X19 hx (y := (⟨"java/time/Instant", "ofEpochSecond", "(J)Ljava/time/Instant;"⟩ : MethodName)) hown (mvT hZ (hw _ (List.mem_of_getElem? (i := 21) rfl))) (mvT hZ (hw _ (List.mem_of_getElem? (i := 22) rfl))) (mvT hZ (hw _ (List.mem_of_getElem? (i := 23) rfl))) (mvT hZ (hw _ (List.mem_of_getElem? (i := 24) rfl))) (by decide) (backOf (W := 0) (rm_ofe l Z a0 hw [] x1 aE h0 n0 O0 SE EE FE hbd) hZ (hw _ (List.mem_of_getElem? (i := 24) rfl)) (hw _ (List.mem_of_getElem? (i := 23) rfl)) (by decide) (by decide)) (g := (mkF m 4 #[.val (.ref a)] [(.long x1)])) rfl (by rw [hml]; rfl) (argsL := [(.long x1)]) (rest := []) (lenOf pd_2 rfl) rfl (by show 2 * 0 + _ ≤ _; exact Nat.le_of_eq rfl) (hb hby d4_4) (fun _ _ => ⟨rfl, e19, (by decide : 0 + 1 ≤ _), (by decide : 0 + 2 ≤ _)⟩)
  dsimp only [Pt.U, Pt.locs, Pt.cells, Pt.slots] at X20 l20 y20 z20 st20 hQ20
  subst l20 y20 z20
  obtain ⟨r20, rfl, N20q, K20q, E20q, P20⟩ := hQ20
  have N20 := Fr.app N0 N20q
  have f21 : Fld Z T20.heap a "com/example/role_rights/rolerights/scenario/ScenarioClock" "seconds" "J" (.long x1) := (Fa.keep K20q nin0)
  have O20 := O0.keep K20q all0
  have K20 := (Keep.refl h0 []).trans K20q all0
  refine own_go st20 ?_
  show own_Goes _ _ _ _ _ _ _ (T20.setTop (mkF m 7 #[.val (.ref a)] [(.ref r20)]))
  exact own_out X20 hlk (v := some (.ref r20)) (fun h => by rw [hret] at h; cases h) (fun fs hr => retOut X20 hx (t := (.object "java/time/Instant")) hret rfl (Or.inr (Or.inr (Or.inr (Or.inr ⟨rfl, rfl, rfl⟩)))) (hb hby d4_7) hr) rfl ⟨_, rfl, N20, K20, E20q, P20⟩ (by decide) (by decide)
theorem d7_0 : decode jdk_2320_method_15_code 0 = .ok (.aload_n 0, 1) := by decide +kernel
theorem d7_1 : decode jdk_2320_method_15_code 1 = .ok (.getfield 140, 3) := by decide +kernel
theorem d7_4 : decode jdk_2320_method_15_code 4 = .ok (.lreturn, 1) := by decide +kernel
theorem ef_ges (m : MethodId) (a : Addr) (x1 : Int64) : entryFrame m #[(.ref a)] 1 = mkF m 0 #[.val (.ref a)] [] := by
  first | (simp [entryFrame, mkF, argsToLocals, Value.category]; done) | rfl
def Q_ges (Z : State) (a : Addr) (x1 : Int64) (h0 : Heap) (n0 : Nat) (v : Option Value) (h : Heap) (L : List Loc) : Prop := v = some (.long x1) ∧ Fr n0 L ∧ h = h0
set_option maxRecDepth 65536 in
set_option maxHeartbeats 40000000 in
theorem rm_ges (l : Launch) (Z : State) (a0 : Array Value) (hw : ∀ d ∈ tables_1, d.before a0 Z = true) (ws : List Jvm.Cond) (a : Addr) (x1 : Int64) (h0 : Heap) (n0 : Nat) (O0 : Old Z n0 h0) (Fa : Fld Z h0 a "java/time/Instant" "seconds" "J" (.long x1)) :
    MetFree l (⟨"java/time/Instant", "getEpochSecond", "()J"⟩ : MethodName) (head1 (Jvm.Cond.code (⟨"java/time/Instant", "getEpochSecond", "()J"⟩ : MethodName) jdk_2320_method_15_code 1 (some .long) :: ws) ({ frames := 0, cells := 0, slots := 0, locals := 0 } : Room)) (fun av_ U => av_ = #[(.ref a)] ∧ Z.Warmed39 U.vm ∧ U.heap = h0) (fun _ _ _ _ _ => True) (fun _ U o_ U' => ∃ v L, o_ = .returned v ∧ Q_ges Z a x1 h0 n0 v U'.heap L ∧ FrameEnd U o_ U' L ({ frames := 0, cells := 0, slots := 0, locals := 0 } : Room).cells ({ frames := 0, cells := 0, slots := 0, locals := 0 } : Room).slots) := by
  refine MetFree.of_bodySF (plainFor_of_name pn_1) hisR ?_
  intro p e s m args below meth c s₁ Bd hml0 hP hK
  obtain ⟨rfl, hZ, hh⟩ := hP
  have hx := Bd.exec
  have hby := Bd.bytes
  have hml : c.maxLocals = 1 := hml0
  have hown : s.vm.findClass "java/time/Instant" = some m.cls := findClass_of_methodNamed Bd.named
  have hnm := (name_of_methodNamed Bd.named Bd.method).1
  have hlk := own_lk Bd
  have hret := Bd.returns
  have X0 : Stand p l e ({ frames := 0, cells := 0, slots := 0, locals := 0 } : Room) s m #[(.ref a)] below meth c s₁ [] 0 0 := Stand.of_body Bd
  have e0 : s₁.heap = h0 := by rw [← hh, Bd.state]; rfl
  have N0 := Fr.nil n0
  show own_Goes p e below s (Q_ges Z a x1 h0 n0) ({ frames := 0, cells := 0, slots := 0, locals := 0 } : Room).cells ({ frames := 0, cells := 0, slots := 0, locals := 0 } : Room).slots (s₁.setTop (entryFrame m #[(.ref a)] 1))
  refine own_go (fun _ ww => castTop (ef_ges m a x1) ww) ?_
  show own_Goes _ _ _ _ _ _ _ (s₁.setTop (mkF m 0 #[.val (.ref a)] []))
  refine own_go (fun _ ww => XS.aloadN X0.here hx rfl (hb hby d7_0) rfl rfl ww) ?_
  show own_Goes _ _ _ _ _ _ _ (s₁.setTop (mkF m 1 #[.val (.ref a)] [(.ref a)]))
  obtain ⟨T22, X22, e22, st22⟩ := getF X0 hx hZ hown (host := "") (Or.inl (hw _ (List.mem_of_getElem? (i := 34) rfl))) Via.refl e0 Fa (g := (mkF m 1 #[.val (.ref a)] [(.ref a)])) rfl rfl (hb hby d7_1)
  refine own_go st22 ?_
  show own_Goes _ _ _ _ _ _ _ (T22.setTop (mkF m 4 #[.val (.ref a)] [(.long x1)]))
  exact own_out X22 hlk (v := some (.long x1)) (fun h => by rw [hret] at h; cases h) (fun fs hr => retOut X22 hx (t := .long) hret rfl (Or.inr (Or.inl ⟨rfl, rfl, _, rfl⟩)) (hb hby d7_4) hr) e22 ⟨rfl, N0, rfl⟩ (by decide) (by decide)
theorem d3_0 : decode method_2_code 0 = .ok (.aload_n 0, 1) := by decide +kernel
theorem d3_1 : decode method_2_code 1 = .ok (.invokevirtual 7, 3) := by decide +kernel
theorem d3_4 : decode method_2_code 4 = .ok (.invokevirtual 13, 3) := by decide +kernel
theorem d3_7 : decode method_2_code 7 = .ok (.lreturn, 1) := by decide +kernel
theorem ef_read (m : MethodId) (a : Addr) (x1 : Int64) (aE : Addr) : entryFrame m #[(.ref a)] 1 = mkF m 0 #[.val (.ref a)] [] := by
  first | (simp [entryFrame, mkF, argsToLocals, Value.category]; done) | rfl
def Q_read (Z : State) (a : Addr) (x1 : Int64) (aE : Addr) (h0 : Heap) (n0 : Nat) (v : Option Value) (h : Heap) (L : List Loc) : Prop := v = some (.long x1) ∧ Fr n0 L ∧ Keep h0 h []
set_option maxRecDepth 65536 in
set_option maxHeartbeats 40000000 in
theorem rm_read (l : Launch) (Z : State) (a0 : Array Value) (hw : ∀ d ∈ tables_1, d.before a0 Z = true) (ws : List Jvm.Cond) (a : Addr) (x1 : Int64) (aE : Addr) (h0 : Heap) (n0 : Nat) (O0 : Old Z n0 h0) (Fa : Fld Z h0 a "com/example/role_rights/rolerights/scenario/ScenarioClock" "seconds" "J" (.long x1)) (Ea : Exa Z h0 a "com/example/role_rights/rolerights/scenario/ScenarioClock") (SE : Sta Z Z.heap "java/time/Instant" "EPOCH" "Ljava/time/Instant;" (.ref aE)) (EE : Exa Z Z.heap aE "java/time/Instant") (FE : Fld Z Z.heap aE "java/time/Instant" "seconds" "J" (.long (0 : Int64))) (hbd : 0 ≤ x1.toInt ∧ x1.toInt < 8589934592) :
    MetFree l (⟨"com/example/role_rights/rolerights/scenario/ScenarioClockAdvancePinLaw", "read", "(Lcom/example/role_rights/rolerights/scenario/ScenarioClock;)J"⟩ : MethodName) (head1 (Jvm.Cond.code (⟨"com/example/role_rights/rolerights/scenario/ScenarioClockAdvancePinLaw", "read", "(Lcom/example/role_rights/rolerights/scenario/ScenarioClock;)J"⟩ : MethodName) method_2_code 1 (some .long) :: ws) ({ frames := 5, cells := 1, slots := 2, locals := 67 } : Room)) (fun av_ U => av_ = #[(.ref a)] ∧ Z.Warmed39 U.vm ∧ U.heap = h0) (fun _ _ _ _ _ => True) (fun _ U o_ U' => ∃ v L, o_ = .returned v ∧ Q_read Z a x1 aE h0 n0 v U'.heap L ∧ FrameEnd U o_ U' L ({ frames := 5, cells := 1, slots := 2, locals := 67 } : Room).cells ({ frames := 5, cells := 1, slots := 2, locals := 67 } : Room).slots) := by
  refine MetFree.of_bodySF (plainFor_of_name pn_2) hisR ?_
  intro p e s m args below meth c s₁ Bd hml0 hP hK
  obtain ⟨rfl, hZ, hh⟩ := hP
  have hx := Bd.exec
  have hby := Bd.bytes
  have hml : c.maxLocals = 1 := hml0
  have hown : s.vm.findClass "com/example/role_rights/rolerights/scenario/ScenarioClockAdvancePinLaw" = some m.cls := findClass_of_methodNamed Bd.named
  have hnm := (name_of_methodNamed Bd.named Bd.method).1
  have hlk := own_lk Bd
  have hret := Bd.returns
  have X0 : Stand p l e ({ frames := 5, cells := 1, slots := 2, locals := 67 } : Room) s m #[(.ref a)] below meth c s₁ [] 0 0 := Stand.of_body Bd
  have e0 : s₁.heap = h0 := by rw [← hh, Bd.state]; rfl
  have N0 := Fr.nil n0
  show own_Goes p e below s (Q_read Z a x1 aE h0 n0) ({ frames := 5, cells := 1, slots := 2, locals := 67 } : Room).cells ({ frames := 5, cells := 1, slots := 2, locals := 67 } : Room).slots (s₁.setTop (entryFrame m #[(.ref a)] 1))
  refine own_go (fun _ ww => castTop (ef_read m a x1 aE) ww) ?_
  show own_Goes _ _ _ _ _ _ _ (s₁.setTop (mkF m 0 #[.val (.ref a)] []))
  refine own_go (fun _ ww => XS.aloadN X0.here hx rfl (hb hby d3_0) rfl rfl ww) ?_
  show own_Goes _ _ _ _ _ _ _ (s₁.setTop (mkF m 1 #[.val (.ref a)] [(.ref a)]))
  obtain ⟨cq23, kq23, q23a, q23b, q23c⟩ := isOf hZ e0 Ea
  obtain ⟨_, _, ⟨T23, L23, k23, n23⟩, -, X23, ⟨Lc23, hQ23, l23, y23, z23⟩, st23⟩ := X0.virtualBack hx (y := (⟨"com/example/role_rights/rolerights/scenario/ScenarioClock", "instant", "()Ljava/time/Instant;"⟩ : MethodName)) (z := (⟨"com/example/role_rights/rolerights/scenario/ScenarioClock", "instant", "()Ljava/time/Instant;"⟩ : MethodName)) hown (mvT hZ (hw _ (List.mem_of_getElem? (i := 14) rfl))) (mvT hZ (hw _ (List.mem_of_getElem? (i := 15) rfl))) (notFace_of_selects (args := #[]) (mvT hZ (hw _ (List.mem_of_getElem? (i := 17) rfl)))) (mvT hZ (hw _ (List.mem_of_getElem? (i := 17) rfl))) (mvT hZ (hw _ (List.mem_of_getElem? (i := 16) rfl))) (by decide) (backOf (W := 0) (rm_instant l Z a0 hw [] a x1 aE h0 n0 O0 Fa SE EE FE hbd) hZ (hw _ (List.mem_of_getElem? (i := 18) rfl)) (hw _ (List.mem_of_getElem? (i := 3) rfl)) (by decide) (by decide)) q23a q23c (g := (mkF m 1 #[.val (.ref a)] [(.ref a)])) rfl (by rw [hml]; rfl) (Steps.refl _) (argsL := []) (rest := []) (lenOf pd_3 rfl) rfl (by show 2 * 0 + _ ≤ _; exact Nat.le_of_eq rfl) (hb hby d3_1) (fun _ _ => ⟨rfl, e0, (by decide : 0 + 1 ≤ _), (by decide : 0 + 2 ≤ _)⟩)
  dsimp only [Pt.U, Pt.locs, Pt.cells, Pt.slots] at X23 l23 y23 z23 st23 hQ23
  subst l23 y23 z23
  obtain ⟨r23, rfl, N23q, K23q, E23q, P23⟩ := hQ23
  have N23 := Fr.app N0 N23q
  have f24 : Fld Z T23.heap a "com/example/role_rights/rolerights/scenario/ScenarioClock" "seconds" "J" (.long x1) := (Fa.keep K23q nin0)
  have f25 : Exa Z T23.heap a "com/example/role_rights/rolerights/scenario/ScenarioClock" := (Ea.keep K23q)
  have O23 := O0.keep K23q all0
  have K23 := (Keep.refl h0 []).trans K23q all0
  refine own_go (fun _ ww => Steps.trans st23 ww) ?_
  show own_Goes _ _ _ _ _ _ _ (T23.setTop (mkF m 4 #[.val (.ref a)] [(.ref r23)]))
  obtain ⟨cq26, kq26, q26a, q26b, q26c⟩ := isOf hZ rfl E23q
  obtain ⟨_, _, ⟨T26, L26, k26, n26⟩, -, X26, ⟨Lc26, hQ26, l26, y26, z26⟩, st26⟩ := X23.virtualBack hx (y := (⟨"java/time/Instant", "getEpochSecond", "()J"⟩ : MethodName)) (z := (⟨"java/time/Instant", "getEpochSecond", "()J"⟩ : MethodName)) hown (mvT hZ (hw _ (List.mem_of_getElem? (i := 29) rfl))) (mvT hZ (hw _ (List.mem_of_getElem? (i := 30) rfl))) (notFace_of_selects (args := #[]) (mvT hZ (hw _ (List.mem_of_getElem? (i := 32) rfl)))) (mvT hZ (hw _ (List.mem_of_getElem? (i := 32) rfl))) (mvT hZ (hw _ (List.mem_of_getElem? (i := 31) rfl))) (by decide) (backOf (W := 0) (rm_ges l Z a0 hw [] r23 x1 T23.heap n0 O23 P23) hZ (hw _ (List.mem_of_getElem? (i := 33) rfl)) (hw _ (List.mem_of_getElem? (i := 23) rfl)) (by decide) (by decide)) q26a q26c (g := (mkF m 4 #[.val (.ref a)] [(.ref r23)])) rfl (by rw [hml]; rfl) (Steps.refl _) (argsL := []) (rest := []) (lenOf pd_4 rfl) rfl (by show 2 * 0 + _ ≤ _; exact Nat.le_of_eq rfl) (hb hby d3_4) (fun _ _ => ⟨rfl, rfl, (by decide : 1 + 0 ≤ _), (by decide : 2 + 0 ≤ _)⟩)
  dsimp only [Pt.U, Pt.locs, Pt.cells, Pt.slots] at X26 l26 y26 z26 st26 hQ26
  subst l26 y26 z26
  obtain ⟨rfl, N26q, e26⟩ := hQ26
  have N26 := Fr.app N23 N26q
  refine own_go (fun _ ww => Steps.trans st26 ww) ?_
  show own_Goes _ _ _ _ _ _ _ (T26.setTop (mkF m 7 #[.val (.ref a)] [(.long x1)]))
  exact own_out X26 hlk (v := some (.long x1)) (fun h => by rw [hret] at h; cases h) (fun fs hr => retOut X26 hx (t := .long) hret rfl (Or.inr (Or.inl ⟨rfl, rfl, _, rfl⟩)) (hb hby d3_7) hr) e26 ⟨rfl, N26, K23⟩ (by decide) (by decide)
theorem d8_0 : decode prog_54_method_3_code 0 = .ok (.iload_n 1, 1) := by decide +kernel
theorem d8_1 : decode prog_54_method_3_code 1 = .ok (.i2l, 1) := by decide +kernel
theorem d8_2 : decode prog_54_method_3_code 2 = .ok (.getstatic 19, 3) := by decide +kernel
theorem d8_5 : decode prog_54_method_3_code 5 = .ok (.aload_n 0, 1) := by decide +kernel
theorem d8_6 : decode prog_54_method_3_code 6 = .ok (.getfield 7, 3) := by decide +kernel
theorem d8_9 : decode prog_54_method_3_code 9 = .ok (.lsub, 1) := by decide +kernel
theorem d8_10 : decode prog_54_method_3_code 10 = .ok (.lcmp, 1) := by decide +kernel
theorem d8_11 : decode prog_54_method_3_code 11 = .ok (.ifCond .le 19, 3) := by decide +kernel
theorem d8_30 : decode prog_54_method_3_code 30 = .ok (.aload_n 0, 1) := by decide +kernel
theorem d8_31 : decode prog_54_method_3_code 31 = .ok (.dup, 1) := by decide +kernel
theorem d8_32 : decode prog_54_method_3_code 32 = .ok (.getfield 7, 3) := by decide +kernel
theorem d8_35 : decode prog_54_method_3_code 35 = .ok (.iload_n 1, 1) := by decide +kernel
theorem d8_36 : decode prog_54_method_3_code 36 = .ok (.i2l, 1) := by decide +kernel
theorem d8_37 : decode prog_54_method_3_code 37 = .ok (.ladd, 1) := by decide +kernel
theorem d8_38 : decode prog_54_method_3_code 38 = .ok (.putfield 7, 3) := by decide +kernel
theorem d8_41 : decode prog_54_method_3_code 41 = .ok (.return_, 1) := by decide +kernel
theorem ef_adv (m : MethodId) (a : Addr) (x1 : Int32) (s1 : Int64) (r : Int64) : entryFrame m #[(.ref a), (.int x1)] 2 = mkF m 0 #[.val (.ref a), .val (.int x1)] [] := by
  first | (simp [entryFrame, mkF, argsToLocals, Value.category]; done) | rfl
def Q_adv (Z : State) (a : Addr) (x1 : Int32) (s1 : Int64) (r : Int64) (h0 : Heap) (n0 : Nat) (v : Option Value) (h : Heap) (L : List Loc) : Prop := v = none ∧ Fr n0 L ∧ Keep h0 h [a] ∧ Fld Z h a "com/example/role_rights/rolerights/scenario/ScenarioClock" "seconds" "J" (.long r)
set_option maxRecDepth 65536 in
set_option maxHeartbeats 40000000 in
theorem rm_adv (l : Launch) (Z : State) (a0 : Array Value) (hw : ∀ d ∈ tables_1, d.before a0 Z = true) (ws : List Jvm.Cond) (a : Addr) (x1 : Int32) (s1 : Int64) (r : Int64) (h0 : Heap) (n0 : Nat) (O0 : Old Z n0 h0) (Fa : Fld Z h0 a "com/example/role_rights/rolerights/scenario/ScenarioClock" "seconds" "J" (.long s1)) (Ea : Exa Z h0 a "com/example/role_rights/rolerights/scenario/ScenarioClock") (g_a : n0 ≤ a) (SL : Sta Z Z.heap "com/example/role_rights/rolerights/scenario/ScenarioClock" "LAST_SECOND" "J" (.long (31556889864403199 : Int64))) (hle : ¬ (0 : Int32) < XT.cmpL (x1.toInt64) ((31556889864403199 : Int64) - s1)) (hr : s1 + x1.toInt64 = r) :
    MetFree l (⟨"com/example/role_rights/rolerights/scenario/ScenarioClock", "advance", "(I)V"⟩ : MethodName) (head1 (Jvm.Cond.code (⟨"com/example/role_rights/rolerights/scenario/ScenarioClock", "advance", "(I)V"⟩ : MethodName) prog_54_method_3_code 2 none :: ws) ({ frames := 0, cells := 0, slots := 0, locals := 0 } : Room)) (fun av_ U => av_ = #[(.ref a), (.int x1)] ∧ Z.Warmed39 U.vm ∧ U.heap = h0) (fun _ _ _ _ _ => True) (fun _ U o_ U' => ∃ v L, o_ = .returned v ∧ Q_adv Z a x1 s1 r h0 n0 v U'.heap L ∧ FrameEnd U o_ U' L ({ frames := 0, cells := 0, slots := 0, locals := 0 } : Room).cells ({ frames := 0, cells := 0, slots := 0, locals := 0 } : Room).slots) := by
  refine MetFree.of_bodySF (plainFor_of_name pn_0) hisR ?_
  intro p e s m args below meth c s₁ Bd hml0 hP hK
  obtain ⟨rfl, hZ, hh⟩ := hP
  have hx := Bd.exec
  have hby := Bd.bytes
  have hml : c.maxLocals = 2 := hml0
  have hown : s.vm.findClass "com/example/role_rights/rolerights/scenario/ScenarioClock" = some m.cls := findClass_of_methodNamed Bd.named
  have hnm := (name_of_methodNamed Bd.named Bd.method).1
  have hlk := own_lk Bd
  have hret := Bd.returns
  have X0 : Stand p l e ({ frames := 0, cells := 0, slots := 0, locals := 0 } : Room) s m #[(.ref a), (.int x1)] below meth c s₁ [] 0 0 := Stand.of_body Bd
  have e0 : s₁.heap = h0 := by rw [← hh, Bd.state]; rfl
  have N0 := Fr.nil n0
  show own_Goes p e below s (Q_adv Z a x1 s1 r h0 n0) ({ frames := 0, cells := 0, slots := 0, locals := 0 } : Room).cells ({ frames := 0, cells := 0, slots := 0, locals := 0 } : Room).slots (s₁.setTop (entryFrame m #[(.ref a), (.int x1)] 2))
  refine own_go (fun _ ww => castTop (ef_adv m a x1 s1 r) ww) ?_
  show own_Goes _ _ _ _ _ _ _ (s₁.setTop (mkF m 0 #[.val (.ref a), .val (.int x1)] []))
  refine own_go (fun _ ww => XS.iloadN X0.here hx rfl (hb hby d8_0) rfl  ww) ?_
  show own_Goes _ _ _ _ _ _ _ (s₁.setTop (mkF m 1 #[.val (.ref a), .val (.int x1)] [(.int x1)]))
  refine own_go (fun _ ww => XT.i2l X0.here hx rfl (hb hby d8_1) rfl ww) ?_
  show own_Goes _ _ _ _ _ _ _ (s₁.setTop (mkF m 2 #[.val (.ref a), .val (.int x1)] [(.long (x1.toInt64))]))
  obtain ⟨T27, X27, e27, st27⟩ := getS X0 hx hZ hown (host := "") (hw _ (List.mem_of_getElem? (i := 41) rfl)) Via.refl e0 (SL.ext O0.2) (g := (mkF m 2 #[.val (.ref a), .val (.int x1)] [(.long (x1.toInt64))])) rfl (hb hby d8_2)
  refine own_go st27 ?_
  show own_Goes _ _ _ _ _ _ _ (T27.setTop (mkF m 5 #[.val (.ref a), .val (.int x1)] [(.long (31556889864403199 : Int64)), (.long (x1.toInt64))]))
  refine own_go (fun _ ww => XS.aloadN X27.here hx rfl (hb hby d8_5) rfl rfl ww) ?_
  show own_Goes _ _ _ _ _ _ _ (T27.setTop (mkF m 6 #[.val (.ref a), .val (.int x1)] [(.ref a), (.long (31556889864403199 : Int64)), (.long (x1.toInt64))]))
  obtain ⟨T28, X28, e28, st28⟩ := getF X27 hx hZ hown (host := "") (Or.inl (hw _ (List.mem_of_getElem? (i := 19) rfl))) Via.refl e27 Fa (g := (mkF m 6 #[.val (.ref a), .val (.int x1)] [(.ref a), (.long (31556889864403199 : Int64)), (.long (x1.toInt64))])) rfl rfl (hb hby d8_6)
  refine own_go st28 ?_
  show own_Goes _ _ _ _ _ _ _ (T28.setTop (mkF m 9 #[.val (.ref a), .val (.int x1)] [(.long s1), (.long (31556889864403199 : Int64)), (.long (x1.toInt64))]))
  refine own_go (fun _ ww => XT.lsub X28.here hx rfl (hb hby d8_9) rfl ww) ?_
  show own_Goes _ _ _ _ _ _ _ (T28.setTop (mkF m 10 #[.val (.ref a), .val (.int x1)] [(.long ((31556889864403199 : Int64) - s1)), (.long (x1.toInt64))]))
  refine own_go (fun _ ww => XT.lcmp X28.here hx rfl (hb hby d8_10) rfl ww) ?_
  show own_Goes _ _ _ _ _ _ _ (T28.setTop (mkF m 11 #[.val (.ref a), .val (.int x1)] [(.int (XT.cmpL (x1.toInt64) ((31556889864403199 : Int64) - s1)))]))
  refine own_go (fun _ ww => XS.ifYes X28.here hx rfl (pc0 := 11) (pc' := 30) rfl (hb hby d8_11) rfl (own_if .le (flt hle).2.2.2) (by decide) (by decide) ww) ?_
  show own_Goes _ _ _ _ _ _ _ (T28.setTop (mkF m 30 #[.val (.ref a), .val (.int x1)] []))
  refine own_go (fun _ ww => XS.aloadN X28.here hx rfl (hb hby d8_30) rfl rfl ww) ?_
  show own_Goes _ _ _ _ _ _ _ (T28.setTop (mkF m 31 #[.val (.ref a), .val (.int x1)] [(.ref a)]))
  refine own_go (fun _ ww => XS.dup X28.here hx rfl (hb hby d8_31) rfl rfl ww) ?_
  show own_Goes _ _ _ _ _ _ _ (T28.setTop (mkF m 32 #[.val (.ref a), .val (.int x1)] [(.ref a), (.ref a)]))
  obtain ⟨T29, X29, e29, st29⟩ := getF X28 hx hZ hown (host := "") (Or.inl (hw _ (List.mem_of_getElem? (i := 19) rfl))) Via.refl e28 Fa (g := (mkF m 32 #[.val (.ref a), .val (.int x1)] [(.ref a), (.ref a)])) rfl rfl (hb hby d8_32)
  refine own_go st29 ?_
  show own_Goes _ _ _ _ _ _ _ (T29.setTop (mkF m 35 #[.val (.ref a), .val (.int x1)] [(.long s1), (.ref a)]))
  refine own_go (fun _ ww => XS.iloadN X29.here hx rfl (hb hby d8_35) rfl  ww) ?_
  show own_Goes _ _ _ _ _ _ _ (T29.setTop (mkF m 36 #[.val (.ref a), .val (.int x1)] [(.int x1), (.long s1), (.ref a)]))
  refine own_go (fun _ ww => XT.i2l X29.here hx rfl (hb hby d8_36) rfl ww) ?_
  show own_Goes _ _ _ _ _ _ _ (T29.setTop (mkF m 37 #[.val (.ref a), .val (.int x1)] [(.long (x1.toInt64)), (.long s1), (.ref a)]))
  refine own_go (fun _ ww => XT.ladd X29.here hx rfl (hb hby d8_37) rfl ww) ?_
  show own_Goes _ _ _ _ _ _ _ (T29.setTop (mkF m 38 #[.val (.ref a), .val (.int x1)] [(.long (s1 + (x1.toInt64))), (.ref a)]))
  obtain ⟨T30, h30, X30, e30, W30, st30⟩ := putF X29 hx hZ hown (host := "") (Or.inl (hw _ (List.mem_of_getElem? (i := 19) rfl))) Via.refl e29 Fa Ea (Or.inl (hw _ (List.mem_of_getElem? (i := 20) rfl))) (hw _ (List.mem_of_getElem? (i := 2) rfl)) (ty := .long) (by decide) rfl rfl (g := (mkF m 38 #[.val (.ref a), .val (.int x1)] [(.long (s1 + (x1.toInt64))), (.ref a)])) rfl rfl (hb hby d8_38)
  have f31 : Fld Z h30 a "com/example/role_rights/rolerights/scenario/ScenarioClock" "seconds" "J" (.long (s1 + (x1.toInt64))) := (Fa.same W30)
  have f32 : Exa Z h30 a "com/example/role_rights/rolerights/scenario/ScenarioClock" := (Ea.wr W30)
  have N30 := Fr.snoc X30 N0 g_a
  have O30 := O0.wr W30 g_a
  have K30 := (Keep.refl h0 [a]).wr W30 (Or.inl (List.mem_of_getElem? (i := 0) rfl))
  refine own_go st30 ?_
  show own_Goes _ _ _ _ _ _ _ (T30.setTop (mkF m 41 #[.val (.ref a), .val (.int x1)] []))
  exact own_out X30 hlk (v := none) (fun _ => rfl) (fun fs hr => X30.returnOut hx hret (hb hby d8_41) hr) e30 ⟨rfl, N30, K30, hr ▸ f31⟩ (by decide) (by decide)
theorem ef_law (m : MethodId) (x0 : Int32) (x1 : Int32) (x2 : Int32) (aE : Addr) : entryFrame m #[(.int x0), (.int x1), (.int x2)] maxLocals = mkF m 0 #[.val (.int x0), .val (.int x1), .val (.int x2), .unset, .unset, .unset, .unset, .unset, .unset, .unset, .unset] [] := by
  first | (simp [entryFrame, mkF, argsToLocals, Value.category, maxLocals]; done) | rfl
def Q_law (Z : State) (x0 : Int32) (x1 : Int32) (x2 : Int32) (aE : Addr) (h0 : Heap) (n0 : Nat) (v : Option Value) (h : Heap) (L : List Loc) : Prop := v = some (.int 1) ∧ Fr n0 L
set_option maxRecDepth 65536 in
set_option maxHeartbeats 40000000 in
theorem rm_law (l : Launch) (Z : State) (a0 : Array Value) (hw : ∀ d ∈ tables_1, d.before a0 Z = true) (ws : List Jvm.Cond) (x0 : Int32) (x1 : Int32) (x2 : Int32) (aE : Addr) (h0 : Heap) (n0 : Nat) (O0 : Old Z n0 h0) (SE : Sta Z Z.heap "java/time/Instant" "EPOCH" "Ljava/time/Instant;" (.ref aE)) (EE : Exa Z Z.heap aE "java/time/Instant") (FE : Fld Z Z.heap aE "java/time/Instant" "seconds" "J" (.long (0 : Int64))) (SL : Sta Z Z.heap "com/example/role_rights/rolerights/scenario/ScenarioClock" "LAST_SECOND" "J" (.long (31556889864403199 : Int64))) :
    MetFree l x (head1 (Jvm.Cond.code x code maxLocals ret :: ws) room_1) (fun av_ U => av_ = #[(.int x0), (.int x1), (.int x2)] ∧ Z.Warmed39 U.vm ∧ U.heap = h0) (fun _ _ _ _ _ => True) (fun _ U o_ U' => ∃ v L, o_ = .returned v ∧ Q_law Z x0 x1 x2 aE h0 n0 v U'.heap L ∧ FrameEnd U o_ U' L room_1.cells room_1.slots) := by
  refine MetFree.of_bodySF (plainFor_of_name pn_2) hisR ?_
  intro p e s m args below meth c s₁ Bd hml0 hP hK
  obtain ⟨rfl, hZ, hh⟩ := hP
  have hx := Bd.exec
  have hby := Bd.bytes
  have hml : c.maxLocals = 11 := hml0
  have hown : s.vm.findClass "com/example/role_rights/rolerights/scenario/ScenarioClockAdvancePinLaw" = some m.cls := findClass_of_methodNamed Bd.named
  have hnm := (name_of_methodNamed Bd.named Bd.method).1
  have hlk := own_lk Bd
  have hret := Bd.returns
  have X0 : Stand p l e room_1 s m #[(.int x0), (.int x1), (.int x2)] below meth c s₁ [] 0 0 := Stand.of_body Bd
  have e0 : s₁.heap = h0 := by rw [← hh, Bd.state]; rfl
  have N0 := Fr.nil n0
  show own_Goes p e below s (Q_law Z x0 x1 x2 aE h0 n0) room_1.cells room_1.slots (s₁.setTop (entryFrame m #[(.int x0), (.int x1), (.int x2)] maxLocals))
  refine own_go (fun _ ww => castTop (ef_law m x0 x1 x2 aE) ww) ?_
  show own_Goes _ _ _ _ _ _ _ (s₁.setTop (mkF m 0 #[.val (.int x0), .val (.int x1), .val (.int x2), .unset, .unset, .unset, .unset, .unset, .unset, .unset, .unset] []))
  refine own_go (fun _ ww => XS.iloadN X0.here hx rfl (hb hby at_0) rfl  ww) ?_
  show own_Goes _ _ _ _ _ _ _ (s₁.setTop (mkF m 1 #[.val (.int x0), .val (.int x1), .val (.int x2), .unset, .unset, .unset, .unset, .unset, .unset, .unset, .unset] [(.int x0)]))
  refine own_go (fun _ ww => XT.i2l X0.here hx rfl (hb hby at_1) rfl ww) ?_
  show own_Goes _ _ _ _ _ _ _ (s₁.setTop (mkF m 2 #[.val (.int x0), .val (.int x1), .val (.int x2), .unset, .unset, .unset, .unset, .unset, .unset, .unset, .unset] [(.long (x0.toInt64))]))
  refine own_go (fun _ ww => X0.ldc2J hx hown (mvT hZ (hw _ (List.mem_of_getElem? (i := 0) rfl))) rfl (hb hby at_2) ww) ?_
  show own_Goes _ _ _ _ _ _ _ (s₁.setTop (mkF m 5 #[.val (.int x0), .val (.int x1), .val (.int x2), .unset, .unset, .unset, .unset, .unset, .unset, .unset, .unset] [(.long (2147483647 : Int64)), (.long (x0.toInt64))]))
  refine own_go (fun _ ww => XT.land X0.here hx rfl (hb hby at_5) rfl ww) ?_
  show own_Goes _ _ _ _ _ _ _ (s₁.setTop (mkF m 6 #[.val (.int x0), .val (.int x1), .val (.int x2), .unset, .unset, .unset, .unset, .unset, .unset, .unset, .unset] [(.long ((x0.toInt64) &&& (2147483647 : Int64)))]))
  obtain ⟨y0, ey0, by0⟩ : ∃ y, y = ((x0.toInt64) &&& (2147483647 : Int64)) ∧ 0 ≤ y.toInt ∧ y.toInt < 2147483648 := ⟨_, rfl, own_bd x0⟩
  rw [← ey0]
  show own_Goes _ _ _ _ _ _ _ (s₁.setTop (mkF m 6 #[.val (.int x0), .val (.int x1), .val (.int x2), .unset, .unset, .unset, .unset, .unset, .unset, .unset, .unset] [(.long y0)]))
  refine own_go (fun _ ww => XT.lstoreN X0.here hx rfl (hb hby at_6) rfl (l' := #[.val (.int x0), .val (.int x1), .val (.int x2), .val (.long y0), .second, .unset, .unset, .unset, .unset, .unset, .unset]) rfl ww) ?_
  show own_Goes _ _ _ _ _ _ _ (s₁.setTop (mkF m 7 #[.val (.int x0), .val (.int x1), .val (.int x2), .val (.long y0), .second, .unset, .unset, .unset, .unset, .unset, .unset] []))
  refine own_go (fun _ ww => XS.iloadN X0.here hx rfl (hb hby at_7) rfl  ww) ?_
  show own_Goes _ _ _ _ _ _ _ (s₁.setTop (mkF m 8 #[.val (.int x0), .val (.int x1), .val (.int x2), .val (.long y0), .second, .unset, .unset, .unset, .unset, .unset, .unset] [(.int x1)]))
  refine own_go (fun _ ww => XT.i2l X0.here hx rfl (hb hby at_8) rfl ww) ?_
  show own_Goes _ _ _ _ _ _ _ (s₁.setTop (mkF m 9 #[.val (.int x0), .val (.int x1), .val (.int x2), .val (.long y0), .second, .unset, .unset, .unset, .unset, .unset, .unset] [(.long (x1.toInt64))]))
  refine own_go (fun _ ww => X0.ldc2J hx hown (mvT hZ (hw _ (List.mem_of_getElem? (i := 0) rfl))) rfl (hb hby at_9) ww) ?_
  show own_Goes _ _ _ _ _ _ _ (s₁.setTop (mkF m 12 #[.val (.int x0), .val (.int x1), .val (.int x2), .val (.long y0), .second, .unset, .unset, .unset, .unset, .unset, .unset] [(.long (2147483647 : Int64)), (.long (x1.toInt64))]))
  refine own_go (fun _ ww => XT.land X0.here hx rfl (hb hby at_12) rfl ww) ?_
  show own_Goes _ _ _ _ _ _ _ (s₁.setTop (mkF m 13 #[.val (.int x0), .val (.int x1), .val (.int x2), .val (.long y0), .second, .unset, .unset, .unset, .unset, .unset, .unset] [(.long ((x1.toInt64) &&& (2147483647 : Int64)))]))
  obtain ⟨y1, ey1, by1⟩ : ∃ y, y = ((x1.toInt64) &&& (2147483647 : Int64)) ∧ 0 ≤ y.toInt ∧ y.toInt < 2147483648 := ⟨_, rfl, own_bd x1⟩
  rw [← ey1]
  show own_Goes _ _ _ _ _ _ _ (s₁.setTop (mkF m 13 #[.val (.int x0), .val (.int x1), .val (.int x2), .val (.long y0), .second, .unset, .unset, .unset, .unset, .unset, .unset] [(.long y1)]))
  refine own_go (fun _ ww => XT.lstore X0.here hx rfl (hb hby at_13) rfl (l' := #[.val (.int x0), .val (.int x1), .val (.int x2), .val (.long y0), .second, .val (.long y1), .second, .unset, .unset, .unset, .unset]) rfl ww) ?_
  show own_Goes _ _ _ _ _ _ _ (s₁.setTop (mkF m 15 #[.val (.int x0), .val (.int x1), .val (.int x2), .val (.long y0), .second, .val (.long y1), .second, .unset, .unset, .unset, .unset] []))
  refine own_go (fun _ ww => XS.iloadN X0.here hx rfl (hb hby at_15) rfl  ww) ?_
  show own_Goes _ _ _ _ _ _ _ (s₁.setTop (mkF m 16 #[.val (.int x0), .val (.int x1), .val (.int x2), .val (.long y0), .second, .val (.long y1), .second, .unset, .unset, .unset, .unset] [(.int x2)]))
  refine own_go (fun _ ww => XT.i2l X0.here hx rfl (hb hby at_16) rfl ww) ?_
  show own_Goes _ _ _ _ _ _ _ (s₁.setTop (mkF m 17 #[.val (.int x0), .val (.int x1), .val (.int x2), .val (.long y0), .second, .val (.long y1), .second, .unset, .unset, .unset, .unset] [(.long (x2.toInt64))]))
  refine own_go (fun _ ww => X0.ldc2J hx hown (mvT hZ (hw _ (List.mem_of_getElem? (i := 0) rfl))) rfl (hb hby at_17) ww) ?_
  show own_Goes _ _ _ _ _ _ _ (s₁.setTop (mkF m 20 #[.val (.int x0), .val (.int x1), .val (.int x2), .val (.long y0), .second, .val (.long y1), .second, .unset, .unset, .unset, .unset] [(.long (2147483647 : Int64)), (.long (x2.toInt64))]))
  refine own_go (fun _ ww => XT.land X0.here hx rfl (hb hby at_20) rfl ww) ?_
  show own_Goes _ _ _ _ _ _ _ (s₁.setTop (mkF m 21 #[.val (.int x0), .val (.int x1), .val (.int x2), .val (.long y0), .second, .val (.long y1), .second, .unset, .unset, .unset, .unset] [(.long ((x2.toInt64) &&& (2147483647 : Int64)))]))
  obtain ⟨y2, ey2, by2⟩ : ∃ y, y = ((x2.toInt64) &&& (2147483647 : Int64)) ∧ 0 ≤ y.toInt ∧ y.toInt < 2147483648 := ⟨_, rfl, own_bd x2⟩
  rw [← ey2]
  show own_Goes _ _ _ _ _ _ _ (s₁.setTop (mkF m 21 #[.val (.int x0), .val (.int x1), .val (.int x2), .val (.long y0), .second, .val (.long y1), .second, .unset, .unset, .unset, .unset] [(.long y2)]))
  refine own_go (fun _ ww => XT.lstore X0.here hx rfl (hb hby at_21) rfl (l' := #[.val (.int x0), .val (.int x1), .val (.int x2), .val (.long y0), .second, .val (.long y1), .second, .val (.long y2), .second, .unset, .unset]) rfl ww) ?_
  show own_Goes _ _ _ _ _ _ _ (s₁.setTop (mkF m 23 #[.val (.int x0), .val (.int x1), .val (.int x2), .val (.long y0), .second, .val (.long y1), .second, .val (.long y2), .second, .unset, .unset] []))
  have z0 : 0 ≤ (0 : Int64).toInt ∧ (0 : Int64).toInt < 4294967296 := by decide
  have q1 := own_sum ⟨by0.1, by omega⟩ by1
  have q2 := own_sum (s := y0 + y1) ⟨by omega, by omega⟩ by2
  obtain ⟨T33, h33, X33, e33, E33, A33, D33, -, st33⟩ := newO X0 hx hZ hown (hw _ (List.mem_of_getElem? (i := 1) rfl)) (hw _ (List.mem_of_getElem? (i := 2) rfl)) (hw _ (List.mem_of_getElem? (i := 3) rfl)) e0 (g := (mkF m 23 #[.val (.int x0), .val (.int x1), .val (.int x2), .val (.long y0), .second, .val (.long y1), .second, .val (.long y2), .second, .unset, .unset] [])) rfl (hb hby at_23) (by decide) (by decide)
  obtain ⟨b33, g33⟩ : ∃ z, z = h0.size := ⟨_, rfl⟩
  rw [← g33] at A33 D33 st33
  have ne_aE_b33 : aE ≠ b33 := Nat.ne_of_lt (Nat.lt_of_lt_of_le (EE.ext O0.2).lt (Nat.le_of_eq g33.symm))
  have g_b33 : n0 ≤ b33 := Nat.le_trans (O0.1 ▸ O0.2.1) (Nat.le_of_eq g33.symm)
  have O33 := O0.ext E33
  have f34 : Fld Z h33 b33 "com/example/role_rights/rolerights/scenario/ScenarioClock" "seconds" "J" (.long (0 : Int64)) := D33 (Or.inl (hw _ (List.mem_of_getElem? (i := 20) rfl))) (ty := .long) (by decide)
  refine own_go st33 ?_
  show own_Goes _ _ _ _ _ _ _ (T33.setTop (mkF m 26 #[.val (.int x0), .val (.int x1), .val (.int x2), .val (.long y0), .second, .val (.long y1), .second, .val (.long y2), .second, .unset, .unset] [(.ref b33)]))
  refine own_go (fun _ ww => XS.dup X33.here hx rfl (hb hby at_26) rfl rfl ww) ?_
  show own_Goes _ _ _ _ _ _ _ (T33.setTop (mkF m 27 #[.val (.int x0), .val (.int x1), .val (.int x2), .val (.long y0), .second, .val (.long y1), .second, .val (.long y2), .second, .unset, .unset] [(.ref b33), (.ref b33)]))
  obtain ⟨_, _, ⟨T35, L35, k35, n35⟩, -, X35, ⟨Lc35, hQ35, l35, y35, z35⟩, st35⟩ := X33.specialBack hx (y := (⟨"com/example/role_rights/rolerights/scenario/ScenarioClock", "<init>", "()V"⟩ : MethodName)) rfl hown (mvT hZ (hw _ (List.mem_of_getElem? (i := 4) rfl))) (mvT hZ (hw _ (List.mem_of_getElem? (i := 5) rfl))) (mvT hZ (hw _ (List.mem_of_getElem? (i := 6) rfl))) (by decide) (backOf (W := 1) (rm_init l Z a0 hw [] b33 h33 n0 O33 ) hZ (hw _ (List.mem_of_getElem? (i := 6) rfl)) (hw _ (List.mem_of_getElem? (i := 3) rfl)) (by decide) (by decide)) (g := (mkF m 27 #[.val (.int x0), .val (.int x1), .val (.int x2), .val (.long y0), .second, .val (.long y1), .second, .val (.long y2), .second, .unset, .unset] [(.ref b33), (.ref b33)])) rfl (by rw [hml]; rfl) (Steps.refl _) (a := b33) (argsL := []) (rest := [(.ref b33)]) (lenOf pd_5 rfl) rfl (by show 2 * 0 + _ ≤ _; exact Nat.le_of_eq rfl) (hb hby at_27) (fun _ _ => ⟨rfl, e33, (by decide : 1 + 0 ≤ _), (by decide : 1 + 0 ≤ _)⟩)
  dsimp only [Pt.U, Pt.locs, Pt.cells, Pt.slots] at X35 l35 y35 z35 st35 hQ35
  subst l35 y35 z35
  obtain ⟨rfl, N35q, e35⟩ := hQ35
  have N35 := Fr.app N0 N35q
  refine own_go (fun _ ww => Steps.trans st35 ww) ?_
  show own_Goes _ _ _ _ _ _ _ (T35.setTop (mkF m 30 #[.val (.int x0), .val (.int x1), .val (.int x2), .val (.long y0), .second, .val (.long y1), .second, .val (.long y2), .second, .unset, .unset] [(.ref b33)]))
  refine own_go (fun _ ww => XS.astore X35.here hx rfl (hb hby at_30) rfl rfl (l' := #[.val (.int x0), .val (.int x1), .val (.int x2), .val (.long y0), .second, .val (.long y1), .second, .val (.long y2), .second, .val (.ref b33), .unset]) rfl ww) ?_
  show own_Goes _ _ _ _ _ _ _ (T35.setTop (mkF m 32 #[.val (.int x0), .val (.int x1), .val (.int x2), .val (.long y0), .second, .val (.long y1), .second, .val (.long y2), .second, .val (.ref b33), .unset] []))
  refine own_go (fun _ ww => XS.aload X35.here hx rfl (hb hby at_32) rfl rfl ww) ?_
  show own_Goes _ _ _ _ _ _ _ (T35.setTop (mkF m 34 #[.val (.int x0), .val (.int x1), .val (.int x2), .val (.long y0), .second, .val (.long y1), .second, .val (.long y2), .second, .val (.ref b33), .unset] [(.ref b33)]))
  obtain ⟨_, _, ⟨T36, L36, k36, n36⟩, -, X36, ⟨Lc36, hQ36, l36, y36, z36⟩, st36⟩ := Jvm.LawKit.callS X35 hx (y := (⟨"com/example/role_rights/rolerights/scenario/ScenarioClockAdvancePinLaw", "read", "(Lcom/example/role_rights/rolerights/scenario/ScenarioClock;)J"⟩ : MethodName)) hown (mvT hZ (hw _ (List.mem_of_getElem? (i := 10) rfl))) (mvT hZ (hw _ (List.mem_of_getElem? (i := 11) rfl))) (mvT hZ (hw _ (List.mem_of_getElem? (i := 12) rfl))) (mvT hZ (hw _ (List.mem_of_getElem? (i := 13) rfl))) (by decide) (backOf (W := 0) (rm_read l Z a0 hw [] b33 (0 : Int64) aE h33 n0 O33 f34 A33 SE EE FE ⟨z0.1, by omega⟩) hZ (hw _ (List.mem_of_getElem? (i := 13) rfl)) (hw _ (List.mem_of_getElem? (i := 12) rfl)) (by decide) (by decide)) (g := (mkF m 34 #[.val (.int x0), .val (.int x1), .val (.int x2), .val (.long y0), .second, .val (.long y1), .second, .val (.long y2), .second, .val (.ref b33), .unset] [(.ref b33)])) rfl (by rw [hml]; rfl) (argsL := [(.ref b33)]) (rest := []) (lenOf pd_6 rfl) rfl (by show 2 * 0 + _ ≤ _; exact Nat.le_of_eq rfl) (hb hby at_34) (fun _ _ => ⟨rfl, e35, (by decide : 1 + 1 ≤ _), (by decide : 1 + 2 ≤ _)⟩)
  dsimp only [Pt.U, Pt.locs, Pt.cells, Pt.slots] at X36 l36 y36 z36 st36 hQ36
  subst l36 y36 z36
  obtain ⟨rfl, N36q, K36q⟩ := hQ36
  have N36 := Fr.app N35 N36q
  have f37 : Fld Z T36.heap b33 "com/example/role_rights/rolerights/scenario/ScenarioClock" "seconds" "J" (.long (0 : Int64)) := (f34.keep K36q nin0)
  have f38 : Exa Z T36.heap b33 "com/example/role_rights/rolerights/scenario/ScenarioClock" := (A33.keep K36q)
  have O36 := O33.keep K36q all0
  refine own_go st36 ?_
  show own_Goes _ _ _ _ _ _ _ (T36.setTop (mkF m 37 #[.val (.int x0), .val (.int x1), .val (.int x2), .val (.long y0), .second, .val (.long y1), .second, .val (.long y2), .second, .val (.ref b33), .unset] [(.long (0 : Int64))]))
  refine own_go (fun _ ww => XT.lconst X36.here hx rfl (hb hby at_37) ww) ?_
  show own_Goes _ _ _ _ _ _ _ (T36.setTop (mkF m 38 #[.val (.int x0), .val (.int x1), .val (.int x2), .val (.long y0), .second, .val (.long y1), .second, .val (.long y2), .second, .val (.ref b33), .unset] [(.long (0 : Int64)), (.long (0 : Int64))]))
  refine own_go (fun _ ww => XT.lcmp X36.here hx rfl (hb hby at_38) rfl ww) ?_
  show own_Goes _ _ _ _ _ _ _ (T36.setTop (mkF m 39 #[.val (.int x0), .val (.int x1), .val (.int x2), .val (.long y0), .second, .val (.long y1), .second, .val (.long y2), .second, .val (.ref b33), .unset] [(.int (XT.cmpL (0 : Int64) (0 : Int64)))]))
  refine own_go (fun _ ww => XS.ifNo X36.here hx rfl (hb hby at_39) rfl (own_if .ne (teq (own_cmpL _)).2) ww) ?_
  show own_Goes _ _ _ _ _ _ _ (T36.setTop (mkF m 42 #[.val (.int x0), .val (.int x1), .val (.int x2), .val (.long y0), .second, .val (.long y1), .second, .val (.long y2), .second, .val (.ref b33), .unset] []))
  refine own_go (fun _ ww => XS.iconst X36.here hx rfl (hb hby at_42) ww) ?_
  show own_Goes _ _ _ _ _ _ _ (T36.setTop (mkF m 43 #[.val (.int x0), .val (.int x1), .val (.int x2), .val (.long y0), .second, .val (.long y1), .second, .val (.long y2), .second, .val (.ref b33), .unset] [(.int (1 : Int32))]))
  refine own_go (fun _ ww => XS.goto X36.here hx rfl (pc0 := 43) (pc' := 47) rfl (hb hby at_43) (by decide) (by decide) ww) ?_
  show own_Goes _ _ _ _ _ _ _ (T36.setTop (mkF m 47 #[.val (.int x0), .val (.int x1), .val (.int x2), .val (.long y0), .second, .val (.long y1), .second, .val (.long y2), .second, .val (.ref b33), .unset] [(.int (1 : Int32))]))
  refine own_go (fun _ ww => XS.istore X36.here hx rfl (hb hby at_47) rfl (l' := #[.val (.int x0), .val (.int x1), .val (.int x2), .val (.long y0), .second, .val (.long y1), .second, .val (.long y2), .second, .val (.ref b33), .val (.int (1 : Int32))]) rfl ww) ?_
  show own_Goes _ _ _ _ _ _ _ (T36.setTop (mkF m 49 #[.val (.int x0), .val (.int x1), .val (.int x2), .val (.long y0), .second, .val (.long y1), .second, .val (.long y2), .second, .val (.ref b33), .val (.int (1 : Int32))] []))
  refine own_go (fun _ ww => XS.aload X36.here hx rfl (hb hby at_49) rfl rfl ww) ?_
  show own_Goes _ _ _ _ _ _ _ (T36.setTop (mkF m 51 #[.val (.int x0), .val (.int x1), .val (.int x2), .val (.long y0), .second, .val (.long y1), .second, .val (.long y2), .second, .val (.ref b33), .val (.int (1 : Int32))] [(.ref b33)]))
  refine own_go (fun _ ww => XT.lloadN X36.here hx rfl (hb hby at_51) rfl  ww) ?_
  show own_Goes _ _ _ _ _ _ _ (T36.setTop (mkF m 52 #[.val (.int x0), .val (.int x1), .val (.int x2), .val (.long y0), .second, .val (.long y1), .second, .val (.long y2), .second, .val (.ref b33), .val (.int (1 : Int32))] [(.long y0), (.ref b33)]))
  refine own_go (fun _ ww => XT.l2i X36.here hx rfl (hb hby at_52) rfl ww) ?_
  show own_Goes _ _ _ _ _ _ _ (T36.setTop (mkF m 53 #[.val (.int x0), .val (.int x1), .val (.int x2), .val (.long y0), .second, .val (.long y1), .second, .val (.long y2), .second, .val (.ref b33), .val (.int (1 : Int32))] [(.int (y0.toInt32)), (.ref b33)]))
  obtain ⟨cq39, kq39, q39a, q39b, q39c⟩ := isOf hZ rfl f38
  obtain ⟨_, _, ⟨T39, L39, k39, n39⟩, -, X39, ⟨Lc39, hQ39, l39, y39, z39⟩, st39⟩ := X36.virtualBack hx (y := (⟨"com/example/role_rights/rolerights/scenario/ScenarioClock", "advance", "(I)V"⟩ : MethodName)) (z := (⟨"com/example/role_rights/rolerights/scenario/ScenarioClock", "advance", "(I)V"⟩ : MethodName)) hown (mvT hZ (hw _ (List.mem_of_getElem? (i := 36) rfl))) (mvT hZ (hw _ (List.mem_of_getElem? (i := 37) rfl))) (notFace_of_selects (args := #[]) (mvT hZ (hw _ (List.mem_of_getElem? (i := 39) rfl)))) (mvT hZ (hw _ (List.mem_of_getElem? (i := 39) rfl))) (mvT hZ (hw _ (List.mem_of_getElem? (i := 38) rfl))) (by decide) (backOf (W := 0) (rm_adv l Z a0 hw [] b33 (y0.toInt32) (0 : Int64) y0 T36.heap n0 O36 f37 f38 g_b33 SL (own_adv z0 by0) (by rw [own_nar by0]; exact Int64.zero_add y0)) hZ (hw _ (List.mem_of_getElem? (i := 40) rfl)) (hw _ (List.mem_of_getElem? (i := 3) rfl)) (by decide) (by decide)) q39a q39c (g := (mkF m 53 #[.val (.int x0), .val (.int x1), .val (.int x2), .val (.long y0), .second, .val (.long y1), .second, .val (.long y2), .second, .val (.ref b33), .val (.int (1 : Int32))] [(.int (y0.toInt32)), (.ref b33)])) rfl (by rw [hml]; rfl) (Steps.refl _) (argsL := [(.int (y0.toInt32))]) (rest := []) (lenOf pd_7 rfl) rfl (by show 2 * 0 + _ ≤ _; exact Nat.le_of_eq rfl) (hb hby at_53) (fun _ _ => ⟨rfl, rfl, (by decide : 2 + 0 ≤ _), (by decide : 3 + 0 ≤ _)⟩)
  dsimp only [Pt.U, Pt.locs, Pt.cells, Pt.slots] at X39 l39 y39 z39 st39 hQ39
  subst l39 y39 z39
  obtain ⟨rfl, N39q, K39q, P39⟩ := hQ39
  have N39 := Fr.app N36 N39q
  have f40 : Exa Z T39.heap b33 "com/example/role_rights/rolerights/scenario/ScenarioClock" := (f38.keep K39q)
  have O39 := O36.keep K39q (allS g_b33 all0)
  refine own_go (fun _ ww => Steps.trans st39 ww) ?_
  show own_Goes _ _ _ _ _ _ _ (T39.setTop (mkF m 56 #[.val (.int x0), .val (.int x1), .val (.int x2), .val (.long y0), .second, .val (.long y1), .second, .val (.long y2), .second, .val (.ref b33), .val (.int (1 : Int32))] []))
  refine own_go (fun _ ww => XS.iload X39.here hx rfl (hb hby at_56) rfl  ww) ?_
  show own_Goes _ _ _ _ _ _ _ (T39.setTop (mkF m 58 #[.val (.int x0), .val (.int x1), .val (.int x2), .val (.long y0), .second, .val (.long y1), .second, .val (.long y2), .second, .val (.ref b33), .val (.int (1 : Int32))] [(.int (1 : Int32))]))
  refine own_go (fun _ ww => XS.ifNo X39.here hx rfl (hb hby at_58) rfl (own_if .eq (feq (by decide : ¬ ((1 : Int32) = (0 : Int32)))).1) ww) ?_
  show own_Goes _ _ _ _ _ _ _ (T39.setTop (mkF m 61 #[.val (.int x0), .val (.int x1), .val (.int x2), .val (.long y0), .second, .val (.long y1), .second, .val (.long y2), .second, .val (.ref b33), .val (.int (1 : Int32))] []))
  refine own_go (fun _ ww => XS.aload X39.here hx rfl (hb hby at_61) rfl rfl ww) ?_
  show own_Goes _ _ _ _ _ _ _ (T39.setTop (mkF m 63 #[.val (.int x0), .val (.int x1), .val (.int x2), .val (.long y0), .second, .val (.long y1), .second, .val (.long y2), .second, .val (.ref b33), .val (.int (1 : Int32))] [(.ref b33)]))
  obtain ⟨_, _, ⟨T41, L41, k41, n41⟩, -, X41, ⟨Lc41, hQ41, l41, y41, z41⟩, st41⟩ := Jvm.LawKit.callS X39 hx (y := (⟨"com/example/role_rights/rolerights/scenario/ScenarioClockAdvancePinLaw", "read", "(Lcom/example/role_rights/rolerights/scenario/ScenarioClock;)J"⟩ : MethodName)) hown (mvT hZ (hw _ (List.mem_of_getElem? (i := 10) rfl))) (mvT hZ (hw _ (List.mem_of_getElem? (i := 11) rfl))) (mvT hZ (hw _ (List.mem_of_getElem? (i := 12) rfl))) (mvT hZ (hw _ (List.mem_of_getElem? (i := 13) rfl))) (by decide) (backOf (W := 0) (rm_read l Z a0 hw [] b33 y0 aE T39.heap n0 O39 P39 f40 SE EE FE ⟨by0.1, by omega⟩) hZ (hw _ (List.mem_of_getElem? (i := 13) rfl)) (hw _ (List.mem_of_getElem? (i := 12) rfl)) (by decide) (by decide)) (g := (mkF m 63 #[.val (.int x0), .val (.int x1), .val (.int x2), .val (.long y0), .second, .val (.long y1), .second, .val (.long y2), .second, .val (.ref b33), .val (.int (1 : Int32))] [(.ref b33)])) rfl (by rw [hml]; rfl) (argsL := [(.ref b33)]) (rest := []) (lenOf pd_6 rfl) rfl (by show 2 * 0 + _ ≤ _; exact Nat.le_of_eq rfl) (hb hby at_63) (fun _ _ => ⟨rfl, rfl, (by decide : 2 + 1 ≤ _), (by decide : 3 + 2 ≤ _)⟩)
  dsimp only [Pt.U, Pt.locs, Pt.cells, Pt.slots] at X41 l41 y41 z41 st41 hQ41
  subst l41 y41 z41
  obtain ⟨rfl, N41q, K41q⟩ := hQ41
  have N41 := Fr.app N39 N41q
  have f42 : Exa Z T41.heap b33 "com/example/role_rights/rolerights/scenario/ScenarioClock" := (f40.keep K41q)
  have f43 : Fld Z T41.heap b33 "com/example/role_rights/rolerights/scenario/ScenarioClock" "seconds" "J" (.long y0) := (P39.keep K41q nin0)
  have O41 := O39.keep K41q all0
  refine own_go st41 ?_
  show own_Goes _ _ _ _ _ _ _ (T41.setTop (mkF m 66 #[.val (.int x0), .val (.int x1), .val (.int x2), .val (.long y0), .second, .val (.long y1), .second, .val (.long y2), .second, .val (.ref b33), .val (.int (1 : Int32))] [(.long y0)]))
  refine own_go (fun _ ww => XT.lloadN X41.here hx rfl (hb hby at_66) rfl  ww) ?_
  show own_Goes _ _ _ _ _ _ _ (T41.setTop (mkF m 67 #[.val (.int x0), .val (.int x1), .val (.int x2), .val (.long y0), .second, .val (.long y1), .second, .val (.long y2), .second, .val (.ref b33), .val (.int (1 : Int32))] [(.long y0), (.long y0)]))
  refine own_go (fun _ ww => XT.lcmp X41.here hx rfl (hb hby at_67) rfl ww) ?_
  show own_Goes _ _ _ _ _ _ _ (T41.setTop (mkF m 68 #[.val (.int x0), .val (.int x1), .val (.int x2), .val (.long y0), .second, .val (.long y1), .second, .val (.long y2), .second, .val (.ref b33), .val (.int (1 : Int32))] [(.int (XT.cmpL y0 y0))]))
  refine own_go (fun _ ww => XS.ifNo X41.here hx rfl (hb hby at_68) rfl (own_if .ne (teq (own_cmpL _)).2) ww) ?_
  show own_Goes _ _ _ _ _ _ _ (T41.setTop (mkF m 71 #[.val (.int x0), .val (.int x1), .val (.int x2), .val (.long y0), .second, .val (.long y1), .second, .val (.long y2), .second, .val (.ref b33), .val (.int (1 : Int32))] []))
  refine own_go (fun _ ww => XS.iconst X41.here hx rfl (hb hby at_71) ww) ?_
  show own_Goes _ _ _ _ _ _ _ (T41.setTop (mkF m 72 #[.val (.int x0), .val (.int x1), .val (.int x2), .val (.long y0), .second, .val (.long y1), .second, .val (.long y2), .second, .val (.ref b33), .val (.int (1 : Int32))] [(.int (1 : Int32))]))
  refine own_go (fun _ ww => XS.goto X41.here hx rfl (pc0 := 72) (pc' := 76) rfl (hb hby at_72) (by decide) (by decide) ww) ?_
  show own_Goes _ _ _ _ _ _ _ (T41.setTop (mkF m 76 #[.val (.int x0), .val (.int x1), .val (.int x2), .val (.long y0), .second, .val (.long y1), .second, .val (.long y2), .second, .val (.ref b33), .val (.int (1 : Int32))] [(.int (1 : Int32))]))
  refine own_go (fun _ ww => XS.istore X41.here hx rfl (hb hby at_76) rfl (l' := #[.val (.int x0), .val (.int x1), .val (.int x2), .val (.long y0), .second, .val (.long y1), .second, .val (.long y2), .second, .val (.ref b33), .val (.int (1 : Int32))]) rfl ww) ?_
  show own_Goes _ _ _ _ _ _ _ (T41.setTop (mkF m 78 #[.val (.int x0), .val (.int x1), .val (.int x2), .val (.long y0), .second, .val (.long y1), .second, .val (.long y2), .second, .val (.ref b33), .val (.int (1 : Int32))] []))
  refine own_go (fun _ ww => XS.aload X41.here hx rfl (hb hby at_78) rfl rfl ww) ?_
  show own_Goes _ _ _ _ _ _ _ (T41.setTop (mkF m 80 #[.val (.int x0), .val (.int x1), .val (.int x2), .val (.long y0), .second, .val (.long y1), .second, .val (.long y2), .second, .val (.ref b33), .val (.int (1 : Int32))] [(.ref b33)]))
  refine own_go (fun _ ww => XT.lload X41.here hx rfl (hb hby at_80) rfl  ww) ?_
  show own_Goes _ _ _ _ _ _ _ (T41.setTop (mkF m 82 #[.val (.int x0), .val (.int x1), .val (.int x2), .val (.long y0), .second, .val (.long y1), .second, .val (.long y2), .second, .val (.ref b33), .val (.int (1 : Int32))] [(.long y1), (.ref b33)]))
  refine own_go (fun _ ww => XT.l2i X41.here hx rfl (hb hby at_82) rfl ww) ?_
  show own_Goes _ _ _ _ _ _ _ (T41.setTop (mkF m 83 #[.val (.int x0), .val (.int x1), .val (.int x2), .val (.long y0), .second, .val (.long y1), .second, .val (.long y2), .second, .val (.ref b33), .val (.int (1 : Int32))] [(.int (y1.toInt32)), (.ref b33)]))
  obtain ⟨cq44, kq44, q44a, q44b, q44c⟩ := isOf hZ rfl f42
  obtain ⟨_, _, ⟨T44, L44, k44, n44⟩, -, X44, ⟨Lc44, hQ44, l44, y44, z44⟩, st44⟩ := X41.virtualBack hx (y := (⟨"com/example/role_rights/rolerights/scenario/ScenarioClock", "advance", "(I)V"⟩ : MethodName)) (z := (⟨"com/example/role_rights/rolerights/scenario/ScenarioClock", "advance", "(I)V"⟩ : MethodName)) hown (mvT hZ (hw _ (List.mem_of_getElem? (i := 36) rfl))) (mvT hZ (hw _ (List.mem_of_getElem? (i := 37) rfl))) (notFace_of_selects (args := #[]) (mvT hZ (hw _ (List.mem_of_getElem? (i := 39) rfl)))) (mvT hZ (hw _ (List.mem_of_getElem? (i := 39) rfl))) (mvT hZ (hw _ (List.mem_of_getElem? (i := 38) rfl))) (by decide) (backOf (W := 0) (rm_adv l Z a0 hw [] b33 (y1.toInt32) y0 (y0 + y1) T41.heap n0 O41 f43 f42 g_b33 SL (own_adv ⟨by0.1, by omega⟩ by1) (by rw [own_nar by1])) hZ (hw _ (List.mem_of_getElem? (i := 40) rfl)) (hw _ (List.mem_of_getElem? (i := 3) rfl)) (by decide) (by decide)) q44a q44c (g := (mkF m 83 #[.val (.int x0), .val (.int x1), .val (.int x2), .val (.long y0), .second, .val (.long y1), .second, .val (.long y2), .second, .val (.ref b33), .val (.int (1 : Int32))] [(.int (y1.toInt32)), (.ref b33)])) rfl (by rw [hml]; rfl) (Steps.refl _) (argsL := [(.int (y1.toInt32))]) (rest := []) (lenOf pd_7 rfl) rfl (by show 2 * 0 + _ ≤ _; exact Nat.le_of_eq rfl) (hb hby at_83) (fun _ _ => ⟨rfl, rfl, (by decide : 3 + 0 ≤ _), (by decide : 5 + 0 ≤ _)⟩)
  dsimp only [Pt.U, Pt.locs, Pt.cells, Pt.slots] at X44 l44 y44 z44 st44 hQ44
  subst l44 y44 z44
  obtain ⟨rfl, N44q, K44q, P44⟩ := hQ44
  have N44 := Fr.app N41 N44q
  have f45 : Exa Z T44.heap b33 "com/example/role_rights/rolerights/scenario/ScenarioClock" := (f42.keep K44q)
  have O44 := O41.keep K44q (allS g_b33 all0)
  refine own_go (fun _ ww => Steps.trans st44 ww) ?_
  show own_Goes _ _ _ _ _ _ _ (T44.setTop (mkF m 86 #[.val (.int x0), .val (.int x1), .val (.int x2), .val (.long y0), .second, .val (.long y1), .second, .val (.long y2), .second, .val (.ref b33), .val (.int (1 : Int32))] []))
  refine own_go (fun _ ww => XS.iload X44.here hx rfl (hb hby at_86) rfl  ww) ?_
  show own_Goes _ _ _ _ _ _ _ (T44.setTop (mkF m 88 #[.val (.int x0), .val (.int x1), .val (.int x2), .val (.long y0), .second, .val (.long y1), .second, .val (.long y2), .second, .val (.ref b33), .val (.int (1 : Int32))] [(.int (1 : Int32))]))
  refine own_go (fun _ ww => XS.ifNo X44.here hx rfl (hb hby at_88) rfl (own_if .eq (feq (by decide : ¬ ((1 : Int32) = (0 : Int32)))).1) ww) ?_
  show own_Goes _ _ _ _ _ _ _ (T44.setTop (mkF m 91 #[.val (.int x0), .val (.int x1), .val (.int x2), .val (.long y0), .second, .val (.long y1), .second, .val (.long y2), .second, .val (.ref b33), .val (.int (1 : Int32))] []))
  refine own_go (fun _ ww => XS.aload X44.here hx rfl (hb hby at_91) rfl rfl ww) ?_
  show own_Goes _ _ _ _ _ _ _ (T44.setTop (mkF m 93 #[.val (.int x0), .val (.int x1), .val (.int x2), .val (.long y0), .second, .val (.long y1), .second, .val (.long y2), .second, .val (.ref b33), .val (.int (1 : Int32))] [(.ref b33)]))
  obtain ⟨_, _, ⟨T46, L46, k46, n46⟩, -, X46, ⟨Lc46, hQ46, l46, y46, z46⟩, st46⟩ := Jvm.LawKit.callS X44 hx (y := (⟨"com/example/role_rights/rolerights/scenario/ScenarioClockAdvancePinLaw", "read", "(Lcom/example/role_rights/rolerights/scenario/ScenarioClock;)J"⟩ : MethodName)) hown (mvT hZ (hw _ (List.mem_of_getElem? (i := 10) rfl))) (mvT hZ (hw _ (List.mem_of_getElem? (i := 11) rfl))) (mvT hZ (hw _ (List.mem_of_getElem? (i := 12) rfl))) (mvT hZ (hw _ (List.mem_of_getElem? (i := 13) rfl))) (by decide) (backOf (W := 0) (rm_read l Z a0 hw [] b33 (y0 + y1) aE T44.heap n0 O44 P44 f45 SE EE FE ⟨by omega, by omega⟩) hZ (hw _ (List.mem_of_getElem? (i := 13) rfl)) (hw _ (List.mem_of_getElem? (i := 12) rfl)) (by decide) (by decide)) (g := (mkF m 93 #[.val (.int x0), .val (.int x1), .val (.int x2), .val (.long y0), .second, .val (.long y1), .second, .val (.long y2), .second, .val (.ref b33), .val (.int (1 : Int32))] [(.ref b33)])) rfl (by rw [hml]; rfl) (argsL := [(.ref b33)]) (rest := []) (lenOf pd_6 rfl) rfl (by show 2 * 0 + _ ≤ _; exact Nat.le_of_eq rfl) (hb hby at_93) (fun _ _ => ⟨rfl, rfl, (by decide : 3 + 1 ≤ _), (by decide : 5 + 2 ≤ _)⟩)
  dsimp only [Pt.U, Pt.locs, Pt.cells, Pt.slots] at X46 l46 y46 z46 st46 hQ46
  subst l46 y46 z46
  obtain ⟨rfl, N46q, K46q⟩ := hQ46
  have N46 := Fr.app N44 N46q
  have f47 : Exa Z T46.heap b33 "com/example/role_rights/rolerights/scenario/ScenarioClock" := (f45.keep K46q)
  have f48 : Fld Z T46.heap b33 "com/example/role_rights/rolerights/scenario/ScenarioClock" "seconds" "J" (.long (y0 + y1)) := (P44.keep K46q nin0)
  have O46 := O44.keep K46q all0
  refine own_go st46 ?_
  show own_Goes _ _ _ _ _ _ _ (T46.setTop (mkF m 96 #[.val (.int x0), .val (.int x1), .val (.int x2), .val (.long y0), .second, .val (.long y1), .second, .val (.long y2), .second, .val (.ref b33), .val (.int (1 : Int32))] [(.long (y0 + y1))]))
  refine own_go (fun _ ww => XT.lloadN X46.here hx rfl (hb hby at_96) rfl  ww) ?_
  show own_Goes _ _ _ _ _ _ _ (T46.setTop (mkF m 97 #[.val (.int x0), .val (.int x1), .val (.int x2), .val (.long y0), .second, .val (.long y1), .second, .val (.long y2), .second, .val (.ref b33), .val (.int (1 : Int32))] [(.long y0), (.long (y0 + y1))]))
  refine own_go (fun _ ww => XT.lload X46.here hx rfl (hb hby at_97) rfl  ww) ?_
  show own_Goes _ _ _ _ _ _ _ (T46.setTop (mkF m 99 #[.val (.int x0), .val (.int x1), .val (.int x2), .val (.long y0), .second, .val (.long y1), .second, .val (.long y2), .second, .val (.ref b33), .val (.int (1 : Int32))] [(.long y1), (.long y0), (.long (y0 + y1))]))
  refine own_go (fun _ ww => XT.ladd X46.here hx rfl (hb hby at_99) rfl ww) ?_
  show own_Goes _ _ _ _ _ _ _ (T46.setTop (mkF m 100 #[.val (.int x0), .val (.int x1), .val (.int x2), .val (.long y0), .second, .val (.long y1), .second, .val (.long y2), .second, .val (.ref b33), .val (.int (1 : Int32))] [(.long (y0 + y1)), (.long (y0 + y1))]))
  refine own_go (fun _ ww => XT.lcmp X46.here hx rfl (hb hby at_100) rfl ww) ?_
  show own_Goes _ _ _ _ _ _ _ (T46.setTop (mkF m 101 #[.val (.int x0), .val (.int x1), .val (.int x2), .val (.long y0), .second, .val (.long y1), .second, .val (.long y2), .second, .val (.ref b33), .val (.int (1 : Int32))] [(.int (XT.cmpL (y0 + y1) (y0 + y1)))]))
  refine own_go (fun _ ww => XS.ifNo X46.here hx rfl (hb hby at_101) rfl (own_if .ne (teq (own_cmpL _)).2) ww) ?_
  show own_Goes _ _ _ _ _ _ _ (T46.setTop (mkF m 104 #[.val (.int x0), .val (.int x1), .val (.int x2), .val (.long y0), .second, .val (.long y1), .second, .val (.long y2), .second, .val (.ref b33), .val (.int (1 : Int32))] []))
  refine own_go (fun _ ww => XS.iconst X46.here hx rfl (hb hby at_104) ww) ?_
  show own_Goes _ _ _ _ _ _ _ (T46.setTop (mkF m 105 #[.val (.int x0), .val (.int x1), .val (.int x2), .val (.long y0), .second, .val (.long y1), .second, .val (.long y2), .second, .val (.ref b33), .val (.int (1 : Int32))] [(.int (1 : Int32))]))
  refine own_go (fun _ ww => XS.goto X46.here hx rfl (pc0 := 105) (pc' := 109) rfl (hb hby at_105) (by decide) (by decide) ww) ?_
  show own_Goes _ _ _ _ _ _ _ (T46.setTop (mkF m 109 #[.val (.int x0), .val (.int x1), .val (.int x2), .val (.long y0), .second, .val (.long y1), .second, .val (.long y2), .second, .val (.ref b33), .val (.int (1 : Int32))] [(.int (1 : Int32))]))
  refine own_go (fun _ ww => XS.istore X46.here hx rfl (hb hby at_109) rfl (l' := #[.val (.int x0), .val (.int x1), .val (.int x2), .val (.long y0), .second, .val (.long y1), .second, .val (.long y2), .second, .val (.ref b33), .val (.int (1 : Int32))]) rfl ww) ?_
  show own_Goes _ _ _ _ _ _ _ (T46.setTop (mkF m 111 #[.val (.int x0), .val (.int x1), .val (.int x2), .val (.long y0), .second, .val (.long y1), .second, .val (.long y2), .second, .val (.ref b33), .val (.int (1 : Int32))] []))
  refine own_go (fun _ ww => XS.aload X46.here hx rfl (hb hby at_111) rfl rfl ww) ?_
  show own_Goes _ _ _ _ _ _ _ (T46.setTop (mkF m 113 #[.val (.int x0), .val (.int x1), .val (.int x2), .val (.long y0), .second, .val (.long y1), .second, .val (.long y2), .second, .val (.ref b33), .val (.int (1 : Int32))] [(.ref b33)]))
  refine own_go (fun _ ww => XT.lload X46.here hx rfl (hb hby at_113) rfl  ww) ?_
  show own_Goes _ _ _ _ _ _ _ (T46.setTop (mkF m 115 #[.val (.int x0), .val (.int x1), .val (.int x2), .val (.long y0), .second, .val (.long y1), .second, .val (.long y2), .second, .val (.ref b33), .val (.int (1 : Int32))] [(.long y2), (.ref b33)]))
  refine own_go (fun _ ww => XT.l2i X46.here hx rfl (hb hby at_115) rfl ww) ?_
  show own_Goes _ _ _ _ _ _ _ (T46.setTop (mkF m 116 #[.val (.int x0), .val (.int x1), .val (.int x2), .val (.long y0), .second, .val (.long y1), .second, .val (.long y2), .second, .val (.ref b33), .val (.int (1 : Int32))] [(.int (y2.toInt32)), (.ref b33)]))
  obtain ⟨cq49, kq49, q49a, q49b, q49c⟩ := isOf hZ rfl f47
  obtain ⟨_, _, ⟨T49, L49, k49, n49⟩, -, X49, ⟨Lc49, hQ49, l49, y49, z49⟩, st49⟩ := X46.virtualBack hx (y := (⟨"com/example/role_rights/rolerights/scenario/ScenarioClock", "advance", "(I)V"⟩ : MethodName)) (z := (⟨"com/example/role_rights/rolerights/scenario/ScenarioClock", "advance", "(I)V"⟩ : MethodName)) hown (mvT hZ (hw _ (List.mem_of_getElem? (i := 36) rfl))) (mvT hZ (hw _ (List.mem_of_getElem? (i := 37) rfl))) (notFace_of_selects (args := #[]) (mvT hZ (hw _ (List.mem_of_getElem? (i := 39) rfl)))) (mvT hZ (hw _ (List.mem_of_getElem? (i := 39) rfl))) (mvT hZ (hw _ (List.mem_of_getElem? (i := 38) rfl))) (by decide) (backOf (W := 0) (rm_adv l Z a0 hw [] b33 (y2.toInt32) (y0 + y1) ((y0 + y1) + y2) T46.heap n0 O46 f48 f47 g_b33 SL (own_adv ⟨by omega, by omega⟩ by2) (by rw [own_nar by2])) hZ (hw _ (List.mem_of_getElem? (i := 40) rfl)) (hw _ (List.mem_of_getElem? (i := 3) rfl)) (by decide) (by decide)) q49a q49c (g := (mkF m 116 #[.val (.int x0), .val (.int x1), .val (.int x2), .val (.long y0), .second, .val (.long y1), .second, .val (.long y2), .second, .val (.ref b33), .val (.int (1 : Int32))] [(.int (y2.toInt32)), (.ref b33)])) rfl (by rw [hml]; rfl) (Steps.refl _) (argsL := [(.int (y2.toInt32))]) (rest := []) (lenOf pd_7 rfl) rfl (by show 2 * 0 + _ ≤ _; exact Nat.le_of_eq rfl) (hb hby at_116) (fun _ _ => ⟨rfl, rfl, (by decide : 4 + 0 ≤ _), (by decide : 7 + 0 ≤ _)⟩)
  dsimp only [Pt.U, Pt.locs, Pt.cells, Pt.slots] at X49 l49 y49 z49 st49 hQ49
  subst l49 y49 z49
  obtain ⟨rfl, N49q, K49q, P49⟩ := hQ49
  have N49 := Fr.app N46 N49q
  have f50 : Exa Z T49.heap b33 "com/example/role_rights/rolerights/scenario/ScenarioClock" := (f47.keep K49q)
  have O49 := O46.keep K49q (allS g_b33 all0)
  refine own_go (fun _ ww => Steps.trans st49 ww) ?_
  show own_Goes _ _ _ _ _ _ _ (T49.setTop (mkF m 119 #[.val (.int x0), .val (.int x1), .val (.int x2), .val (.long y0), .second, .val (.long y1), .second, .val (.long y2), .second, .val (.ref b33), .val (.int (1 : Int32))] []))
  refine own_go (fun _ ww => XS.iload X49.here hx rfl (hb hby at_119) rfl  ww) ?_
  show own_Goes _ _ _ _ _ _ _ (T49.setTop (mkF m 121 #[.val (.int x0), .val (.int x1), .val (.int x2), .val (.long y0), .second, .val (.long y1), .second, .val (.long y2), .second, .val (.ref b33), .val (.int (1 : Int32))] [(.int (1 : Int32))]))
  refine own_go (fun _ ww => XS.ifNo X49.here hx rfl (hb hby at_121) rfl (own_if .eq (feq (by decide : ¬ ((1 : Int32) = (0 : Int32)))).1) ww) ?_
  show own_Goes _ _ _ _ _ _ _ (T49.setTop (mkF m 124 #[.val (.int x0), .val (.int x1), .val (.int x2), .val (.long y0), .second, .val (.long y1), .second, .val (.long y2), .second, .val (.ref b33), .val (.int (1 : Int32))] []))
  refine own_go (fun _ ww => XS.aload X49.here hx rfl (hb hby at_124) rfl rfl ww) ?_
  show own_Goes _ _ _ _ _ _ _ (T49.setTop (mkF m 126 #[.val (.int x0), .val (.int x1), .val (.int x2), .val (.long y0), .second, .val (.long y1), .second, .val (.long y2), .second, .val (.ref b33), .val (.int (1 : Int32))] [(.ref b33)]))
  obtain ⟨_, _, ⟨T51, L51, k51, n51⟩, -, X51, ⟨Lc51, hQ51, l51, y51, z51⟩, st51⟩ := Jvm.LawKit.callS X49 hx (y := (⟨"com/example/role_rights/rolerights/scenario/ScenarioClockAdvancePinLaw", "read", "(Lcom/example/role_rights/rolerights/scenario/ScenarioClock;)J"⟩ : MethodName)) hown (mvT hZ (hw _ (List.mem_of_getElem? (i := 10) rfl))) (mvT hZ (hw _ (List.mem_of_getElem? (i := 11) rfl))) (mvT hZ (hw _ (List.mem_of_getElem? (i := 12) rfl))) (mvT hZ (hw _ (List.mem_of_getElem? (i := 13) rfl))) (by decide) (backOf (W := 0) (rm_read l Z a0 hw [] b33 ((y0 + y1) + y2) aE T49.heap n0 O49 P49 f50 SE EE FE ⟨by omega, by omega⟩) hZ (hw _ (List.mem_of_getElem? (i := 13) rfl)) (hw _ (List.mem_of_getElem? (i := 12) rfl)) (by decide) (by decide)) (g := (mkF m 126 #[.val (.int x0), .val (.int x1), .val (.int x2), .val (.long y0), .second, .val (.long y1), .second, .val (.long y2), .second, .val (.ref b33), .val (.int (1 : Int32))] [(.ref b33)])) rfl (by rw [hml]; rfl) (argsL := [(.ref b33)]) (rest := []) (lenOf pd_6 rfl) rfl (by show 2 * 0 + _ ≤ _; exact Nat.le_of_eq rfl) (hb hby at_126) (fun _ _ => ⟨rfl, rfl, (by decide : 4 + 1 ≤ _), (by decide : 7 + 2 ≤ _)⟩)
  dsimp only [Pt.U, Pt.locs, Pt.cells, Pt.slots] at X51 l51 y51 z51 st51 hQ51
  subst l51 y51 z51
  obtain ⟨rfl, N51q, K51q⟩ := hQ51
  have N51 := Fr.app N49 N51q
  have f52 : Exa Z T51.heap b33 "com/example/role_rights/rolerights/scenario/ScenarioClock" := (f50.keep K51q)
  have f53 : Fld Z T51.heap b33 "com/example/role_rights/rolerights/scenario/ScenarioClock" "seconds" "J" (.long ((y0 + y1) + y2)) := (P49.keep K51q nin0)
  have O51 := O49.keep K51q all0
  refine own_go st51 ?_
  show own_Goes _ _ _ _ _ _ _ (T51.setTop (mkF m 129 #[.val (.int x0), .val (.int x1), .val (.int x2), .val (.long y0), .second, .val (.long y1), .second, .val (.long y2), .second, .val (.ref b33), .val (.int (1 : Int32))] [(.long ((y0 + y1) + y2))]))
  refine own_go (fun _ ww => XT.lloadN X51.here hx rfl (hb hby at_129) rfl  ww) ?_
  show own_Goes _ _ _ _ _ _ _ (T51.setTop (mkF m 130 #[.val (.int x0), .val (.int x1), .val (.int x2), .val (.long y0), .second, .val (.long y1), .second, .val (.long y2), .second, .val (.ref b33), .val (.int (1 : Int32))] [(.long y0), (.long ((y0 + y1) + y2))]))
  refine own_go (fun _ ww => XT.lload X51.here hx rfl (hb hby at_130) rfl  ww) ?_
  show own_Goes _ _ _ _ _ _ _ (T51.setTop (mkF m 132 #[.val (.int x0), .val (.int x1), .val (.int x2), .val (.long y0), .second, .val (.long y1), .second, .val (.long y2), .second, .val (.ref b33), .val (.int (1 : Int32))] [(.long y1), (.long y0), (.long ((y0 + y1) + y2))]))
  refine own_go (fun _ ww => XT.ladd X51.here hx rfl (hb hby at_132) rfl ww) ?_
  show own_Goes _ _ _ _ _ _ _ (T51.setTop (mkF m 133 #[.val (.int x0), .val (.int x1), .val (.int x2), .val (.long y0), .second, .val (.long y1), .second, .val (.long y2), .second, .val (.ref b33), .val (.int (1 : Int32))] [(.long (y0 + y1)), (.long ((y0 + y1) + y2))]))
  refine own_go (fun _ ww => XT.lload X51.here hx rfl (hb hby at_133) rfl  ww) ?_
  show own_Goes _ _ _ _ _ _ _ (T51.setTop (mkF m 135 #[.val (.int x0), .val (.int x1), .val (.int x2), .val (.long y0), .second, .val (.long y1), .second, .val (.long y2), .second, .val (.ref b33), .val (.int (1 : Int32))] [(.long y2), (.long (y0 + y1)), (.long ((y0 + y1) + y2))]))
  refine own_go (fun _ ww => XT.ladd X51.here hx rfl (hb hby at_135) rfl ww) ?_
  show own_Goes _ _ _ _ _ _ _ (T51.setTop (mkF m 136 #[.val (.int x0), .val (.int x1), .val (.int x2), .val (.long y0), .second, .val (.long y1), .second, .val (.long y2), .second, .val (.ref b33), .val (.int (1 : Int32))] [(.long ((y0 + y1) + y2)), (.long ((y0 + y1) + y2))]))
  refine own_go (fun _ ww => XT.lcmp X51.here hx rfl (hb hby at_136) rfl ww) ?_
  show own_Goes _ _ _ _ _ _ _ (T51.setTop (mkF m 137 #[.val (.int x0), .val (.int x1), .val (.int x2), .val (.long y0), .second, .val (.long y1), .second, .val (.long y2), .second, .val (.ref b33), .val (.int (1 : Int32))] [(.int (XT.cmpL ((y0 + y1) + y2) ((y0 + y1) + y2)))]))
  refine own_go (fun _ ww => XS.ifNo X51.here hx rfl (hb hby at_137) rfl (own_if .ne (teq (own_cmpL _)).2) ww) ?_
  show own_Goes _ _ _ _ _ _ _ (T51.setTop (mkF m 140 #[.val (.int x0), .val (.int x1), .val (.int x2), .val (.long y0), .second, .val (.long y1), .second, .val (.long y2), .second, .val (.ref b33), .val (.int (1 : Int32))] []))
  refine own_go (fun _ ww => XS.iconst X51.here hx rfl (hb hby at_140) ww) ?_
  show own_Goes _ _ _ _ _ _ _ (T51.setTop (mkF m 141 #[.val (.int x0), .val (.int x1), .val (.int x2), .val (.long y0), .second, .val (.long y1), .second, .val (.long y2), .second, .val (.ref b33), .val (.int (1 : Int32))] [(.int (1 : Int32))]))
  refine own_go (fun _ ww => XS.goto X51.here hx rfl (pc0 := 141) (pc' := 145) rfl (hb hby at_141) (by decide) (by decide) ww) ?_
  show own_Goes _ _ _ _ _ _ _ (T51.setTop (mkF m 145 #[.val (.int x0), .val (.int x1), .val (.int x2), .val (.long y0), .second, .val (.long y1), .second, .val (.long y2), .second, .val (.ref b33), .val (.int (1 : Int32))] [(.int (1 : Int32))]))
  refine own_go (fun _ ww => XS.istore X51.here hx rfl (hb hby at_145) rfl (l' := #[.val (.int x0), .val (.int x1), .val (.int x2), .val (.long y0), .second, .val (.long y1), .second, .val (.long y2), .second, .val (.ref b33), .val (.int (1 : Int32))]) rfl ww) ?_
  show own_Goes _ _ _ _ _ _ _ (T51.setTop (mkF m 147 #[.val (.int x0), .val (.int x1), .val (.int x2), .val (.long y0), .second, .val (.long y1), .second, .val (.long y2), .second, .val (.ref b33), .val (.int (1 : Int32))] []))
  refine own_go (fun _ ww => XS.iload X51.here hx rfl (hb hby at_147) rfl  ww) ?_
  show own_Goes _ _ _ _ _ _ _ (T51.setTop (mkF m 149 #[.val (.int x0), .val (.int x1), .val (.int x2), .val (.long y0), .second, .val (.long y1), .second, .val (.long y2), .second, .val (.ref b33), .val (.int (1 : Int32))] [(.int (1 : Int32))]))
  exact own_out X51 hlk (v := some (.int (1 : Int32))) (fun h => by rw [hret] at h; cases h) (fun fs hr => retOut X51 hx (t := .boolean) hret (by decide) (Or.inl ⟨rfl, by simp, _, rfl⟩) (hb hby at_149) hr) rfl ⟨rfl, N51⟩ (by decide) (by decide)
set_option maxRecDepth 65536 in
set_option maxHeartbeats 40000000 in
theorem comes_1 {Post : Tables → Env → Array Value → State → Outcome → State → Prop} (hpost : ∀ tb e args s v u, (limb_1_1.after args s (.returned v) u = true ∧ limb_1_2.after args s (.returned v) u = true ∧ True) → FrameEnd s (.returned v) u (Jvm.fieldLocs frame_1_writes args s ++ Jvm.arrayLocs frame_1_arrays args s ++ Jvm.staticLocs frame_1_statics s) 16 128 → Post tb e args s (.returned v) u) :
    ArmFor flags0 classFile x code maxLocals ret World_1 tables_1 room_1 Calls_1 rest_1 Pre_1 Post := by
  intro l hfl _ _ p e ha hc hk s m args below hf hA hF happ hP
  obtain ⟨hcalls, hrest, hpre⟩ := hP
  obtain ⟨-, -, -, hnamed, -, -, -, hat⟩ := (Spec.applies_iff hf).mp happ
  obtain ⟨hg, hn⟩ := and_e (Cond.before_iff.mp (show (Jvm.Cond.and given_1 narrow_1).before args s = true from hpre))
  obtain ⟨q1, q2⟩ := and_e hg
  obtain ⟨q3, q4⟩ := and_e q2
  obtain ⟨q5, q6⟩ := and_e q4
  obtain ⟨w0, w1, w2, rfl⟩ : ∃ w0 w1 w2 : Value, args = #[w0, w1, w2] := by
    have hs : args.size = 3 := by simpa [Cond.value, given_1] using q1
    obtain ⟨L⟩ := args
    match L, hs with
    | [w0, w1, w2], _ => exact ⟨w0, w1, w2, rfl⟩
  have hw := fun d (hd : d ∈ tables_1) => atoms_spec (ws := Jvm.Cond.code x code maxLocals ret :: tables_1) hat d (List.mem_cons_of_mem _ hd)
  have hfit : Fit s := fun {y c} hc i hi => by
    obtain ⟨ha, rfl⟩ := Array.getElem?_eq_some_iff.mp hc
    have q := List.all_eq_true.mp ((Array.all_eq_true_iff_forall_mem.mp hF) _ (Array.getElem_mem ha)) i (List.mem_range.mpr hi)
    simpa [Array.getElem?_eq_getElem hi] using q
  obtain ⟨hsets, hown0⟩ := atoms_of _ (rest_1_c_eq ▸ (show rest_1_c.before _ s = true from hrest))
  obtain ⟨i0, ei0⟩ := is_v q3
  obtain rfl : w0 = (.int i0) := Option.some.inj ei0
  obtain ⟨i1, ei1⟩ := is_v q5
  obtain rfl : w1 = (.int i1) := Option.some.inj ei1
  obtain ⟨i2, ei2⟩ := is_v q6
  obtain rfl : w2 = (.int i2) := Option.some.inj ei2
  have qs2 := Cond.before_iff.mp (hsets _ (List.mem_of_getElem? (i := 2) rfl))
  have qs3 := Cond.before_iff.mp (hsets _ (List.mem_of_getElem? (i := 3) rfl))
  have qs4 := Cond.before_iff.mp (hsets _ (List.mem_of_getElem? (i := 4) rfl))
  obtain ⟨a_Instant_EPOCH, ev_Instant_EPOCH⟩ := exa_v qs2
  have E_Instant_EPOCH : Exa s s.heap a_Instant_EPOCH "java/time/Instant" := Exa.start ev_Instant_EPOCH qs2
  have S_Instant_EPOCH : Sta s s.heap "java/time/Instant" "EPOCH" "Ljava/time/Instant;" (.ref a_Instant_EPOCH) := Sta.start ev_Instant_EPOCH (Or.inl (hsets _ (List.mem_of_getElem? (i := 1) rfl)))
  have F_Instant_EPOCH_seconds := own_fJ ev_Instant_EPOCH qs3
  have F_Instant_EPOCH_nanos := own_fI ev_Instant_EPOCH qs4
  have SL : Sta s s.heap "com/example/role_rights/rolerights/scenario/ScenarioClock" "LAST_SECOND" "J" (.long (31556889864403199 : Int64)) := Sta.start (own_eqJ hn) (Or.inr ⟨(hw _ (List.mem_of_getElem? (i := 3) rfl)), (hw _ (List.mem_of_getElem? (i := 42) rfl))⟩)
  obtain ⟨n, o, h1, h2, h3, _, L, rfl, ⟨rfl, N⟩, hq⟩ := rm_law l s _ hw tables_1 i0 i1 i2 a_Instant_EPOCH s.heap s.heap.size (Old.start s) S_Instant_EPOCH E_Instant_EPOCH F_Instant_EPOCH_seconds SL p e ha hc hk s m _ below hf ((Spec.applies_iff_loose hf).mp happ).1 ⟨rfl, State.Warmed39.refl s, rfl⟩ trivial
  refine ⟨n, _, h1, h2, h3, hpost _ _ _ _ _ _ ⟨Cond.after_iff.mpr rfl, Cond.after_iff.mpr (eq_i res_at (Term.int_eval (1)) rfl), trivial⟩ ⟨hq.1, hq.2.1, (hq.2.2.sift fun y hy => Or.inr (N y hy)).mono (by decide) (by decide)⟩⟩
theorem main_1_1 : Claimed_1_1 := comes_1 fun _ _ _ _ _ _ h hF => ⟨h.1, hF⟩
theorem main_1_2 : Claimed_1_2 := comes_1 fun _ _ _ _ _ _ h hF => ⟨h.2.1, hF⟩
end Jvm.Pilot.@@N@@
namespace Jvm.Pilot.@@N@@
open Jvm Jvm.ClassFile Sem Op Lib Jvm.Free Jvm.Stand Jvm.Pilot.@@N@@.Jvm.D
/-! MADE BY PROGRAM (witnessworld.py) out of the Statement's table words and the real class files: 15 classes; the members and pool entries that the words name. The judged class is class 1, her method 2. -/
namespace start1
open Jvm.ClassFile
def u (s : String) : CpInfo := .utf8 (stringToUtf16 s)
/-- a pool by its gaps: so many unusable entries, then the entry; so many at the end -/
def gap : Nat → List CpInfo → List CpInfo
  | 0, r => r
  | n + 1, r => .unusable :: gap n r
def poolList (es : List (Nat × CpInfo)) (last : Nat) : List CpInfo := es.foldr (fun e r => gap e.1 (e.2 :: r)) (gap last [])
def pool (es : List (Nat × CpInfo)) (last : Nat) : Array CpInfo := ⟨poolList es last⟩
def fileOf (pool : Array CpInfo) (this : Nat) (attrs : Array Attribute := #[]) (ms : Array MethodInfo := #[]) (fl : Nat := 33) (sup : Nat := 0) (ifs : Array Nat := #[]) (fds : Array FieldInfo := #[]) : ClassFile where
  minorVersion := 0
  majorVersion := 65
  constantPool := pool
  accessFlags := fl
  thisClass := this
  superClass := sup
  interfaces := ifs
  fields := fds
  methods := ms
  attributes := attrs
def plain (name : String) (sup : Option ClassId) : Class where
  name := name
  kind := .ordinary
  loader := none
  accessFlags := 33
  super := sup
  interfaces := #[]
  cf := none
  fields := #[]
  methods := #[]
  instanceTypes := #[]
  staticTypes := #[]
  resolved := #[]
  callSites := []
  init := .initialized
  statics := none
  mirror := none

def pool0 : Array CpInfo := pool [(5, u "<init>"), (0, u "()V"), (1, .class_ 10), (1, u "java/lang/Object")] 113

def k0c0 : Code := { maxStack := 0, maxLocals := 1, code := object_method_1_code, exceptionTable := #[], attributes := #[] }
def k0m0 : Method := { name := "<init>", desc := "()V", sig := { parameters := [], returnType := none }, accessFlags := 1, code := some k0c0 }
/-- java/lang/Object -/
def k0 : Class := { plain "java/lang/Object" none with
  accessFlags := 33
  interfaces := #[]
  cf := some (fileOf pool0 8 #[] #[{ accessFlags := 1, nameIndex := 5, descriptorIndex := 6, attributes := #[] }] 33 0 #[] #[])
  fields := #[]
  methods := #[k0m0]
  instanceTypes := #[]
  staticTypes := #[]
  resolved := Array.replicate 124 none
  statics := none }

def pool1 : Array CpInfo := pool [(2, .class_ 4), (0, .nameAndType 5 6), (0, u "java/lang/Object"), (0, u "<init>"), (0, u "()V"), (0, .methodref 8 9), (0, .class_ 10), (0, .nameAndType 11 12), (0, u "com/example/role_rights/rolerights/scenario/ScenarioClock"), (0, u "instant"), (0, u "()Ljava/time/Instant;"), (0, .methodref 14 15), (0, .class_ 16), (0, .nameAndType 17 18), (0, u "java/time/Instant"), (0, u "getEpochSecond"), (0, u "()J"), (0, .long 2147483647), (1, .methodref 8 3), (0, .methodref 23 24), (0, .class_ 25), (0, .nameAndType 26 27), (0, u "com/example/role_rights/rolerights/scenario/ScenarioClockAdvancePinLaw"), (0, u "read"), (0, u "(Lcom/example/role_rights/rolerights/scenario/ScenarioClock;)J"), (0, .methodref 8 29), (0, .nameAndType 30 31), (0, u "advance"), (0, u "(I)V"), (2, u "law"), (0, u "(III)Z")] 3

def k1m0 : Method := { name := "<init>", desc := "()V", sig := { parameters := [], returnType := none }, accessFlags := 2, code := none }
def k1c1 : Code := { maxStack := 2, maxLocals := 1, code := method_2_code, exceptionTable := #[], attributes := #[] }
def k1m1 : Method := { name := "read", desc := "(Lcom/example/role_rights/rolerights/scenario/ScenarioClock;)J", sig := { parameters := [(.object "com/example/role_rights/rolerights/scenario/ScenarioClock")], returnType := some .long }, accessFlags := 10, code := some k1c1 }
def k1c2 : Code := { maxStack := 6, maxLocals := 11, code := code, exceptionTable := #[], attributes := #[] }
def k1m2 : Method := { name := "law", desc := "(III)Z", sig := { parameters := [.int, .int, .int], returnType := some .boolean }, accessFlags := 9, code := some k1c2 }
/-- com/example/role_rights/rolerights/scenario/ScenarioClockAdvancePinLaw -/
def k1 : Class := { plain "com/example/role_rights/rolerights/scenario/ScenarioClockAdvancePinLaw" (some 0) with
  accessFlags := 49
  interfaces := #[]
  cf := some (fileOf pool1 23 #[] #[{ accessFlags := 2, nameIndex := 5, descriptorIndex := 6, attributes := #[] }, { accessFlags := 10, nameIndex := 26, descriptorIndex := 27, attributes := #[] }, { accessFlags := 9, nameIndex := 34, descriptorIndex := 35, attributes := #[] }] 49 2 #[] #[])
  fields := #[]
  methods := #[k1m0, k1m1, k1m2]
  instanceTypes := #[]
  staticTypes := #[]
  resolved := Array.replicate 39 none
  statics := none }

def pool2 : Array CpInfo := pool [(22, .class_ 24), (1, u "java/time/InstantSource"), (31, .class_ 57), (0, u "java/lang/Object")] 22

/-- java/time/InstantSource -/
def k2 : Class := { plain "java/time/InstantSource" (some 0) with
  accessFlags := 1537
  interfaces := #[]
  cf := some (fileOf pool2 22 #[] #[] 1537 56 #[] #[])
  fields := #[]
  methods := #[]
  instanceTypes := #[]
  staticTypes := #[]
  resolved := Array.replicate 80 none
  statics := none }

def pool3 : Array CpInfo := pool [(1, .methodref 2 3), (0, .class_ 4), (0, .nameAndType 5 6), (0, u "java/lang/Object"), (0, u "<init>"), (0, u "()V"), (0, .fieldref 8 9), (0, .class_ 10), (0, .nameAndType 11 12), (0, u "com/example/role_rights/rolerights/scenario/ScenarioClock"), (0, u "seconds"), (0, u "J"), (0, .methodref 14 15), (0, .class_ 16), (0, .nameAndType 17 18), (0, u "java/time/Instant"), (0, u "ofEpochSecond"), (0, u "(J)Ljava/time/Instant;"), (0, .fieldref 8 20), (0, .nameAndType 21 12), (0, u "LAST_SECOND"), (17, .class_ 40), (0, u "java/time/InstantSource"), (2, u "instant"), (0, u "()Ljava/time/Instant;"), (0, u "advance"), (0, u "(I)V")] 19

def k3c0 : Code := { maxStack := 1, maxLocals := 1, code := prog_54_method_1_code, exceptionTable := #[], attributes := #[] }
def k3m0 : Method := { name := "<init>", desc := "()V", sig := { parameters := [], returnType := none }, accessFlags := 0, code := some k3c0 }
def k3c1 : Code := { maxStack := 2, maxLocals := 1, code := prog_54_method_2_code, exceptionTable := #[], attributes := #[] }
def k3m1 : Method := { name := "instant", desc := "()Ljava/time/Instant;", sig := { parameters := [], returnType := some (.object "java/time/Instant") }, accessFlags := 1, code := some k3c1 }
def k3c2 : Code := { maxStack := 6, maxLocals := 2, code := prog_54_method_3_code, exceptionTable := #[], attributes := #[] }
def k3m2 : Method := { name := "advance", desc := "(I)V", sig := { parameters := [.int], returnType := none }, accessFlags := 0, code := some k3c2 }
/-- com/example/role_rights/rolerights/scenario/ScenarioClock -/
def k3 : Class := { plain "com/example/role_rights/rolerights/scenario/ScenarioClock" (some 0) with
  accessFlags := 48
  interfaces := #[2]
  cf := some (fileOf pool3 8 #[] #[{ accessFlags := 0, nameIndex := 5, descriptorIndex := 6, attributes := #[] }, { accessFlags := 1, nameIndex := 43, descriptorIndex := 44, attributes := #[] }, { accessFlags := 0, nameIndex := 45, descriptorIndex := 46, attributes := #[] }] 48 2 #[39] #[{ accessFlags := 26, nameIndex := 21, descriptorIndex := 12, attributes := #[] }, { accessFlags := 2, nameIndex := 11, descriptorIndex := 12, attributes := #[] }])
  fields := #[{ name := "LAST_SECOND", type := .long, accessFlags := 26, slot := 0, constantValue := 0 }, { name := "seconds", type := .long, accessFlags := 2, slot := 0, constantValue := 0 }]
  methods := #[k3m0, k3m1, k3m2]
  instanceTypes := #[.long]
  staticTypes := #[.long]
  resolved := Array.replicate 66 none
  statics := some 0 }

def pool4 : Array CpInfo := pool [(4, .class_ 6), (1, u "java/time/temporal/TemporalAccessor"), (95, .class_ 103), (0, u "java/lang/Object")] 21

/-- java/time/temporal/TemporalAccessor -/
def k4 : Class := { plain "java/time/temporal/TemporalAccessor" (some 0) with
  accessFlags := 1537
  interfaces := #[]
  cf := some (fileOf pool4 4 #[] #[] 1537 102 #[] #[])
  fields := #[]
  methods := #[]
  instanceTypes := #[]
  staticTypes := #[]
  resolved := Array.replicate 125 none
  statics := none }

def pool5 : Array CpInfo := pool [(22, .class_ 24), (1, u "java/time/temporal/Temporal"), (2, .class_ 28), (0, u "java/lang/Object"), (0, .class_ 30), (0, u "java/time/temporal/TemporalAccessor")] 25

/-- java/time/temporal/Temporal -/
def k5 : Class := { plain "java/time/temporal/Temporal" (some 0) with
  accessFlags := 1537
  interfaces := #[4]
  cf := some (fileOf pool5 22 #[] #[] 1537 27 #[29] #[])
  fields := #[]
  methods := #[]
  instanceTypes := #[]
  staticTypes := #[]
  resolved := Array.replicate 56 none
  statics := none }

def pool6 : Array CpInfo := pool [(1, .class_ 2), (0, u "java/time/temporal/TemporalAdjuster"), (0, .class_ 4), (0, u "java/lang/Object")] 6

/-- java/time/temporal/TemporalAdjuster -/
def k6 : Class := { plain "java/time/temporal/TemporalAdjuster" (some 0) with
  accessFlags := 1537
  interfaces := #[]
  cf := some (fileOf pool6 1 #[] #[] 1537 3 #[] #[])
  fields := #[]
  methods := #[]
  instanceTypes := #[]
  staticTypes := #[]
  resolved := Array.replicate 11 none
  statics := none }

def pool7 : Array CpInfo := pool [(1, .class_ 2), (0, u "java/lang/Comparable"), (0, .class_ 4), (0, u "java/lang/Object")] 7

/-- java/lang/Comparable -/
def k7 : Class := { plain "java/lang/Comparable" (some 0) with
  accessFlags := 1537
  interfaces := #[]
  cf := some (fileOf pool7 1 #[] #[] 1537 3 #[] #[])
  fields := #[]
  methods := #[]
  instanceTypes := #[]
  staticTypes := #[]
  resolved := Array.replicate 12 none
  statics := none }

def pool8 : Array CpInfo := pool [(1, .class_ 2), (0, u "java/io/Serializable"), (0, .class_ 4), (0, u "java/lang/Object")] 2

/-- java/io/Serializable -/
def k8 : Class := { plain "java/io/Serializable" (some 0) with
  accessFlags := 1537
  interfaces := #[]
  cf := some (fileOf pool8 1 #[] #[] 1537 3 #[] #[])
  fields := #[]
  methods := #[]
  instanceTypes := #[]
  staticTypes := #[]
  resolved := Array.replicate 7 none
  statics := none }

def pool9 : Array CpInfo := pool [(20, .methodref 21 22), (0, .class_ 23), (0, .nameAndType 24 25), (0, u "java/time/Instant"), (0, u "create"), (0, u "(JI)Ljava/time/Instant;"), (44, u "ofEpochSecond"), (6, .nameAndType 78 79), (0, u "<init>"), (0, u "()V"), (41, .fieldref 21 122), (0, .nameAndType 123 124), (0, u "EPOCH"), (0, u "Ljava/time/Instant;"), (0, .long 18415187059542332416), (1, .long 31556889864403199), (6, .methodref 21 135), (0, .nameAndType 78 136), (0, u "(JI)V"), (0, .methodref 138 77), (0, .class_ 139), (0, u "java/lang/Object"), (0, .fieldref 21 141), (0, .nameAndType 142 143), (0, u "seconds"), (0, u "J"), (0, .fieldref 21 145), (0, .nameAndType 146 147), (0, u "nanos"), (0, u "I"), (28, .class_ 178), (1, u "java/time/temporal/Temporal"), (3, .class_ 184), (1, u "java/time/Instant$1"), (23, .class_ 210), (1, u "java/time/temporal/TemporalAdjuster"), (21, u "()J"), (14, u "(J)Ljava/time/Instant;"), (175, u "MIN"), (4, u "MAX"), (0, .class_ 430), (0, u "java/lang/Comparable"), (0, .class_ 432), (0, u "java/io/Serializable"), (0, u "MIN_SECOND"), (1, u "MAX_SECOND"), (0, u "serialVersionUID"), (33, u "getEpochSecond")] 108

def k9c0 : Code := { maxStack := 3, maxLocals := 2, code := jdk_2320_method_3_code, exceptionTable := #[], attributes := #[] }
def k9m0 : Method := { name := "ofEpochSecond", desc := "(J)Ljava/time/Instant;", sig := { parameters := [.long], returnType := some (.object "java/time/Instant") }, accessFlags := 9, code := some k9c0 }
def k9c1 : Code := { maxStack := 5, maxLocals := 3, code := jdk_2320_method_8_code, exceptionTable := #[], attributes := #[] }
def k9m1 : Method := { name := "create", desc := "(JI)Ljava/time/Instant;", sig := { parameters := [.long, .int], returnType := some (.object "java/time/Instant") }, accessFlags := 10, code := some k9c1 }
def k9c2 : Code := { maxStack := 3, maxLocals := 4, code := jdk_2320_method_9_code, exceptionTable := #[], attributes := #[] }
def k9m2 : Method := { name := "<init>", desc := "(JI)V", sig := { parameters := [.long, .int], returnType := none }, accessFlags := 2, code := some k9c2 }
def k9c3 : Code := { maxStack := 2, maxLocals := 1, code := jdk_2320_method_15_code, exceptionTable := #[], attributes := #[] }
def k9m3 : Method := { name := "getEpochSecond", desc := "()J", sig := { parameters := [], returnType := some .long }, accessFlags := 1, code := some k9c3 }
/-- java/time/Instant -/
def k9 : Class := { plain "java/time/Instant" (some 0) with
  accessFlags := 49
  interfaces := #[5, 6, 7, 8]
  cf := some (fileOf pool9 21 #[.nestMembers #[182]] #[{ accessFlags := 9, nameIndex := 70, descriptorIndex := 247, attributes := #[] }, { accessFlags := 10, nameIndex := 24, descriptorIndex := 25, attributes := #[] }, { accessFlags := 2, nameIndex := 78, descriptorIndex := 136, attributes := #[] }, { accessFlags := 1, nameIndex := 470, descriptorIndex := 232, attributes := #[] }] 49 138 #[176, 208, 429, 431] #[{ accessFlags := 25, nameIndex := 123, descriptorIndex := 124, attributes := #[] }, { accessFlags := 26, nameIndex := 433, descriptorIndex := 143, attributes := #[] }, { accessFlags := 26, nameIndex := 435, descriptorIndex := 143, attributes := #[] }, { accessFlags := 25, nameIndex := 423, descriptorIndex := 124, attributes := #[] }, { accessFlags := 25, nameIndex := 428, descriptorIndex := 124, attributes := #[] }, { accessFlags := 26, nameIndex := 436, descriptorIndex := 143, attributes := #[] }, { accessFlags := 18, nameIndex := 142, descriptorIndex := 143, attributes := #[] }, { accessFlags := 18, nameIndex := 146, descriptorIndex := 147, attributes := #[] }])
  fields := #[{ name := "EPOCH", type := (.object "java/time/Instant"), accessFlags := 25, slot := 0, constantValue := 0 }, { name := "MIN_SECOND", type := .long, accessFlags := 26, slot := 1, constantValue := 0 }, { name := "MAX_SECOND", type := .long, accessFlags := 26, slot := 2, constantValue := 0 }, { name := "MIN", type := (.object "java/time/Instant"), accessFlags := 25, slot := 3, constantValue := 0 }, { name := "MAX", type := (.object "java/time/Instant"), accessFlags := 25, slot := 4, constantValue := 0 }, { name := "serialVersionUID", type := .long, accessFlags := 26, slot := 5, constantValue := 0 }, { name := "seconds", type := .long, accessFlags := 18, slot := 0, constantValue := 0 }, { name := "nanos", type := .int, accessFlags := 18, slot := 1, constantValue := 0 }]
  methods := #[k9m0, k9m1, k9m2, k9m3]
  instanceTypes := #[.long, .int]
  staticTypes := #[(.object "java/time/Instant"), .long, .long, (.object "java/time/Instant"), (.object "java/time/Instant"), .long]
  resolved := Array.replicate 579 none
  statics := some 1 }

def pool10 : Array CpInfo := pool [(1, u "java/lang/Cloneable"), (0, .class_ 1), (0, u "java/lang/Object"), (0, .class_ 3)] 3

/-- java/lang/Cloneable -/
def k10 : Class := { plain "java/lang/Cloneable" (some 0) with
  accessFlags := 1537
  interfaces := #[]
  cf := some (fileOf pool10 2 #[] #[] 1537 4 #[] #[])
  fields := #[]
  methods := #[]
  instanceTypes := #[]
  staticTypes := #[]
  resolved := Array.replicate 8 none
  statics := none }

/-- the primitive byte -/
def k11 : Class := { plain "byte" none with kind := .primitive 'B', accessFlags := 0x411 }
/-- [B -/
def k12 : Class := { plain "[B" (some 0) with kind := .array 11 .byte, interfaces := #[10, 8], accessFlags := 1041 }

/-- the primitive int -/
def k13 : Class := { plain "int" none with kind := .primitive 'I', accessFlags := 0x411 }
/-- [I -/
def k14 : Class := { plain "[I" (some 0) with kind := .array 13 .int, interfaces := #[10, 8], accessFlags := 1041 }

def heap : Heap := #[{ cls := 3, slots := #[.long 31556889864403199], vm := .statics 3 },
  { cls := 9, slots := #[.ref 2, .long 0, .long 0, .null, .null, .long 0], vm := .statics 9 },
  { cls := 9, slots := #[.long 0, .int 0], vm := .none }]
def classes : Array Class := #[k0, k1, k2, k3, k4, k5, k6, k7, k8, k9, k10, k11, k12, k13, k14]
def interned : List (Array UInt16 × Addr) := []
def slotsUsed : Nat := 9
def theMethod : MethodId := ⟨1, 2⟩
def args0 : Array Value := #[.int 5, .int 6, .int 7]
def aboutOver (below : List Frame) : State where
  vm := { classes := classes, interned := interned.toArray }
  heap := heap
  slotsUsed := slotsUsed
  threads := #[{ frames := .invoking theMethod args0 :: below }]
def below0 : List Frame := [.native { method := ⟨0, 0⟩, args := #[] }]
def about1 : State := aboutOver below0
def p0 : Program := .bare "" "" ""
def e0 : Env := launch0.env 0 0 0
theorem w_frames : about1.frames = Frame.invoking theMethod args0 :: below0 := rfl
set_option maxRecDepth 65536 in
theorem w_args : argsFit about1.vm theMethod args0 = true := by decide +kernel
set_option maxRecDepth 65536 in
theorem w_heap : heapFits about1 = true := by decide +kernel
set_option maxRecDepth 65536 in
theorem w_runnable : about1.curStatus? = some .runnable := by decide +kernel
set_option maxRecDepth 65536 in
theorem w_alone : about1.alone = true := by decide +kernel
set_option maxRecDepth 65536 in
theorem w_named : about1.methodNamed? x = some theMethod := by decide +kernel
set_option maxRecDepth 65536 in
theorem w_hears : about1.hears theMethod below0 = true := by decide +kernel
set_option maxRecDepth 65536 in
theorem w_ripe : about1.ripe theMethod args0 below0 = true := by decide +kernel
theorem w_running : about1.status = .running := rfl
set_option maxRecDepth 65536 in
theorem w_room : about1.hasRoom e0.platform room_1 = true :=
  launch0.hasRoom_least _ room_1 (by decide +kernel) (by decide +kernel) (by decide +kernel) (by decide +kernel) (by decide +kernel) (by decide +kernel)
theorem allAtoms_all (ts : List Jvm.Cond) (a : Array Jvm.Value) (st : Jvm.State) : (allAtoms ts).before a st = ts.all (fun c => c.before a st) := by
  induction ts with
  | nil => rfl
  | cons c t ih =>
    show (Jvm.Cond.and c (allAtoms t)).before a st = _
    rw [Jvm.Cond.before_and, ih, List.all_cons]
def words1 : List Jvm.Cond := Jvm.Cond.code x code maxLocals ret :: tables_1
/-- a 'code' word, met by the world's own term for the bytes: nothing is compared byte by byte -/
theorem code_word {y : MethodName} {bytes : ByteArray} {mx : Nat} {rt : Option FieldType} {a : Array Value} {s : State} {m : MethodId} {meth : Method} {c : Code} (h1 : s.methodNamed? y = some m) (h2 : s.vm.method? m = some meth) (h3 : meth.code = some c) (h4 : c.code = bytes)
    (h5 : (c.maxLocals == mx && c.exceptionTable.isEmpty && decide (c.maxStack ≤ mostOperands) && decide (meth.sig.returnType = rt) && !meth.locks && decide (parseMethodDescriptor y.desc = some meth.sig)) = true) : (Jvm.Cond.code y bytes mx rt).before a s = true := by
  simp only [Bool.and_eq_true, beq_iff_eq, Bool.not_eq_true', decide_eq_true_eq] at h5
  obtain ⟨⟨⟨⟨⟨g1, g2⟩, g3⟩, g4⟩, g5⟩, g6⟩ := h5
  simp [Cond.before, Cond.holds, Cond.value, h1, h2, h3, h4, g1, g2, g3, g4, g5, g6]
def isCode : Jvm.Cond → Bool
  | .code _ _ _ _ => true
  | _ => false
theorem all_split {L : List Jvm.Cond} {P : Jvm.Cond → Bool} (h1 : L.all (fun c => isCode c || P c) = true) (h2 : ∀ c ∈ L.filter isCode, P c = true) : L.all P = true := by
  refine List.all_eq_true.mpr fun c hc => ?_
  have h := List.all_eq_true.mp h1 c hc
  rcases Bool.eq_false_or_eq_true (isCode c) with hi | hi
  · exact h2 c (List.mem_filter.mpr ⟨hc, hi⟩)
  · simpa [hi] using h
set_option maxRecDepth 65536 in
theorem w_c0 : (Jvm.Cond.code x code maxLocals ret).before args0 about1 = true := code_word (m := ⟨1, 2⟩) (meth := k1m2) (c := k1c2) (by decide +kernel) rfl rfl rfl (by decide +kernel)
set_option maxRecDepth 65536 in
theorem w_c1 : (Jvm.Cond.code ({ cls := "com/example/role_rights/rolerights/scenario/ScenarioClock", name := "<init>", desc := "()V" } : Jvm.MethodName) prog_54_method_1_code (1 : Nat) (Option.none : Option Jvm.ClassFile.FieldType)).before args0 about1 = true := code_word (m := ⟨3, 0⟩) (meth := k3m0) (c := k3c0) (by decide +kernel) rfl rfl rfl (by decide +kernel)
set_option maxRecDepth 65536 in
theorem w_c2 : (Jvm.Cond.code ({ cls := "java/lang/Object", name := "<init>", desc := "()V" } : Jvm.MethodName) object_method_1_code (1 : Nat) (Option.none : Option Jvm.ClassFile.FieldType)).before args0 about1 = true := code_word (m := ⟨0, 0⟩) (meth := k0m0) (c := k0c0) (by decide +kernel) rfl rfl rfl (by decide +kernel)
set_option maxRecDepth 65536 in
theorem w_c3 : (Jvm.Cond.code ({ cls := "com/example/role_rights/rolerights/scenario/ScenarioClockAdvancePinLaw", name := "read", desc := "(Lcom/example/role_rights/rolerights/scenario/ScenarioClock;)J" } : Jvm.MethodName) method_2_code (1 : Nat) (Option.some Jvm.ClassFile.FieldType.long)).before args0 about1 = true := code_word (m := ⟨1, 1⟩) (meth := k1m1) (c := k1c1) (by decide +kernel) rfl rfl rfl (by decide +kernel)
set_option maxRecDepth 65536 in
theorem w_c4 : (Jvm.Cond.code ({ cls := "com/example/role_rights/rolerights/scenario/ScenarioClock", name := "instant", desc := "()Ljava/time/Instant;" } : Jvm.MethodName) prog_54_method_2_code (1 : Nat) (Option.some (Jvm.ClassFile.FieldType.object "java/time/Instant"))).before args0 about1 = true := code_word (m := ⟨3, 1⟩) (meth := k3m1) (c := k3c1) (by decide +kernel) rfl rfl rfl (by decide +kernel)
set_option maxRecDepth 65536 in
theorem w_c5 : (Jvm.Cond.code ({ cls := "java/time/Instant", name := "ofEpochSecond", desc := "(J)Ljava/time/Instant;" } : Jvm.MethodName) jdk_2320_method_3_code (2 : Nat) (Option.some (Jvm.ClassFile.FieldType.object "java/time/Instant"))).before args0 about1 = true := code_word (m := ⟨9, 0⟩) (meth := k9m0) (c := k9c0) (by decide +kernel) rfl rfl rfl (by decide +kernel)
set_option maxRecDepth 65536 in
theorem w_c6 : (Jvm.Cond.code ({ cls := "java/time/Instant", name := "create", desc := "(JI)Ljava/time/Instant;" } : Jvm.MethodName) jdk_2320_method_8_code (3 : Nat) (Option.some (Jvm.ClassFile.FieldType.object "java/time/Instant"))).before args0 about1 = true := code_word (m := ⟨9, 1⟩) (meth := k9m1) (c := k9c1) (by decide +kernel) rfl rfl rfl (by decide +kernel)
set_option maxRecDepth 65536 in
theorem w_c7 : (Jvm.Cond.code ({ cls := "java/time/Instant", name := "getEpochSecond", desc := "()J" } : Jvm.MethodName) jdk_2320_method_15_code (1 : Nat) (Option.some Jvm.ClassFile.FieldType.long)).before args0 about1 = true := code_word (m := ⟨9, 3⟩) (meth := k9m3) (c := k9c3) (by decide +kernel) rfl rfl rfl (by decide +kernel)
set_option maxRecDepth 65536 in
theorem w_c8 : (Jvm.Cond.code ({ cls := "com/example/role_rights/rolerights/scenario/ScenarioClock", name := "advance", desc := "(I)V" } : Jvm.MethodName) prog_54_method_3_code (2 : Nat) (Option.none : Option Jvm.ClassFile.FieldType)).before args0 about1 = true := code_word (m := ⟨3, 2⟩) (meth := k3m2) (c := k3c2) (by decide +kernel) rfl rfl rfl (by decide +kernel)
set_option maxRecDepth 65536 in
theorem w_c9 : (Jvm.Cond.code ({ cls := "java/time/Instant", name := "<init>", desc := "(JI)V" } : Jvm.MethodName) jdk_2320_method_9_code (4 : Nat) (Option.none : Option Jvm.ClassFile.FieldType)).before args0 about1 = true := code_word (m := ⟨9, 2⟩) (meth := k9m2) (c := k9c2) (by decide +kernel) rfl rfl rfl (by decide +kernel)
def codes1 : List Jvm.Cond := [Jvm.Cond.code x code maxLocals ret, Jvm.Cond.code ({ cls := "com/example/role_rights/rolerights/scenario/ScenarioClock", name := "<init>", desc := "()V" } : Jvm.MethodName) prog_54_method_1_code (1 : Nat) (Option.none : Option Jvm.ClassFile.FieldType), Jvm.Cond.code ({ cls := "java/lang/Object", name := "<init>", desc := "()V" } : Jvm.MethodName) object_method_1_code (1 : Nat) (Option.none : Option Jvm.ClassFile.FieldType), Jvm.Cond.code ({ cls := "com/example/role_rights/rolerights/scenario/ScenarioClockAdvancePinLaw", name := "read", desc := "(Lcom/example/role_rights/rolerights/scenario/ScenarioClock;)J" } : Jvm.MethodName) method_2_code (1 : Nat) (Option.some Jvm.ClassFile.FieldType.long), Jvm.Cond.code ({ cls := "com/example/role_rights/rolerights/scenario/ScenarioClock", name := "instant", desc := "()Ljava/time/Instant;" } : Jvm.MethodName) prog_54_method_2_code (1 : Nat) (Option.some (Jvm.ClassFile.FieldType.object "java/time/Instant")), Jvm.Cond.code ({ cls := "java/time/Instant", name := "ofEpochSecond", desc := "(J)Ljava/time/Instant;" } : Jvm.MethodName) jdk_2320_method_3_code (2 : Nat) (Option.some (Jvm.ClassFile.FieldType.object "java/time/Instant")), Jvm.Cond.code ({ cls := "java/time/Instant", name := "create", desc := "(JI)Ljava/time/Instant;" } : Jvm.MethodName) jdk_2320_method_8_code (3 : Nat) (Option.some (Jvm.ClassFile.FieldType.object "java/time/Instant")), Jvm.Cond.code ({ cls := "java/time/Instant", name := "getEpochSecond", desc := "()J" } : Jvm.MethodName) jdk_2320_method_15_code (1 : Nat) (Option.some Jvm.ClassFile.FieldType.long), Jvm.Cond.code ({ cls := "com/example/role_rights/rolerights/scenario/ScenarioClock", name := "advance", desc := "(I)V" } : Jvm.MethodName) prog_54_method_3_code (2 : Nat) (Option.none : Option Jvm.ClassFile.FieldType), Jvm.Cond.code ({ cls := "java/time/Instant", name := "<init>", desc := "(JI)V" } : Jvm.MethodName) jdk_2320_method_9_code (4 : Nat) (Option.none : Option Jvm.ClassFile.FieldType)]
set_option maxRecDepth 65536 in
theorem codes_eq : words1.filter isCode = codes1 := rfl
theorem w_codes : ∀ c ∈ words1.filter isCode, c.before args0 about1 = true := by
  rw [codes_eq]
  intro c hc
  simp only [codes1, List.mem_cons, List.not_mem_nil, or_false] at hc
  rcases hc with rfl | rfl | rfl | rfl | rfl | rfl | rfl | rfl | rfl | rfl
  · exact w_c0
  · exact w_c1
  · exact w_c2
  · exact w_c3
  · exact w_c4
  · exact w_c5
  · exact w_c6
  · exact w_c7
  · exact w_c8
  · exact w_c9
set_option maxRecDepth 65536 in
theorem w_t1 : (words1.take 24).all (fun c => isCode c || c.before args0 about1) = true := by decide +kernel
set_option maxRecDepth 65536 in
theorem w_t2 : ((words1.drop 24).take 24).all (fun c => isCode c || c.before args0 about1) = true := by decide +kernel
set_option maxRecDepth 65536 in
theorem w_t3 : ((words1.drop 24).drop 24).all (fun c => isCode c || c.before args0 about1) = true := by decide +kernel
theorem w_tables : (allAtoms (Jvm.Cond.code x code maxLocals ret :: tables_1)).before args0 about1 = true := by
  rw [allAtoms_all]
  show words1.all (fun c => c.before args0 about1) = true
  refine all_split ?_ w_codes
  rw [← List.take_append_drop 24 words1, List.all_append, w_t1, ← List.take_append_drop 24 (words1.drop 24), List.all_append, w_t2, w_t3]
  rfl
set_option maxRecDepth 65536 in
theorem w_rest : rest_1_c.before args0 about1 = true := by decide +kernel
set_option maxRecDepth 65536 in
theorem w_case : (Jvm.Cond.and given_1 narrow_1).before args0 about1 = true := by decide +kernel
theorem w_applies : (headSpec (Jvm.Cond.code x code maxLocals ret :: tables_1) room_1).applies x e0.platform about1 = true :=
  (Spec.applies_iff w_frames).mpr ⟨w_running, w_runnable, w_alone, w_named, w_hears, w_ripe, w_room, w_tables⟩
theorem atStart : AtStart classFile x code maxLocals ret World_1 tables_1 room_1 Calls_1 rest_1 Pre_1 launch0 p0 e0 about1 theMethod args0 below0 :=
  ⟨lists_1, trivial, launch0.admits_env _ _ _, launch0.least_env, fairChoices_fair.cas, fairChoices_fair.clock, w_frames, w_args, w_heap, w_applies, trivial, w_rest, w_case⟩
end start1
theorem witness_1 : WitnessClaimed_1 := ⟨start1.p0, start1.e0, start1.about1, start1.theMethod, start1.args0, start1.below0, start1.atStart⟩
end Jvm.Pilot.@@N@@
