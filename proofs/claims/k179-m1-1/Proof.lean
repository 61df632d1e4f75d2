import JvmDerived
import JvmDerived.Pilot.@@N@@Statement
import JvmDerived.Pilot.@@N@@Code
set_option linter.unusedVariables false
set_option linter.unusedSimpArgs false
namespace Jvm.Pilot.@@N@@
open Jvm Jvm.ClassFile Sem Op Lib Jvm.Free Jvm.Stand Jvm.LawKit Jvm.RoadKit Bundle Jvm.Pilot.@@N@@.Jvm.D
theorem own_lt {x y : Int32} (h : x < y) : if_icmp.holds .lt x y = true ∧ if_icmp.holds .ge x y = false := by simp [if_icmp.holds, h, Int32.not_le.mpr h]
def own_Goes (p : Program) (e : Env) (below : List Frame) (s : State) (Q : Option Value → Heap → List Loc → Prop) (kc ks : Nat) (U : State) : Prop :=
  ∃ t o, Steps p.tables e below U t ∧ t.status = .running ∧ Ended t below o ∧ ∃ v L, o = .returned v ∧ Q v t.heap L ∧ FrameEnd s o t L kc ks
theorem own_go {p : Program} {e : Env} {below : List Frame} {s : State} {Q : Option Value → Heap → List Loc → Prop} {kc ks : Nat} {U V : State} (h : ∀ t, Steps p.tables e below V t → Steps p.tables e below U t) (g : own_Goes p e below s Q kc ks V) : own_Goes p e below s Q kc ks U := by
  obtain ⟨t, o, h1, r⟩ := g
  exact ⟨t, o, h t h1, r⟩
theorem own_out {p : Program} {l : Launch} {e : Env} {R : Room} {s : State} {m : MethodId} {args : Array Value} {below : List Frame} {meth : Method} {c : Code} {T : State} {locs : List Loc} {cells slots : Nat} {h : Heap} {Q : Option Value → Heap → List Loc → Prop} {kc ks : Nat} {U : State} {v : Option Value}
    (X : Stand p l e R s m args below meth c T locs cells slots) (hlk : meth.locks = false) (hv : meth.sig.returnType = none → v = none)
    (hs : ∀ fs, (∀ (f : JFrame) (acts : List Action), f.method = m → f.locked = none → f.entered = [] → (doReturn e (T.setTop f) acts v).1 = T.setFrames fs) → Steps p.tables e below U (T.setFrames fs))
    (eT : T.heap = h) (hQ : Q v h locs) (hc : cells ≤ kc) (hsl : slots ≤ ks) : own_Goes p e below s Q kc ks U := by
  obtain ⟨fs, hr, hrun, hended, hW, hsame⟩ := X.leave hv hlk
  subst eT
  exact ⟨_, _, hs fs hr, hrun, hended, _, _, rfl, hQ, ⟨_, rfl⟩, hW, hsame.mono hc hsl⟩
theorem own_ks {h0 h : Heap} {ws : List Addr} (K : Keep h0 h ws) : h0.size ≤ h.size := K.1
theorem own_cmpL (x : Int64) : XT.cmpL x x = 0 := by simp [XT.cmpL]
theorem own_vne {a b : Int32} (h : a ≠ b) : Value.int a ≠ .int b := fun q => h (Value.int.inj q)
theorem own_nn (x : Int32) : ¬ (x &&& 2147483647) < 0 := fun h => absurd ((XT.and_neg32 x 2147483647).mp h).2 (by decide)
theorem own_lk {p : Program} {l : Launch} {x : MethodName} {S : Spec} {code : ByteArray} {maxLocals : Nat} {ret : Option FieldType} {e : Env} {s : State} {m : MethodId} {args : Array Value} {below : List Frame} {meth : Method} {c : Code} {s₁ : State} (B : BodyLoose p l x S code maxLocals ret e s m args below meth c s₁) : meth.locks = false := B.notSynchronized
theorem own_if (cd : ClassFile.Cond) {x : Int32} {b : Bool} (h : if_icmp.holds cd x 0 = b) : ifCond.holds cd x = b := by rw [if0]; exact h
theorem own_aeq {a b : Addr} (h : a = b) : XT.acmp .eq (.ref a) (.ref b) = true ∧ XT.acmp .ne (.ref a) (.ref b) = false := by subst h; exact ⟨XT.aa_eq_t rfl, XT.aa_ne_f rfl⟩
theorem own_ane {a b : Addr} (h : ¬ a = b) : XT.acmp .eq (.ref a) (.ref b) = false ∧ XT.acmp .ne (.ref a) (.ref b) = true := ⟨XT.aa_eq_f (fun q => h (Value.ref.inj q)), XT.aa_ne_t (fun q => h (Value.ref.inj q))⟩
theorem own_eqI {args : Array Value} {s : State} {u : Term} {k : Int32} (h : (Jvm.Cond.eq u (.int k)).value args s none s [] = some true) : u.eval args s none [] s = some (.int k) := by
  simp only [Jvm.Cond.value] at h
  cases hf : u.eval args s none [] s with
  | none => simp [hf] at h
  | some v => cases v <;> simp [hf, Term.eval] at h; subst h; rfl
theorem own_eqJ {args : Array Value} {s : State} {u : Term} {k : Int64} (h : (Jvm.Cond.eq u (.long k)).value args s none s [] = some true) : u.eval args s none [] s = some (.long k) := by
  simp only [Jvm.Cond.value] at h
  cases hf : u.eval args s none [] s with
  | none => simp [hf] at h
  | some v => cases v <;> simp [hf, Term.eval] at h; subst h; rfl
theorem own_cl_gt (x y : Int64) : 0 < XT.cmpL x y ↔ y < x := by
  unfold XT.cmpL
  by_cases h : y < x
  · simp [h]
  · by_cases g : x = y
    · subst g; simp [h]
    · simp [h, g]
theorem own_cl_lt (x y : Int64) : XT.cmpL x y < 0 ↔ x < y := by
  unfold XT.cmpL
  by_cases h : y < x
  · have : ¬ x < y := fun q => by rw [Int64.lt_iff_toInt_lt] at h q; omega
    simp [h, this]
  · by_cases g : x = y
    · subst g; simp [h]
    · have : x < y := by
        rw [Int64.lt_iff_toInt_lt] at h ⊢
        have ne : x.toInt ≠ y.toInt := fun q => g (Int64.toInt_inj.mp q)
        omega
      simp [h, g, this]
theorem own_privateBack {p : Program} {l : Launch} {e : Env} {R : Room} {s : State} {m : MethodId} {args : Array Value} {below : List Frame} {meth : Method} {c : Code} {T : State} {locs : List Loc} {cells slots : Nat}
    (X : Stand p l e R s m args below meth c T locs cells slots) (hexec : p.tables.exec = Jvm.exec) {own : String} {index k : Nat} {y : MethodName} {bytes : ByteArray} {maxL : Nat} {ret : Option FieldType}
    (hown : s.vm.findClass own = some m.cls) (hlink : (Jvm.Cond.methodLink own index y).before args s = true) (hinst : (Jvm.Cond.instanceMethod y).before args s = true) (hmk : (Jvm.Cond.instantiable y.cls k).before args s = true)
    (hpriv : s.PrivateAt y) (hcode : (Jvm.Cond.code y bytes maxL ret).before args s = true) (hy : y.cls ≠ "java/lang/invoke/MethodHandle" ∧ y.cls ≠ "java/lang/invoke/VarHandle")
    {W : Nat} {Pre : Free.Pt → Array Value → Prop} {Post : Free.Pt → Array Value → Option Value → Free.Pt → Prop} (hK : Free.Back l R p e below s args y 3 W Pre Post)
    {g : JFrame} (hg : g.method = m) (hsize : g.locals.size = c.maxLocals) {s₀ : State} (hcome : Steps p.tables e below s₀ (T.setTop g)) {a : Addr} {cell : Cell} (hcell : T.heap[a]? = some cell) (hobj : ∀ q, cell.vm ≠ .statics q)
    {argsL rest : List Value} (hlen : ∀ sig, parseMethodDescriptor y.desc = some sig → argsL.length = sig.parameters.length)
    (hstack : g.stack = argsL.reverse ++ .ref a :: rest) (hW : 2 * g.monitorRoom + (rest.map fun v => v.category).sum ≤ W) (hdg : decode c.code g.pc = .ok (.invokevirtual index, 3))
    (hpre : ∀ vm₁, s.WarmedH vm₁ → Pre ⟨T.setVm vm₁, locs, cells, slots⟩ (.ref a :: argsL).toArray) :
    ∃ (v : Option Value) (vm₁ : Vm) (B : Free.Pt), s.WarmedH vm₁ ∧ Stand p l e R s m args below meth c B.U B.locs B.cells B.slots ∧ Post ⟨T.setVm vm₁, locs, cells, slots⟩ (.ref a :: argsL).toArray v B ∧
      Steps p.tables e below s₀ (B.U.setTop { g with pc := g.pc + 3, stack := v.toList ++ rest }) := by
  obtain ⟨mk, r, named, found, inst, abs⟩ := Cond.instanceMethod_spec hinst
  obtain ⟨r', cM, found', -, -, -, -, -, -, sig⟩ := Cond.code_spec named hcode
  cases found.symm.trans found'
  obtain ⟨cC, kC, k1, k2, -, k4, -⟩ := Cond.instantiable_spec hmk
  cases (findClass_of_methodNamed named).symm.trans k1
  have face : kC.isInterface = false := (Bool.or_eq_false_iff.mp k4).1
  have sel : selectMethod e.platform s.vm cell.cls mk = .method mk := selectMethod_private found (hpriv mk r named found)
  obtain ⟨vm₁, X₁, go⟩ := X.invokevirtual hexec hown hlink named found inst k2 face hy (a := a) (cell := cell) hcell hobj sel found abs k2 face (g := g) hg (argsL := argsL) (rest := rest) (hlen _ sig) hstack hdg
  obtain ⟨v, B, X', post, back⟩ := hK m meth c ⟨T.setVm vm₁, locs, cells, slots⟩ { g with stack := rest } (.invokevirtual index) mk (.ref a :: argsL).toArray X₁ hg hsize hdg hW (X₁.named named) (hpre vm₁ X₁.warmed)
  exact ⟨v, vm₁, B, X₁.warmed, X', post, (hcome.trans (go _ fun acts => by rw [doInvoke_state]; exact Steps.refl _)).trans back⟩
theorem own_fitR {C : String} {v : Value} (h : v.isRef = true) : fits (.object C) v = true := by rcases ref_cases h with rfl | ⟨a, rfl⟩ <;> rfl
theorem own_fI {args : Array Value} {s : State} {t : Term} {a : Addr} {O n d : String} {k : Int32} (ev : t.eval args s none [] s = some (.ref a)) (h : (Jvm.Cond.eq (.field t O n d) (.int k)).value args s none s [] = some true) : Fld s s.heap a O n d (.int k) := by
  refine Fld.start ?_
  simp only [Jvm.Cond.value, fld_at ev] at h
  cases hf : s.fieldOf? a O n d with
  | none => simp [hf] at h
  | some v => cases v <;> simp [hf, Term.eval] at h; subst h; rfl
theorem own_fJ {args : Array Value} {s : State} {t : Term} {a : Addr} {O n d : String} {k : Int64} (ev : t.eval args s none [] s = some (.ref a)) (h : (Jvm.Cond.eq (.field t O n d) (.long k)).value args s none s [] = some true) : Fld s s.heap a O n d (.long k) := by
  refine Fld.start ?_
  simp only [Jvm.Cond.value, fld_at ev] at h
  cases hf : s.fieldOf? a O n d with
  | none => simp [hf] at h
  | some v => cases v <;> simp [hf, Term.eval] at h; subst h; rfl
theorem own_fN {args : Array Value} {s : State} {t : Term} {a : Addr} {O n d : String} (ev : t.eval args s none [] s = some (.ref a)) (h : (Jvm.Cond.eq (.field t O n d) .null).value args s none s [] = some true) : Fld s s.heap a O n d .null := Fld.start ((fld_at ev).symm.trans (null_v h))
theorem pn_0 : plainName "com/example/role_rights/rolerights/decision/Nearest" = true := by first | (simp [plainName, overriddenIn]; done) | decide +kernel
theorem pn_1 : plainName "com/example/role_rights/rolerights/decision/NearestMayCountPinLaw" = true := by first | (simp [plainName, overriddenIn]; done) | decide +kernel
theorem pn_2 : plainName "java/lang/Integer" = true := by first | (simp [plainName, overriddenIn]; done) | decide +kernel
theorem pd_0 : parseMethodDescriptor "(II)I" = some ⟨[.int, .int], some .int⟩ := by decide +kernel
theorem pd_1 : parseMethodDescriptor "(III)I" = some ⟨[.int, .int, .int], some .int⟩ := by decide +kernel
theorem pd_2 : parseMethodDescriptor "(Lcom/example/role_rights/rolerights/policy/Effect;Lcom/example/role_rights/rolerights/policy/Effect;)Lcom/example/role_rights/rolerights/policy/Effect;" = some ⟨[(.object "com/example/role_rights/rolerights/policy/Effect"), (.object "com/example/role_rights/rolerights/policy/Effect")], some (.object "com/example/role_rights/rolerights/policy/Effect")⟩ := by decide +kernel
theorem pd_3 : parseMethodDescriptor "()V" = some ⟨[], none⟩ := by decide +kernel
theorem pd_4 : parseMethodDescriptor "(I)Z" = some ⟨[.int], some .boolean⟩ := by decide +kernel
theorem pd_5 : parseMethodDescriptor "(I)Lcom/example/role_rights/rolerights/policy/Effect;" = some ⟨[.int], some (.object "com/example/role_rights/rolerights/policy/Effect")⟩ := by decide +kernel
theorem pd_6 : parseMethodDescriptor "(IIILcom/example/role_rights/rolerights/policy/Effect;)V" = some ⟨[.int, .int, .int, (.object "com/example/role_rights/rolerights/policy/Effect")], none⟩ := by decide +kernel
theorem own_nmx (x : Int32) : ¬ (2147483647 : Int32) < x := fun q => by
  rw [Int32.lt_iff_toInt_lt] at q
  have e : (2147483647 : Int32).toInt = 2147483647 := rfl
  have := Int32.toInt_lt x
  omega
theorem own_mx {x : Int32} (h : ¬ x < (2147483647 : Int32)) : x = 2147483647 := by
  rw [Int32.lt_iff_toInt_lt] at h
  have e : (2147483647 : Int32).toInt = 2147483647 := rfl
  have := Int32.toInt_lt x
  exact Int32.toInt_inj.mp (by omega)
theorem own_asym {x y : Int32} (h : x < y) : ¬ y < x := fun q => by
  rw [Int32.lt_iff_toInt_lt] at h q
  omega
theorem own_min (a b : Int32) : ∃ r : Int32, (¬ (a < b) → r = b) ∧ (¬ (b < a) → r = a) ∧ (b < a → r = b) := by
  refine ⟨if b < a then b else a, fun h => ?_, fun h => if_neg h, fun h => if_pos h⟩
  by_cases g : b < a
  · exact if_pos g
  · rw [if_neg g]
    rw [Int32.lt_iff_toInt_lt] at g h
    exact Int32.toInt_inj.mp (by omega)
theorem own_and3 (x : Int32) : (x &&& 3) = 0 ∨ (x &&& 3) = 1 ∨ (x &&& 3) = 2 ∨ (x &&& 3) = 3 := by
  have h0 : ¬ (x &&& 3) < 0 := fun h => absurd ((XT.and_neg32 x 3).mp h).2 (by decide)
  have h1 : (x &&& 3).toBitVec.toNat ≤ 3 := by
    show (x.toBitVec &&& (3 : Int32).toBitVec).toNat ≤ 3
    rw [BitVec.toNat_and]
    exact Nat.and_le_right
  have h2 : (x &&& 3).toInt = ((x &&& 3).toBitVec.toNat : Int) := by
    rw [XT.negI32] at h0
    generalize x &&& 3 = y at h0 h1 ⊢
    have := BitVec.toInt_eq_toNat_cond y.toBitVec
    have e : y.toInt = y.toBitVec.toInt := rfl
    rw [e] at h0 ⊢
    rw [this]
    split <;> omega
  generalize x &&& 3 = y at h0 h1 h2 ⊢
  have h3 : y.toInt = 0 ∨ y.toInt = 1 ∨ y.toInt = 2 ∨ y.toInt = 3 := by omega
  rcases h3 with h | h | h | h
  · exact Or.inl (Int32.toInt_inj.mp h)
  · exact Or.inr (Or.inl (Int32.toInt_inj.mp h))
  · exact Or.inr (Or.inr (Or.inl (Int32.toInt_inj.mp h)))
  · exact Or.inr (Or.inr (Or.inr (Int32.toInt_inj.mp h)))
theorem d1_0 : decode prog_23_method_1_code 0 = .ok (.aload_n 0, 1) := by decide +kernel
theorem d1_1 : decode prog_23_method_1_code 1 = .ok (.invokespecial 1, 3) := by decide +kernel
theorem d1_4 : decode prog_23_method_1_code 4 = .ok (.aload_n 0, 1) := by decide +kernel
theorem d1_5 : decode prog_23_method_1_code 5 = .ok (.ldc 9, 2) := by decide +kernel
theorem d1_7 : decode prog_23_method_1_code 7 = .ok (.putfield 10, 3) := by decide +kernel
theorem d1_10 : decode prog_23_method_1_code 10 = .ok (.aload_n 0, 1) := by decide +kernel
theorem d1_11 : decode prog_23_method_1_code 11 = .ok (.ldc 9, 2) := by decide +kernel
theorem d1_13 : decode prog_23_method_1_code 13 = .ok (.putfield 16, 3) := by decide +kernel
theorem d1_16 : decode prog_23_method_1_code 16 = .ok (.aload_n 0, 1) := by decide +kernel
theorem d1_17 : decode prog_23_method_1_code 17 = .ok (.ldc 9, 2) := by decide +kernel
theorem d1_19 : decode prog_23_method_1_code 19 = .ok (.putfield 19, 3) := by decide +kernel
theorem d1_22 : decode prog_23_method_1_code 22 = .ok (.return_, 1) := by decide +kernel
theorem ef_init (m : MethodId) (a : Addr) : entryFrame m #[(.ref a)] 1 = mkF m 0 #[.val (.ref a)] [] := by
  first | (simp [entryFrame, mkF, argsToLocals, Value.category]; done) | rfl
def Q_init (Z : State) (a : Addr) (h0 : Heap) (n0 : Nat) (v : Option Value) (h : Heap) (L : List Loc) : Prop := v = none ∧ Fr n0 L ∧ Keep h0 h [a] ∧ Fld Z h a "com/example/role_rights/rolerights/decision/Nearest" "effect" "Lcom/example/role_rights/rolerights/policy/Effect;" .null ∧ Fld Z h a "com/example/role_rights/rolerights/decision/Nearest" "objectDistance" "I" (.int (2147483647 : Int32)) ∧ Fld Z h a "com/example/role_rights/rolerights/decision/Nearest" "subjectDistance" "I" (.int (2147483647 : Int32)) ∧ Fld Z h a "com/example/role_rights/rolerights/decision/Nearest" "rightDistance" "I" (.int (2147483647 : Int32))
set_option maxRecDepth 65536 in
set_option maxHeartbeats 40000000 in
theorem rm_init (l : Launch) (Z : State) (a0 : Array Value) (hw : ∀ d ∈ tables_1, d.before a0 Z = true) (ws : List Jvm.Cond) (a : Addr) (h0 : Heap) (n0 : Nat) (O0 : Old Z n0 h0) (F0 : Fld Z h0 a "com/example/role_rights/rolerights/decision/Nearest" "effect" "Lcom/example/role_rights/rolerights/policy/Effect;" .null) (F1 : Fld Z h0 a "com/example/role_rights/rolerights/decision/Nearest" "objectDistance" "I" (.int (0 : Int32))) (F2 : Fld Z h0 a "com/example/role_rights/rolerights/decision/Nearest" "subjectDistance" "I" (.int (0 : Int32))) (F3 : Fld Z h0 a "com/example/role_rights/rolerights/decision/Nearest" "rightDistance" "I" (.int (0 : Int32))) (Ea : Exa Z h0 a "com/example/role_rights/rolerights/decision/Nearest") (g_a : n0 ≤ a) :
    MetFree l (⟨"com/example/role_rights/rolerights/decision/Nearest", "<init>", "()V"⟩ : MethodName) (head1 (Jvm.Cond.code (⟨"com/example/role_rights/rolerights/decision/Nearest", "<init>", "()V"⟩ : MethodName) prog_23_method_1_code 1 none :: ws) ({ frames := 1, cells := 0, slots := 0, locals := 12 } : Room)) (fun av_ U => av_ = #[(.ref a)] ∧ Z.Warmed39 U.vm ∧ U.heap = h0) (fun _ _ _ _ _ => True) (fun _ U o_ U' => ∃ v L, o_ = .returned v ∧ Q_init Z a h0 n0 v U'.heap L ∧ FrameEnd U o_ U' L ({ frames := 1, cells := 0, slots := 0, locals := 12 } : Room).cells ({ frames := 1, cells := 0, slots := 0, locals := 12 } : Room).slots) := by
  refine MetFree.of_bodySF (plainFor_of_name pn_0) hisR ?_
  intro p e s m args below meth c s₁ Bd hml0 hP hK
  obtain ⟨rfl, hZ, hh⟩ := hP
  have hx := Bd.exec
  have hby := Bd.bytes
  have hml : c.maxLocals = 1 := hml0
  have hown : s.vm.findClass "com/example/role_rights/rolerights/decision/Nearest" = some m.cls := findClass_of_methodNamed Bd.named
  have hnm := (name_of_methodNamed Bd.named Bd.method).1
  have hlk := own_lk Bd
  have hret := Bd.returns
  have X0 : Stand p l e ({ frames := 1, cells := 0, slots := 0, locals := 12 } : Room) s m #[(.ref a)] below meth c s₁ [] 0 0 := Stand.of_body Bd
  have e0 : s₁.heap = h0 := by rw [← hh, Bd.state]; rfl
  have N0 := Fr.nil n0
  show own_Goes p e below s (Q_init Z a h0 n0) ({ frames := 1, cells := 0, slots := 0, locals := 12 } : Room).cells ({ frames := 1, cells := 0, slots := 0, locals := 12 } : Room).slots (s₁.setTop (entryFrame m #[(.ref a)] 1))
  refine own_go (fun _ ww => castTop (ef_init m a) ww) ?_
  show own_Goes _ _ _ _ _ _ _ (s₁.setTop (mkF m 0 #[.val (.ref a)] []))
  refine own_go (fun _ ww => XS.aloadN X0.here hx rfl (hb hby d1_0) rfl rfl ww) ?_
  show own_Goes _ _ _ _ _ _ _ (s₁.setTop (mkF m 1 #[.val (.ref a)] [(.ref a)]))
  obtain ⟨T1, X1, e1, st1⟩ := initO X0 hx hZ hown (hw _ (List.mem_of_getElem? (i := 6) rfl)) (hw _ (List.mem_of_getElem? (i := 7) rfl)) (hw _ (List.mem_of_getElem? (i := 8) rfl)) e0 (g := (mkF m 1 #[.val (.ref a)] [(.ref a)])) rfl (by rw [hml]; rfl) rfl (hb hby d1_1) (by decide) (W := 0) (by show 2 * 0 + _ ≤ _; exact Nat.le_of_eq rfl) (by decide)
  refine own_go st1 ?_
  show own_Goes _ _ _ _ _ _ _ (T1.setTop (mkF m 4 #[.val (.ref a)] []))
  refine own_go (fun _ ww => XS.aloadN X1.here hx rfl (hb hby d1_4) rfl rfl ww) ?_
  show own_Goes _ _ _ _ _ _ _ (T1.setTop (mkF m 5 #[.val (.ref a)] [(.ref a)]))
  refine own_go (fun _ ww => X1.ldcI hx hown (mvT hZ (hw _ (List.mem_of_getElem? (i := 9) rfl))) rfl (hb hby d1_5) ww) ?_
  show own_Goes _ _ _ _ _ _ _ (T1.setTop (mkF m 7 #[.val (.ref a)] [(.int (2147483647 : Int32)), (.ref a)]))
  obtain ⟨T2, h2, X2, e2, W2, st2⟩ := putF X1 hx hZ hown (host := "") (Or.inl (hw _ (List.mem_of_getElem? (i := 10) rfl))) Via.refl e1 F1 Ea (Or.inl (hw _ (List.mem_of_getElem? (i := 11) rfl))) (hw _ (List.mem_of_getElem? (i := 1) rfl)) (ty := .int) (by decide) rfl rfl (g := (mkF m 7 #[.val (.ref a)] [(.int (2147483647 : Int32)), (.ref a)])) rfl rfl (hb hby d1_7)
  have f3 : Fld Z h2 a "com/example/role_rights/rolerights/decision/Nearest" "effect" "Lcom/example/role_rights/rolerights/policy/Effect;" .null := (F0.other W2 (Or.inr (slot_ne (Or.inl (hw _ (List.mem_of_getElem? (i := 37) rfl))) (Or.inl (hw _ (List.mem_of_getElem? (i := 11) rfl))) (by decide) (t := (.object "com/example/role_rights/rolerights/policy/Effect")) (t' := .int) (by decide) (by decide))))
  have f4 : Fld Z h2 a "com/example/role_rights/rolerights/decision/Nearest" "objectDistance" "I" (.int (2147483647 : Int32)) := (F1.same W2)
  have f5 : Fld Z h2 a "com/example/role_rights/rolerights/decision/Nearest" "subjectDistance" "I" (.int (0 : Int32)) := (F2.other W2 (Or.inr (slot_ne (Or.inl (hw _ (List.mem_of_getElem? (i := 13) rfl))) (Or.inl (hw _ (List.mem_of_getElem? (i := 11) rfl))) (by decide) (t := .int) (t' := .int) (by decide) (by decide))))
  have f6 : Fld Z h2 a "com/example/role_rights/rolerights/decision/Nearest" "rightDistance" "I" (.int (0 : Int32)) := (F3.other W2 (Or.inr (slot_ne (Or.inl (hw _ (List.mem_of_getElem? (i := 15) rfl))) (Or.inl (hw _ (List.mem_of_getElem? (i := 11) rfl))) (by decide) (t := .int) (t' := .int) (by decide) (by decide))))
  have f7 : Exa Z h2 a "com/example/role_rights/rolerights/decision/Nearest" := (Ea.wr W2)
  have N2 := Fr.snoc X2 N0 g_a
  have O2 := O0.wr W2 g_a
  have K2 := (Keep.refl h0 [a]).wr W2 (Or.inl (List.mem_of_getElem? (i := 0) rfl))
  refine own_go st2 ?_
  show own_Goes _ _ _ _ _ _ _ (T2.setTop (mkF m 10 #[.val (.ref a)] []))
  refine own_go (fun _ ww => XS.aloadN X2.here hx rfl (hb hby d1_10) rfl rfl ww) ?_
  show own_Goes _ _ _ _ _ _ _ (T2.setTop (mkF m 11 #[.val (.ref a)] [(.ref a)]))
  refine own_go (fun _ ww => X2.ldcI hx hown (mvT hZ (hw _ (List.mem_of_getElem? (i := 9) rfl))) rfl (hb hby d1_11) ww) ?_
  show own_Goes _ _ _ _ _ _ _ (T2.setTop (mkF m 13 #[.val (.ref a)] [(.int (2147483647 : Int32)), (.ref a)]))
  obtain ⟨T8, h8, X8, e8, W8, st8⟩ := putF X2 hx hZ hown (host := "") (Or.inl (hw _ (List.mem_of_getElem? (i := 12) rfl))) Via.refl e2 f5 f7 (Or.inl (hw _ (List.mem_of_getElem? (i := 13) rfl))) (hw _ (List.mem_of_getElem? (i := 1) rfl)) (ty := .int) (by decide) rfl rfl (g := (mkF m 13 #[.val (.ref a)] [(.int (2147483647 : Int32)), (.ref a)])) rfl rfl (hb hby d1_13)
  have f9 : Fld Z h8 a "com/example/role_rights/rolerights/decision/Nearest" "effect" "Lcom/example/role_rights/rolerights/policy/Effect;" .null := (f3.other W8 (Or.inr (slot_ne (Or.inl (hw _ (List.mem_of_getElem? (i := 37) rfl))) (Or.inl (hw _ (List.mem_of_getElem? (i := 13) rfl))) (by decide) (t := (.object "com/example/role_rights/rolerights/policy/Effect")) (t' := .int) (by decide) (by decide))))
  have f10 : Fld Z h8 a "com/example/role_rights/rolerights/decision/Nearest" "objectDistance" "I" (.int (2147483647 : Int32)) := (f4.other W8 (Or.inr (slot_ne (Or.inl (hw _ (List.mem_of_getElem? (i := 11) rfl))) (Or.inl (hw _ (List.mem_of_getElem? (i := 13) rfl))) (by decide) (t := .int) (t' := .int) (by decide) (by decide))))
  have f11 : Fld Z h8 a "com/example/role_rights/rolerights/decision/Nearest" "subjectDistance" "I" (.int (2147483647 : Int32)) := (f5.same W8)
  have f12 : Fld Z h8 a "com/example/role_rights/rolerights/decision/Nearest" "rightDistance" "I" (.int (0 : Int32)) := (f6.other W8 (Or.inr (slot_ne (Or.inl (hw _ (List.mem_of_getElem? (i := 15) rfl))) (Or.inl (hw _ (List.mem_of_getElem? (i := 13) rfl))) (by decide) (t := .int) (t' := .int) (by decide) (by decide))))
  have f13 : Exa Z h8 a "com/example/role_rights/rolerights/decision/Nearest" := (f7.wr W8)
  have N8 := Fr.snoc X8 N2 g_a
  have O8 := O2.wr W8 g_a
  have K8 := K2.wr W8 (Or.inl (List.mem_of_getElem? (i := 0) rfl))
  refine own_go st8 ?_
  show own_Goes _ _ _ _ _ _ _ (T8.setTop (mkF m 16 #[.val (.ref a)] []))
  refine own_go (fun _ ww => XS.aloadN X8.here hx rfl (hb hby d1_16) rfl rfl ww) ?_
  show own_Goes _ _ _ _ _ _ _ (T8.setTop (mkF m 17 #[.val (.ref a)] [(.ref a)]))
  refine own_go (fun _ ww => X8.ldcI hx hown (mvT hZ (hw _ (List.mem_of_getElem? (i := 9) rfl))) rfl (hb hby d1_17) ww) ?_
  show own_Goes _ _ _ _ _ _ _ (T8.setTop (mkF m 19 #[.val (.ref a)] [(.int (2147483647 : Int32)), (.ref a)]))
  obtain ⟨T14, h14, X14, e14, W14, st14⟩ := putF X8 hx hZ hown (host := "") (Or.inl (hw _ (List.mem_of_getElem? (i := 14) rfl))) Via.refl e8 f12 f13 (Or.inl (hw _ (List.mem_of_getElem? (i := 15) rfl))) (hw _ (List.mem_of_getElem? (i := 1) rfl)) (ty := .int) (by decide) rfl rfl (g := (mkF m 19 #[.val (.ref a)] [(.int (2147483647 : Int32)), (.ref a)])) rfl rfl (hb hby d1_19)
  have f15 : Fld Z h14 a "com/example/role_rights/rolerights/decision/Nearest" "effect" "Lcom/example/role_rights/rolerights/policy/Effect;" .null := (f9.other W14 (Or.inr (slot_ne (Or.inl (hw _ (List.mem_of_getElem? (i := 37) rfl))) (Or.inl (hw _ (List.mem_of_getElem? (i := 15) rfl))) (by decide) (t := (.object "com/example/role_rights/rolerights/policy/Effect")) (t' := .int) (by decide) (by decide))))
  have f16 : Fld Z h14 a "com/example/role_rights/rolerights/decision/Nearest" "objectDistance" "I" (.int (2147483647 : Int32)) := (f10.other W14 (Or.inr (slot_ne (Or.inl (hw _ (List.mem_of_getElem? (i := 11) rfl))) (Or.inl (hw _ (List.mem_of_getElem? (i := 15) rfl))) (by decide) (t := .int) (t' := .int) (by decide) (by decide))))
  have f17 : Fld Z h14 a "com/example/role_rights/rolerights/decision/Nearest" "subjectDistance" "I" (.int (2147483647 : Int32)) := (f11.other W14 (Or.inr (slot_ne (Or.inl (hw _ (List.mem_of_getElem? (i := 13) rfl))) (Or.inl (hw _ (List.mem_of_getElem? (i := 15) rfl))) (by decide) (t := .int) (t' := .int) (by decide) (by decide))))
  have f18 : Fld Z h14 a "com/example/role_rights/rolerights/decision/Nearest" "rightDistance" "I" (.int (2147483647 : Int32)) := (f12.same W14)
  have f19 : Exa Z h14 a "com/example/role_rights/rolerights/decision/Nearest" := (f13.wr W14)
  have N14 := Fr.snoc X14 N8 g_a
  have O14 := O8.wr W14 g_a
  have K14 := K8.wr W14 (Or.inl (List.mem_of_getElem? (i := 0) rfl))
  refine own_go st14 ?_
  show own_Goes _ _ _ _ _ _ _ (T14.setTop (mkF m 22 #[.val (.ref a)] []))
  exact own_out X14 hlk (v := none) (fun _ => rfl) (fun fs hr => X14.returnOut hx hret (hb hby d1_22) hr) e14 ⟨rfl, N14, K14, f15, f16, f17, f18⟩ (by decide) (by decide)
theorem d3_0 : decode method_2_code 0 = .ok (.iload_n 0, 1) := by decide +kernel
theorem d3_1 : decode method_2_code 1 = .ok (.iconst 3, 1) := by decide +kernel
theorem d3_2 : decode method_2_code 2 = .ok (.iand, 1) := by decide +kernel
theorem d3_3 : decode method_2_code 3 = .ok (.istore_n 1, 1) := by decide +kernel
theorem d3_4 : decode method_2_code 4 = .ok (.iload_n 1, 1) := by decide +kernel
theorem d3_5 : decode method_2_code 5 = .ok (.ifCond .ne 7, 3) := by decide +kernel
theorem d3_8 : decode method_2_code 8 = .ok (.getstatic 7, 3) := by decide +kernel
theorem d3_11 : decode method_2_code 11 = .ok (.areturn, 1) := by decide +kernel
theorem d3_12 : decode method_2_code 12 = .ok (.iload_n 1, 1) := by decide +kernel
theorem d3_13 : decode method_2_code 13 = .ok (.iconst 1, 1) := by decide +kernel
theorem d3_14 : decode method_2_code 14 = .ok (.if_icmp .ne 7, 3) := by decide +kernel
theorem d3_17 : decode method_2_code 17 = .ok (.getstatic 13, 3) := by decide +kernel
theorem d3_20 : decode method_2_code 20 = .ok (.areturn, 1) := by decide +kernel
theorem d3_21 : decode method_2_code 21 = .ok (.getstatic 16, 3) := by decide +kernel
theorem d3_24 : decode method_2_code 24 = .ok (.areturn, 1) := by decide +kernel
theorem ef_pick (m : MethodId) (x1 : Int32) (aGRANT : Addr) (aDENY : Addr) (aFORBID : Addr) : entryFrame m #[(.int x1)] 2 = mkF m 0 #[.val (.int x1), .unset] [] := by
  first | (simp [entryFrame, mkF, argsToLocals, Value.category]; done) | rfl
def Q_pick (Z : State) (x1 : Int32) (aGRANT : Addr) (aDENY : Addr) (aFORBID : Addr) (h0 : Heap) (n0 : Nat) (v : Option Value) (h : Heap) (L : List Loc) : Prop := ∃ r, v = some (.ref r) ∧ Fr n0 L ∧ h = h0
set_option maxRecDepth 65536 in
set_option maxHeartbeats 40000000 in
theorem rm_pick (l : Launch) (Z : State) (a0 : Array Value) (hw : ∀ d ∈ tables_1, d.before a0 Z = true) (ws : List Jvm.Cond) (x1 : Int32) (aGRANT : Addr) (aDENY : Addr) (aFORBID : Addr) (h0 : Heap) (n0 : Nat) (O0 : Old Z n0 h0) (SGRANT : Sta Z Z.heap "com/example/role_rights/rolerights/policy/Effect" "GRANT" "Lcom/example/role_rights/rolerights/policy/Effect;" (.ref aGRANT)) (SDENY : Sta Z Z.heap "com/example/role_rights/rolerights/policy/Effect" "DENY" "Lcom/example/role_rights/rolerights/policy/Effect;" (.ref aDENY)) (SFORBID : Sta Z Z.heap "com/example/role_rights/rolerights/policy/Effect" "FORBID" "Lcom/example/role_rights/rolerights/policy/Effect;" (.ref aFORBID)) :
    MetFree l (⟨"com/example/role_rights/rolerights/decision/NearestMayCountPinLaw", "pick", "(I)Lcom/example/role_rights/rolerights/policy/Effect;"⟩ : MethodName) (head1 (Jvm.Cond.code (⟨"com/example/role_rights/rolerights/decision/NearestMayCountPinLaw", "pick", "(I)Lcom/example/role_rights/rolerights/policy/Effect;"⟩ : MethodName) method_2_code 2 (some (.object "com/example/role_rights/rolerights/policy/Effect")) :: ws) ({ frames := 0, cells := 0, slots := 0, locals := 0 } : Room)) (fun av_ U => av_ = #[(.int x1)] ∧ Z.Warmed39 U.vm ∧ U.heap = h0) (fun _ _ _ _ _ => True) (fun _ U o_ U' => ∃ v L, o_ = .returned v ∧ Q_pick Z x1 aGRANT aDENY aFORBID h0 n0 v U'.heap L ∧ FrameEnd U o_ U' L ({ frames := 0, cells := 0, slots := 0, locals := 0 } : Room).cells ({ frames := 0, cells := 0, slots := 0, locals := 0 } : Room).slots) := by
  refine MetFree.of_bodySF (plainFor_of_name pn_1) hisR ?_
  intro p e s m args below meth c s₁ Bd hml0 hP hK
  obtain ⟨rfl, hZ, hh⟩ := hP
  have hx := Bd.exec
  have hby := Bd.bytes
  have hml : c.maxLocals = 2 := hml0
  have hown : s.vm.findClass "com/example/role_rights/rolerights/decision/NearestMayCountPinLaw" = some m.cls := findClass_of_methodNamed Bd.named
  have hnm := (name_of_methodNamed Bd.named Bd.method).1
  have hlk := own_lk Bd
  have hret := Bd.returns
  have X0 : Stand p l e ({ frames := 0, cells := 0, slots := 0, locals := 0 } : Room) s m #[(.int x1)] below meth c s₁ [] 0 0 := Stand.of_body Bd
  have e0 : s₁.heap = h0 := by rw [← hh, Bd.state]; rfl
  have N0 := Fr.nil n0
  show own_Goes p e below s (Q_pick Z x1 aGRANT aDENY aFORBID h0 n0) ({ frames := 0, cells := 0, slots := 0, locals := 0 } : Room).cells ({ frames := 0, cells := 0, slots := 0, locals := 0 } : Room).slots (s₁.setTop (entryFrame m #[(.int x1)] 2))
  refine own_go (fun _ ww => castTop (ef_pick m x1 aGRANT aDENY aFORBID) ww) ?_
  show own_Goes _ _ _ _ _ _ _ (s₁.setTop (mkF m 0 #[.val (.int x1), .unset] []))
  refine own_go (fun _ ww => XS.iloadN X0.here hx rfl (hb hby d3_0) rfl  ww) ?_
  show own_Goes _ _ _ _ _ _ _ (s₁.setTop (mkF m 1 #[.val (.int x1), .unset] [(.int x1)]))
  refine own_go (fun _ ww => XS.iconst X0.here hx rfl (hb hby d3_1) ww) ?_
  show own_Goes _ _ _ _ _ _ _ (s₁.setTop (mkF m 2 #[.val (.int x1), .unset] [(.int (3 : Int32)), (.int x1)]))
  refine own_go (fun _ ww => XS.iand X0.here hx rfl (hb hby d3_2) rfl ww) ?_
  show own_Goes _ _ _ _ _ _ _ (s₁.setTop (mkF m 3 #[.val (.int x1), .unset] [(.int (x1 &&& (3 : Int32)))]))
  refine own_go (fun _ ww => XS.istoreN X0.here hx rfl (hb hby d3_3) rfl (l' := #[.val (.int x1), .val (.int (x1 &&& (3 : Int32)))]) rfl ww) ?_
  show own_Goes _ _ _ _ _ _ _ (s₁.setTop (mkF m 4 #[.val (.int x1), .val (.int (x1 &&& (3 : Int32)))] []))
  refine own_go (fun _ ww => XS.iloadN X0.here hx rfl (hb hby d3_4) rfl  ww) ?_
  show own_Goes _ _ _ _ _ _ _ (s₁.setTop (mkF m 5 #[.val (.int x1), .val (.int (x1 &&& (3 : Int32)))] [(.int (x1 &&& (3 : Int32)))]))
  by_cases hc20 : (x1 &&& (3 : Int32)) = (0 : Int32)
  ·
    refine own_go (fun _ ww => XS.ifNo X0.here hx rfl (hb hby d3_5) rfl (own_if .ne (teq hc20).2) ww) ?_
    show own_Goes _ _ _ _ _ _ _ (s₁.setTop (mkF m 8 #[.val (.int x1), .val (.int (x1 &&& (3 : Int32)))] []))
    obtain ⟨T21, X21, e21, st21⟩ := getS X0 hx hZ hown (host := "") (hw _ (List.mem_of_getElem? (i := 20) rfl)) Via.refl e0 (SGRANT.ext O0.2) (g := (mkF m 8 #[.val (.int x1), .val (.int (x1 &&& (3 : Int32)))] [])) rfl (hb hby d3_8)
    refine own_go st21 ?_
    show own_Goes _ _ _ _ _ _ _ (T21.setTop (mkF m 11 #[.val (.int x1), .val (.int (x1 &&& (3 : Int32)))] [(.ref aGRANT)]))
    exact own_out X21 hlk (v := some (.ref aGRANT)) (fun h => by rw [hret] at h; cases h) (fun fs hr => retOut X21 hx (t := (.object "com/example/role_rights/rolerights/policy/Effect")) hret rfl (Or.inr (Or.inr (Or.inr (Or.inr ⟨rfl, rfl, rfl⟩)))) (hb hby d3_11) hr) e21 ⟨_, rfl, N0, rfl⟩ (by decide) (by decide)
  ·
    refine own_go (fun _ ww => XS.ifYes X0.here hx rfl (pc0 := 5) (pc' := 12) rfl (hb hby d3_5) rfl (own_if .ne (feq hc20).2) (by decide) (by decide) ww) ?_
    show own_Goes _ _ _ _ _ _ _ (s₁.setTop (mkF m 12 #[.val (.int x1), .val (.int (x1 &&& (3 : Int32)))] []))
    refine own_go (fun _ ww => XS.iloadN X0.here hx rfl (hb hby d3_12) rfl  ww) ?_
    show own_Goes _ _ _ _ _ _ _ (s₁.setTop (mkF m 13 #[.val (.int x1), .val (.int (x1 &&& (3 : Int32)))] [(.int (x1 &&& (3 : Int32)))]))
    refine own_go (fun _ ww => XS.iconst X0.here hx rfl (hb hby d3_13) ww) ?_
    show own_Goes _ _ _ _ _ _ _ (s₁.setTop (mkF m 14 #[.val (.int x1), .val (.int (x1 &&& (3 : Int32)))] [(.int (1 : Int32)), (.int (x1 &&& (3 : Int32)))]))
    by_cases hc22 : (x1 &&& (3 : Int32)) = (1 : Int32)
    ·
      refine own_go (fun _ ww => XS.icmpNo X0.here hx rfl (hb hby d3_14) rfl (teq hc22).2 ww) ?_
      show own_Goes _ _ _ _ _ _ _ (s₁.setTop (mkF m 17 #[.val (.int x1), .val (.int (x1 &&& (3 : Int32)))] []))
      obtain ⟨T23, X23, e23, st23⟩ := getS X0 hx hZ hown (host := "") (hw _ (List.mem_of_getElem? (i := 49) rfl)) Via.refl e0 (SDENY.ext O0.2) (g := (mkF m 17 #[.val (.int x1), .val (.int (x1 &&& (3 : Int32)))] [])) rfl (hb hby d3_17)
      refine own_go st23 ?_
      show own_Goes _ _ _ _ _ _ _ (T23.setTop (mkF m 20 #[.val (.int x1), .val (.int (x1 &&& (3 : Int32)))] [(.ref aDENY)]))
      exact own_out X23 hlk (v := some (.ref aDENY)) (fun h => by rw [hret] at h; cases h) (fun fs hr => retOut X23 hx (t := (.object "com/example/role_rights/rolerights/policy/Effect")) hret rfl (Or.inr (Or.inr (Or.inr (Or.inr ⟨rfl, rfl, rfl⟩)))) (hb hby d3_20) hr) e23 ⟨_, rfl, N0, rfl⟩ (by decide) (by decide)
    ·
      refine own_go (fun _ ww => XS.icmpYes X0.here hx rfl (pc0 := 14) (pc' := 21) rfl (hb hby d3_14) rfl (feq hc22).2 (by decide) (by decide) ww) ?_
      show own_Goes _ _ _ _ _ _ _ (s₁.setTop (mkF m 21 #[.val (.int x1), .val (.int (x1 &&& (3 : Int32)))] []))
      obtain ⟨T24, X24, e24, st24⟩ := getS X0 hx hZ hown (host := "") (hw _ (List.mem_of_getElem? (i := 47) rfl)) Via.refl e0 (SFORBID.ext O0.2) (g := (mkF m 21 #[.val (.int x1), .val (.int (x1 &&& (3 : Int32)))] [])) rfl (hb hby d3_21)
      refine own_go st24 ?_
      show own_Goes _ _ _ _ _ _ _ (T24.setTop (mkF m 24 #[.val (.int x1), .val (.int (x1 &&& (3 : Int32)))] [(.ref aFORBID)]))
      exact own_out X24 hlk (v := some (.ref aFORBID)) (fun h => by rw [hret] at h; cases h) (fun fs hr => retOut X24 hx (t := (.object "com/example/role_rights/rolerights/policy/Effect")) hret rfl (Or.inr (Or.inr (Or.inr (Or.inr ⟨rfl, rfl, rfl⟩)))) (hb hby d3_24) hr) e24 ⟨_, rfl, N0, rfl⟩ (by decide) (by decide)
theorem d6_0 : decode jdk_33_method_40_code 0 = .ok (.iload_n 0, 1) := by decide +kernel
theorem d6_1 : decode jdk_33_method_40_code 1 = .ok (.iload_n 1, 1) := by decide +kernel
theorem d6_2 : decode jdk_33_method_40_code 2 = .ok (.if_icmp .ge 7, 3) := by decide +kernel
theorem d6_5 : decode jdk_33_method_40_code 5 = .ok (.iconst (-1), 1) := by decide +kernel
theorem d6_6 : decode jdk_33_method_40_code 6 = .ok (.goto 13, 3) := by decide +kernel
theorem d6_19 : decode jdk_33_method_40_code 19 = .ok (.ireturn, 1) := by decide +kernel
theorem d6_9 : decode jdk_33_method_40_code 9 = .ok (.iload_n 0, 1) := by decide +kernel
theorem d6_10 : decode jdk_33_method_40_code 10 = .ok (.iload_n 1, 1) := by decide +kernel
theorem d6_11 : decode jdk_33_method_40_code 11 = .ok (.if_icmp .ne 7, 3) := by decide +kernel
theorem d6_14 : decode jdk_33_method_40_code 14 = .ok (.iconst 0, 1) := by decide +kernel
theorem d6_15 : decode jdk_33_method_40_code 15 = .ok (.goto 4, 3) := by decide +kernel
theorem d6_18 : decode jdk_33_method_40_code 18 = .ok (.iconst 1, 1) := by decide +kernel
theorem ef_icmp (m : MethodId) (x1 : Int32) (x2 : Int32) : entryFrame m #[(.int x1), (.int x2)] 2 = mkF m 0 #[.val (.int x1), .val (.int x2)] [] := by
  first | (simp [entryFrame, mkF, argsToLocals, Value.category]; done) | rfl
def Q_icmp (Z : State) (x1 : Int32) (x2 : Int32) (h0 : Heap) (n0 : Nat) (v : Option Value) (h : Heap) (L : List Loc) : Prop := ∃ r : Int32, v = some (.int r) ∧ Fr n0 L ∧ h = h0 ∧ (x1 < x2 → r < 0) ∧ (x2 < x1 → 0 < r)
set_option maxRecDepth 65536 in
set_option maxHeartbeats 40000000 in
theorem rm_icmp (l : Launch) (Z : State) (a0 : Array Value) (hw : ∀ d ∈ tables_1, d.before a0 Z = true) (ws : List Jvm.Cond) (x1 : Int32) (x2 : Int32) (h0 : Heap) (n0 : Nat) (O0 : Old Z n0 h0) :
    MetFree l (⟨"java/lang/Integer", "compare", "(II)I"⟩ : MethodName) (head1 (Jvm.Cond.code (⟨"java/lang/Integer", "compare", "(II)I"⟩ : MethodName) jdk_33_method_40_code 2 (some .int) :: ws) ({ frames := 0, cells := 0, slots := 0, locals := 0 } : Room)) (fun av_ U => av_ = #[(.int x1), (.int x2)] ∧ Z.Warmed39 U.vm ∧ U.heap = h0) (fun _ _ _ _ _ => True) (fun _ U o_ U' => ∃ v L, o_ = .returned v ∧ Q_icmp Z x1 x2 h0 n0 v U'.heap L ∧ FrameEnd U o_ U' L ({ frames := 0, cells := 0, slots := 0, locals := 0 } : Room).cells ({ frames := 0, cells := 0, slots := 0, locals := 0 } : Room).slots) := by
  refine MetFree.of_bodySF (plainFor_of_name pn_2) hisR ?_
  intro p e s m args below meth c s₁ Bd hml0 hP hK
  obtain ⟨rfl, hZ, hh⟩ := hP
  have hx := Bd.exec
  have hby := Bd.bytes
  have hml : c.maxLocals = 2 := hml0
  have hown : s.vm.findClass "java/lang/Integer" = some m.cls := findClass_of_methodNamed Bd.named
  have hnm := (name_of_methodNamed Bd.named Bd.method).1
  have hlk := own_lk Bd
  have hret := Bd.returns
  have X0 : Stand p l e ({ frames := 0, cells := 0, slots := 0, locals := 0 } : Room) s m #[(.int x1), (.int x2)] below meth c s₁ [] 0 0 := Stand.of_body Bd
  have e0 : s₁.heap = h0 := by rw [← hh, Bd.state]; rfl
  have N0 := Fr.nil n0
  show own_Goes p e below s (Q_icmp Z x1 x2 h0 n0) ({ frames := 0, cells := 0, slots := 0, locals := 0 } : Room).cells ({ frames := 0, cells := 0, slots := 0, locals := 0 } : Room).slots (s₁.setTop (entryFrame m #[(.int x1), (.int x2)] 2))
  refine own_go (fun _ ww => castTop (ef_icmp m x1 x2) ww) ?_
  show own_Goes _ _ _ _ _ _ _ (s₁.setTop (mkF m 0 #[.val (.int x1), .val (.int x2)] []))
  refine own_go (fun _ ww => XS.iloadN X0.here hx rfl (hb hby d6_0) rfl  ww) ?_
  show own_Goes _ _ _ _ _ _ _ (s₁.setTop (mkF m 1 #[.val (.int x1), .val (.int x2)] [(.int x1)]))
  refine own_go (fun _ ww => XS.iloadN X0.here hx rfl (hb hby d6_1) rfl  ww) ?_
  show own_Goes _ _ _ _ _ _ _ (s₁.setTop (mkF m 2 #[.val (.int x1), .val (.int x2)] [(.int x2), (.int x1)]))
  by_cases hc25 : x1 < x2
  ·
    refine own_go (fun _ ww => XS.icmpNo X0.here hx rfl (hb hby d6_2) rfl (tlt hc25).2.1 ww) ?_
    show own_Goes _ _ _ _ _ _ _ (s₁.setTop (mkF m 5 #[.val (.int x1), .val (.int x2)] []))
    refine own_go (fun _ ww => XS.iconst X0.here hx rfl (hb hby d6_5) ww) ?_
    show own_Goes _ _ _ _ _ _ _ (s₁.setTop (mkF m 6 #[.val (.int x1), .val (.int x2)] [(.int (-1 : Int32))]))
    refine own_go (fun _ ww => XS.goto X0.here hx rfl (pc0 := 6) (pc' := 19) rfl (hb hby d6_6) (by decide) (by decide) ww) ?_
    show own_Goes _ _ _ _ _ _ _ (s₁.setTop (mkF m 19 #[.val (.int x1), .val (.int x2)] [(.int (-1 : Int32))]))
    exact own_out X0 hlk (v := some (.int (-1 : Int32))) (fun h => by rw [hret] at h; cases h) (fun fs hr => retOut X0 hx (t := .int) hret rfl (Or.inl ⟨rfl, by simp, _, rfl⟩) (hb hby d6_19) hr) e0 ⟨_, rfl, N0, rfl, fun _ => by decide, fun q => absurd q (own_asym hc25)⟩ (by decide) (by decide)
  ·
    refine own_go (fun _ ww => XS.icmpYes X0.here hx rfl (pc0 := 2) (pc' := 9) rfl (hb hby d6_2) rfl (flt hc25).2.1 (by decide) (by decide) ww) ?_
    show own_Goes _ _ _ _ _ _ _ (s₁.setTop (mkF m 9 #[.val (.int x1), .val (.int x2)] []))
    refine own_go (fun _ ww => XS.iloadN X0.here hx rfl (hb hby d6_9) rfl  ww) ?_
    show own_Goes _ _ _ _ _ _ _ (s₁.setTop (mkF m 10 #[.val (.int x1), .val (.int x2)] [(.int x1)]))
    refine own_go (fun _ ww => XS.iloadN X0.here hx rfl (hb hby d6_10) rfl  ww) ?_
    show own_Goes _ _ _ _ _ _ _ (s₁.setTop (mkF m 11 #[.val (.int x1), .val (.int x2)] [(.int x2), (.int x1)]))
    by_cases hc26 : x1 = x2
    ·
      refine own_go (fun _ ww => XS.icmpNo X0.here hx rfl (hb hby d6_11) rfl (teq hc26).2 ww) ?_
      show own_Goes _ _ _ _ _ _ _ (s₁.setTop (mkF m 14 #[.val (.int x1), .val (.int x2)] []))
      refine own_go (fun _ ww => XS.iconst X0.here hx rfl (hb hby d6_14) ww) ?_
      show own_Goes _ _ _ _ _ _ _ (s₁.setTop (mkF m 15 #[.val (.int x1), .val (.int x2)] [(.int (0 : Int32))]))
      refine own_go (fun _ ww => XS.goto X0.here hx rfl (pc0 := 15) (pc' := 19) rfl (hb hby d6_15) (by decide) (by decide) ww) ?_
      show own_Goes _ _ _ _ _ _ _ (s₁.setTop (mkF m 19 #[.val (.int x1), .val (.int x2)] [(.int (0 : Int32))]))
      exact own_out X0 hlk (v := some (.int (0 : Int32))) (fun h => by rw [hret] at h; cases h) (fun fs hr => retOut X0 hx (t := .int) hret rfl (Or.inl ⟨rfl, by simp, _, rfl⟩) (hb hby d6_19) hr) e0 ⟨_, rfl, N0, rfl, fun q => absurd q hc25, fun q => absurd (hc26 ▸ q) hc25⟩ (by decide) (by decide)
    ·
      refine own_go (fun _ ww => XS.icmpYes X0.here hx rfl (pc0 := 11) (pc' := 18) rfl (hb hby d6_11) rfl (feq hc26).2 (by decide) (by decide) ww) ?_
      show own_Goes _ _ _ _ _ _ _ (s₁.setTop (mkF m 18 #[.val (.int x1), .val (.int x2)] []))
      refine own_go (fun _ ww => XS.iconst X0.here hx rfl (hb hby d6_18) ww) ?_
      show own_Goes _ _ _ _ _ _ _ (s₁.setTop (mkF m 19 #[.val (.int x1), .val (.int x2)] [(.int (1 : Int32))]))
      exact own_out X0 hlk (v := some (.int (1 : Int32))) (fun h => by rw [hret] at h; cases h) (fun fs hr => retOut X0 hx (t := .int) hret rfl (Or.inl ⟨rfl, by simp, _, rfl⟩) (hb hby d6_19) hr) e0 ⟨_, rfl, N0, rfl, fun q => absurd q hc25, fun _ => by decide⟩ (by decide) (by decide)
theorem own_irr (x : Int32) : ¬ x < x := fun h => (own_asym h) h
theorem d5_0 : decode prog_23_method_6_code 0 = .ok (.iload_n 1, 1) := by decide +kernel
theorem d5_1 : decode prog_23_method_6_code 1 = .ok (.aload_n 0, 1) := by decide +kernel
theorem d5_2 : decode prog_23_method_6_code 2 = .ok (.getfield 10, 3) := by decide +kernel
theorem d5_5 : decode prog_23_method_6_code 5 = .ok (.if_icmp .eq 16, 3) := by decide +kernel
theorem d5_21 : decode prog_23_method_6_code 21 = .ok (.iload_n 2, 1) := by decide +kernel
theorem d5_22 : decode prog_23_method_6_code 22 = .ok (.aload_n 0, 1) := by decide +kernel
theorem d5_23 : decode prog_23_method_6_code 23 = .ok (.getfield 16, 3) := by decide +kernel
theorem d5_26 : decode prog_23_method_6_code 26 = .ok (.if_icmp .eq 16, 3) := by decide +kernel
theorem d5_42 : decode prog_23_method_6_code 42 = .ok (.iload_n 3, 1) := by decide +kernel
theorem d5_43 : decode prog_23_method_6_code 43 = .ok (.aload_n 0, 1) := by decide +kernel
theorem d5_44 : decode prog_23_method_6_code 44 = .ok (.getfield 19, 3) := by decide +kernel
theorem d5_47 : decode prog_23_method_6_code 47 = .ok (.invokestatic 34, 3) := by decide +kernel
theorem d5_50 : decode prog_23_method_6_code 50 = .ok (.istore 4, 2) := by decide +kernel
theorem d5_52 : decode prog_23_method_6_code 52 = .ok (.iload 4, 2) := by decide +kernel
theorem d5_54 : decode prog_23_method_6_code 54 = .ok (.ireturn, 1) := by decide +kernel
theorem d5_29 : decode prog_23_method_6_code 29 = .ok (.iload_n 2, 1) := by decide +kernel
theorem d5_30 : decode prog_23_method_6_code 30 = .ok (.aload_n 0, 1) := by decide +kernel
theorem d5_31 : decode prog_23_method_6_code 31 = .ok (.getfield 16, 3) := by decide +kernel
theorem d5_34 : decode prog_23_method_6_code 34 = .ok (.invokestatic 34, 3) := by decide +kernel
theorem d5_37 : decode prog_23_method_6_code 37 = .ok (.istore 4, 2) := by decide +kernel
theorem d5_39 : decode prog_23_method_6_code 39 = .ok (.goto 13, 3) := by decide +kernel
theorem d5_8 : decode prog_23_method_6_code 8 = .ok (.iload_n 1, 1) := by decide +kernel
theorem d5_9 : decode prog_23_method_6_code 9 = .ok (.aload_n 0, 1) := by decide +kernel
theorem d5_10 : decode prog_23_method_6_code 10 = .ok (.getfield 10, 3) := by decide +kernel
theorem d5_13 : decode prog_23_method_6_code 13 = .ok (.invokestatic 34, 3) := by decide +kernel
theorem d5_16 : decode prog_23_method_6_code 16 = .ok (.istore 4, 2) := by decide +kernel
theorem d5_18 : decode prog_23_method_6_code 18 = .ok (.goto 34, 3) := by decide +kernel
theorem ef_compare (m : MethodId) (n : Addr) (x1 : Int32) (x2 : Int32) (x3 : Int32) (o1 : Int32) (o2 : Int32) (o3 : Int32) : entryFrame m #[(.ref n), (.int x1), (.int x2), (.int x3)] 5 = mkF m 0 #[.val (.ref n), .val (.int x1), .val (.int x2), .val (.int x3), .unset] [] := by
  first | (simp [entryFrame, mkF, argsToLocals, Value.category]; done) | rfl
def Q_compare (Z : State) (n : Addr) (x1 : Int32) (x2 : Int32) (x3 : Int32) (o1 : Int32) (o2 : Int32) (o3 : Int32) (h0 : Heap) (n0 : Nat) (v : Option Value) (h : Heap) (L : List Loc) : Prop := ∃ r : Int32, v = some (.int r) ∧ Fr n0 L ∧ h = h0 ∧ (x1 < o1 → r < 0) ∧ (o1 < x1 → 0 < r)
set_option maxRecDepth 65536 in
set_option maxHeartbeats 40000000 in
theorem rm_compare (l : Launch) (Z : State) (a0 : Array Value) (hw : ∀ d ∈ tables_1, d.before a0 Z = true) (ws : List Jvm.Cond) (n : Addr) (x1 : Int32) (x2 : Int32) (x3 : Int32) (o1 : Int32) (o2 : Int32) (o3 : Int32) (h0 : Heap) (n0 : Nat) (O0 : Old Z n0 h0) (F1 : Fld Z h0 n "com/example/role_rights/rolerights/decision/Nearest" "objectDistance" "I" (.int o1)) (F2 : Fld Z h0 n "com/example/role_rights/rolerights/decision/Nearest" "subjectDistance" "I" (.int o2)) (F3 : Fld Z h0 n "com/example/role_rights/rolerights/decision/Nearest" "rightDistance" "I" (.int o3)) :
    MetFree l (⟨"com/example/role_rights/rolerights/decision/Nearest", "compare", "(III)I"⟩ : MethodName) (head1 (Jvm.Cond.code (⟨"com/example/role_rights/rolerights/decision/Nearest", "compare", "(III)I"⟩ : MethodName) prog_23_method_6_code 5 (some .int) :: ws) ({ frames := 1, cells := 0, slots := 0, locals := 13 } : Room)) (fun av_ U => av_ = #[(.ref n), (.int x1), (.int x2), (.int x3)] ∧ Z.Warmed39 U.vm ∧ U.heap = h0) (fun _ _ _ _ _ => True) (fun _ U o_ U' => ∃ v L, o_ = .returned v ∧ Q_compare Z n x1 x2 x3 o1 o2 o3 h0 n0 v U'.heap L ∧ FrameEnd U o_ U' L ({ frames := 1, cells := 0, slots := 0, locals := 13 } : Room).cells ({ frames := 1, cells := 0, slots := 0, locals := 13 } : Room).slots) := by
  refine MetFree.of_bodySF (plainFor_of_name pn_0) hisR ?_
  intro p e s m args below meth c s₁ Bd hml0 hP hK
  obtain ⟨rfl, hZ, hh⟩ := hP
  have hx := Bd.exec
  have hby := Bd.bytes
  have hml : c.maxLocals = 5 := hml0
  have hown : s.vm.findClass "com/example/role_rights/rolerights/decision/Nearest" = some m.cls := findClass_of_methodNamed Bd.named
  have hnm := (name_of_methodNamed Bd.named Bd.method).1
  have hlk := own_lk Bd
  have hret := Bd.returns
  have X0 : Stand p l e ({ frames := 1, cells := 0, slots := 0, locals := 13 } : Room) s m #[(.ref n), (.int x1), (.int x2), (.int x3)] below meth c s₁ [] 0 0 := Stand.of_body Bd
  have e0 : s₁.heap = h0 := by rw [← hh, Bd.state]; rfl
  have N0 := Fr.nil n0
  show own_Goes p e below s (Q_compare Z n x1 x2 x3 o1 o2 o3 h0 n0) ({ frames := 1, cells := 0, slots := 0, locals := 13 } : Room).cells ({ frames := 1, cells := 0, slots := 0, locals := 13 } : Room).slots (s₁.setTop (entryFrame m #[(.ref n), (.int x1), (.int x2), (.int x3)] 5))
  refine own_go (fun _ ww => castTop (ef_compare m n x1 x2 x3 o1 o2 o3) ww) ?_
  show own_Goes _ _ _ _ _ _ _ (s₁.setTop (mkF m 0 #[.val (.ref n), .val (.int x1), .val (.int x2), .val (.int x3), .unset] []))
  refine own_go (fun _ ww => XS.iloadN X0.here hx rfl (hb hby d5_0) rfl  ww) ?_
  show own_Goes _ _ _ _ _ _ _ (s₁.setTop (mkF m 1 #[.val (.ref n), .val (.int x1), .val (.int x2), .val (.int x3), .unset] [(.int x1)]))
  refine own_go (fun _ ww => XS.aloadN X0.here hx rfl (hb hby d5_1) rfl rfl ww) ?_
  show own_Goes _ _ _ _ _ _ _ (s₁.setTop (mkF m 2 #[.val (.ref n), .val (.int x1), .val (.int x2), .val (.int x3), .unset] [(.ref n), (.int x1)]))
  obtain ⟨T27, X27, e27, st27⟩ := getF X0 hx hZ hown (host := "") (Or.inl (hw _ (List.mem_of_getElem? (i := 10) rfl))) Via.refl e0 F1 (g := (mkF m 2 #[.val (.ref n), .val (.int x1), .val (.int x2), .val (.int x3), .unset] [(.ref n), (.int x1)])) rfl rfl (hb hby d5_2)
  refine own_go st27 ?_
  show own_Goes _ _ _ _ _ _ _ (T27.setTop (mkF m 5 #[.val (.ref n), .val (.int x1), .val (.int x2), .val (.int x3), .unset] [(.int o1), (.int x1)]))
  by_cases hc28 : x1 = o1
  ·
    refine own_go (fun _ ww => XS.icmpYes X27.here hx rfl (pc0 := 5) (pc' := 21) rfl (hb hby d5_5) rfl (teq hc28).1 (by decide) (by decide) ww) ?_
    show own_Goes _ _ _ _ _ _ _ (T27.setTop (mkF m 21 #[.val (.ref n), .val (.int x1), .val (.int x2), .val (.int x3), .unset] []))
    refine own_go (fun _ ww => XS.iloadN X27.here hx rfl (hb hby d5_21) rfl  ww) ?_
    show own_Goes _ _ _ _ _ _ _ (T27.setTop (mkF m 22 #[.val (.ref n), .val (.int x1), .val (.int x2), .val (.int x3), .unset] [(.int x2)]))
    refine own_go (fun _ ww => XS.aloadN X27.here hx rfl (hb hby d5_22) rfl rfl ww) ?_
    show own_Goes _ _ _ _ _ _ _ (T27.setTop (mkF m 23 #[.val (.ref n), .val (.int x1), .val (.int x2), .val (.int x3), .unset] [(.ref n), (.int x2)]))
    obtain ⟨T29, X29, e29, st29⟩ := getF X27 hx hZ hown (host := "") (Or.inl (hw _ (List.mem_of_getElem? (i := 12) rfl))) Via.refl e27 F2 (g := (mkF m 23 #[.val (.ref n), .val (.int x1), .val (.int x2), .val (.int x3), .unset] [(.ref n), (.int x2)])) rfl rfl (hb hby d5_23)
    refine own_go st29 ?_
    show own_Goes _ _ _ _ _ _ _ (T29.setTop (mkF m 26 #[.val (.ref n), .val (.int x1), .val (.int x2), .val (.int x3), .unset] [(.int o2), (.int x2)]))
    by_cases hc30 : x2 = o2
    ·
      refine own_go (fun _ ww => XS.icmpYes X29.here hx rfl (pc0 := 26) (pc' := 42) rfl (hb hby d5_26) rfl (teq hc30).1 (by decide) (by decide) ww) ?_
      show own_Goes _ _ _ _ _ _ _ (T29.setTop (mkF m 42 #[.val (.ref n), .val (.int x1), .val (.int x2), .val (.int x3), .unset] []))
      refine own_go (fun _ ww => XS.iloadN X29.here hx rfl (hb hby d5_42) rfl  ww) ?_
      show own_Goes _ _ _ _ _ _ _ (T29.setTop (mkF m 43 #[.val (.ref n), .val (.int x1), .val (.int x2), .val (.int x3), .unset] [(.int x3)]))
      refine own_go (fun _ ww => XS.aloadN X29.here hx rfl (hb hby d5_43) rfl rfl ww) ?_
      show own_Goes _ _ _ _ _ _ _ (T29.setTop (mkF m 44 #[.val (.ref n), .val (.int x1), .val (.int x2), .val (.int x3), .unset] [(.ref n), (.int x3)]))
      obtain ⟨T31, X31, e31, st31⟩ := getF X29 hx hZ hown (host := "") (Or.inl (hw _ (List.mem_of_getElem? (i := 14) rfl))) Via.refl e29 F3 (g := (mkF m 44 #[.val (.ref n), .val (.int x1), .val (.int x2), .val (.int x3), .unset] [(.ref n), (.int x3)])) rfl rfl (hb hby d5_44)
      refine own_go st31 ?_
      show own_Goes _ _ _ _ _ _ _ (T31.setTop (mkF m 47 #[.val (.ref n), .val (.int x1), .val (.int x2), .val (.int x3), .unset] [(.int o3), (.int x3)]))
      obtain ⟨_, _, ⟨T32, L32, k32, n32⟩, -, X32, ⟨Lc32, hQ32, l32, y32, z32⟩, st32⟩ := Jvm.LawKit.callS X31 hx (y := (⟨"java/lang/Integer", "compare", "(II)I"⟩ : MethodName)) hown (mvT hZ (hw _ (List.mem_of_getElem? (i := 32) rfl))) (mvT hZ (hw _ (List.mem_of_getElem? (i := 33) rfl))) (mvT hZ (hw _ (List.mem_of_getElem? (i := 34) rfl))) (mvT hZ (hw _ (List.mem_of_getElem? (i := 35) rfl))) (by decide) (backOf (W := 0) (rm_icmp l Z a0 hw [] x3 o3 h0 n0 O0 ) hZ (hw _ (List.mem_of_getElem? (i := 35) rfl)) (hw _ (List.mem_of_getElem? (i := 34) rfl)) (by decide) (by decide)) (g := (mkF m 47 #[.val (.ref n), .val (.int x1), .val (.int x2), .val (.int x3), .unset] [(.int o3), (.int x3)])) rfl (by rw [hml]; rfl) (argsL := [(.int x3), (.int o3)]) (rest := []) (lenOf pd_0 rfl) rfl (by show 2 * 0 + _ ≤ _; exact Nat.le_of_eq rfl) (hb hby d5_47) (fun _ _ => ⟨rfl, e31, (by decide : 0 + 0 ≤ _), (by decide : 0 + 0 ≤ _)⟩)
      dsimp only [Pt.U, Pt.locs, Pt.cells, Pt.slots] at X32 l32 y32 z32 st32 hQ32
      subst l32 y32 z32
      obtain ⟨r32, rfl, N32q, e32, u32, w32⟩ := hQ32
      have N32 := Fr.app N0 N32q
      refine own_go st32 ?_
      show own_Goes _ _ _ _ _ _ _ (T32.setTop (mkF m 50 #[.val (.ref n), .val (.int x1), .val (.int x2), .val (.int x3), .unset] [(.int r32)]))
      refine own_go (fun _ ww => XS.istore X32.here hx rfl (hb hby d5_50) rfl (l' := #[.val (.ref n), .val (.int x1), .val (.int x2), .val (.int x3), .val (.int r32)]) rfl ww) ?_
      show own_Goes _ _ _ _ _ _ _ (T32.setTop (mkF m 52 #[.val (.ref n), .val (.int x1), .val (.int x2), .val (.int x3), .val (.int r32)] []))
      refine own_go (fun _ ww => XS.iload X32.here hx rfl (hb hby d5_52) rfl  ww) ?_
      show own_Goes _ _ _ _ _ _ _ (T32.setTop (mkF m 54 #[.val (.ref n), .val (.int x1), .val (.int x2), .val (.int x3), .val (.int r32)] [(.int r32)]))
      exact own_out X32 hlk (v := some (.int r32)) (fun h => by rw [hret] at h; cases h) (fun fs hr => retOut X32 hx (t := .int) hret rfl (Or.inl ⟨rfl, by simp, _, rfl⟩) (hb hby d5_54) hr) e32 ⟨_, rfl, N32, rfl, fun q => absurd (hc28 ▸ q) (own_irr _), fun q => absurd (hc28 ▸ q) (own_irr _)⟩ (by decide) (by decide)
    ·
      refine own_go (fun _ ww => XS.icmpNo X29.here hx rfl (hb hby d5_26) rfl (feq hc30).1 ww) ?_
      show own_Goes _ _ _ _ _ _ _ (T29.setTop (mkF m 29 #[.val (.ref n), .val (.int x1), .val (.int x2), .val (.int x3), .unset] []))
      refine own_go (fun _ ww => XS.iloadN X29.here hx rfl (hb hby d5_29) rfl  ww) ?_
      show own_Goes _ _ _ _ _ _ _ (T29.setTop (mkF m 30 #[.val (.ref n), .val (.int x1), .val (.int x2), .val (.int x3), .unset] [(.int x2)]))
      refine own_go (fun _ ww => XS.aloadN X29.here hx rfl (hb hby d5_30) rfl rfl ww) ?_
      show own_Goes _ _ _ _ _ _ _ (T29.setTop (mkF m 31 #[.val (.ref n), .val (.int x1), .val (.int x2), .val (.int x3), .unset] [(.ref n), (.int x2)]))
      obtain ⟨T33, X33, e33, st33⟩ := getF X29 hx hZ hown (host := "") (Or.inl (hw _ (List.mem_of_getElem? (i := 12) rfl))) Via.refl e29 F2 (g := (mkF m 31 #[.val (.ref n), .val (.int x1), .val (.int x2), .val (.int x3), .unset] [(.ref n), (.int x2)])) rfl rfl (hb hby d5_31)
      refine own_go st33 ?_
      show own_Goes _ _ _ _ _ _ _ (T33.setTop (mkF m 34 #[.val (.ref n), .val (.int x1), .val (.int x2), .val (.int x3), .unset] [(.int o2), (.int x2)]))
      obtain ⟨_, _, ⟨T34, L34, k34, n34⟩, -, X34, ⟨Lc34, hQ34, l34, y34, z34⟩, st34⟩ := Jvm.LawKit.callS X33 hx (y := (⟨"java/lang/Integer", "compare", "(II)I"⟩ : MethodName)) hown (mvT hZ (hw _ (List.mem_of_getElem? (i := 32) rfl))) (mvT hZ (hw _ (List.mem_of_getElem? (i := 33) rfl))) (mvT hZ (hw _ (List.mem_of_getElem? (i := 34) rfl))) (mvT hZ (hw _ (List.mem_of_getElem? (i := 35) rfl))) (by decide) (backOf (W := 0) (rm_icmp l Z a0 hw [] x2 o2 h0 n0 O0 ) hZ (hw _ (List.mem_of_getElem? (i := 35) rfl)) (hw _ (List.mem_of_getElem? (i := 34) rfl)) (by decide) (by decide)) (g := (mkF m 34 #[.val (.ref n), .val (.int x1), .val (.int x2), .val (.int x3), .unset] [(.int o2), (.int x2)])) rfl (by rw [hml]; rfl) (argsL := [(.int x2), (.int o2)]) (rest := []) (lenOf pd_0 rfl) rfl (by show 2 * 0 + _ ≤ _; exact Nat.le_of_eq rfl) (hb hby d5_34) (fun _ _ => ⟨rfl, e33, (by decide : 0 + 0 ≤ _), (by decide : 0 + 0 ≤ _)⟩)
      dsimp only [Pt.U, Pt.locs, Pt.cells, Pt.slots] at X34 l34 y34 z34 st34 hQ34
      subst l34 y34 z34
      obtain ⟨r34, rfl, N34q, e34, u34, w34⟩ := hQ34
      have N34 := Fr.app N0 N34q
      refine own_go st34 ?_
      show own_Goes _ _ _ _ _ _ _ (T34.setTop (mkF m 37 #[.val (.ref n), .val (.int x1), .val (.int x2), .val (.int x3), .unset] [(.int r34)]))
      refine own_go (fun _ ww => XS.istore X34.here hx rfl (hb hby d5_37) rfl (l' := #[.val (.ref n), .val (.int x1), .val (.int x2), .val (.int x3), .val (.int r34)]) rfl ww) ?_
      show own_Goes _ _ _ _ _ _ _ (T34.setTop (mkF m 39 #[.val (.ref n), .val (.int x1), .val (.int x2), .val (.int x3), .val (.int r34)] []))
      refine own_go (fun _ ww => XS.goto X34.here hx rfl (pc0 := 39) (pc' := 52) rfl (hb hby d5_39) (by decide) (by decide) ww) ?_
      show own_Goes _ _ _ _ _ _ _ (T34.setTop (mkF m 52 #[.val (.ref n), .val (.int x1), .val (.int x2), .val (.int x3), .val (.int r34)] []))
      refine own_go (fun _ ww => XS.iload X34.here hx rfl (hb hby d5_52) rfl  ww) ?_
      show own_Goes _ _ _ _ _ _ _ (T34.setTop (mkF m 54 #[.val (.ref n), .val (.int x1), .val (.int x2), .val (.int x3), .val (.int r34)] [(.int r34)]))
      exact own_out X34 hlk (v := some (.int r34)) (fun h => by rw [hret] at h; cases h) (fun fs hr => retOut X34 hx (t := .int) hret rfl (Or.inl ⟨rfl, by simp, _, rfl⟩) (hb hby d5_54) hr) e34 ⟨_, rfl, N34, rfl, fun q => absurd (hc28 ▸ q) (own_irr _), fun q => absurd (hc28 ▸ q) (own_irr _)⟩ (by decide) (by decide)
  ·
    refine own_go (fun _ ww => XS.icmpNo X27.here hx rfl (hb hby d5_5) rfl (feq hc28).1 ww) ?_
    show own_Goes _ _ _ _ _ _ _ (T27.setTop (mkF m 8 #[.val (.ref n), .val (.int x1), .val (.int x2), .val (.int x3), .unset] []))
    refine own_go (fun _ ww => XS.iloadN X27.here hx rfl (hb hby d5_8) rfl  ww) ?_
    show own_Goes _ _ _ _ _ _ _ (T27.setTop (mkF m 9 #[.val (.ref n), .val (.int x1), .val (.int x2), .val (.int x3), .unset] [(.int x1)]))
    refine own_go (fun _ ww => XS.aloadN X27.here hx rfl (hb hby d5_9) rfl rfl ww) ?_
    show own_Goes _ _ _ _ _ _ _ (T27.setTop (mkF m 10 #[.val (.ref n), .val (.int x1), .val (.int x2), .val (.int x3), .unset] [(.ref n), (.int x1)]))
    obtain ⟨T35, X35, e35, st35⟩ := getF X27 hx hZ hown (host := "") (Or.inl (hw _ (List.mem_of_getElem? (i := 10) rfl))) Via.refl e27 F1 (g := (mkF m 10 #[.val (.ref n), .val (.int x1), .val (.int x2), .val (.int x3), .unset] [(.ref n), (.int x1)])) rfl rfl (hb hby d5_10)
    refine own_go st35 ?_
    show own_Goes _ _ _ _ _ _ _ (T35.setTop (mkF m 13 #[.val (.ref n), .val (.int x1), .val (.int x2), .val (.int x3), .unset] [(.int o1), (.int x1)]))
    obtain ⟨_, _, ⟨T36, L36, k36, n36⟩, -, X36, ⟨Lc36, hQ36, l36, y36, z36⟩, st36⟩ := Jvm.LawKit.callS X35 hx (y := (⟨"java/lang/Integer", "compare", "(II)I"⟩ : MethodName)) hown (mvT hZ (hw _ (List.mem_of_getElem? (i := 32) rfl))) (mvT hZ (hw _ (List.mem_of_getElem? (i := 33) rfl))) (mvT hZ (hw _ (List.mem_of_getElem? (i := 34) rfl))) (mvT hZ (hw _ (List.mem_of_getElem? (i := 35) rfl))) (by decide) (backOf (W := 0) (rm_icmp l Z a0 hw [] x1 o1 h0 n0 O0 ) hZ (hw _ (List.mem_of_getElem? (i := 35) rfl)) (hw _ (List.mem_of_getElem? (i := 34) rfl)) (by decide) (by decide)) (g := (mkF m 13 #[.val (.ref n), .val (.int x1), .val (.int x2), .val (.int x3), .unset] [(.int o1), (.int x1)])) rfl (by rw [hml]; rfl) (argsL := [(.int x1), (.int o1)]) (rest := []) (lenOf pd_0 rfl) rfl (by show 2 * 0 + _ ≤ _; exact Nat.le_of_eq rfl) (hb hby d5_13) (fun _ _ => ⟨rfl, e35, (by decide : 0 + 0 ≤ _), (by decide : 0 + 0 ≤ _)⟩)
    dsimp only [Pt.U, Pt.locs, Pt.cells, Pt.slots] at X36 l36 y36 z36 st36 hQ36
    subst l36 y36 z36
    obtain ⟨r36, rfl, N36q, e36, u36, w36⟩ := hQ36
    have N36 := Fr.app N0 N36q
    refine own_go st36 ?_
    show own_Goes _ _ _ _ _ _ _ (T36.setTop (mkF m 16 #[.val (.ref n), .val (.int x1), .val (.int x2), .val (.int x3), .unset] [(.int r36)]))
    refine own_go (fun _ ww => XS.istore X36.here hx rfl (hb hby d5_16) rfl (l' := #[.val (.ref n), .val (.int x1), .val (.int x2), .val (.int x3), .val (.int r36)]) rfl ww) ?_
    show own_Goes _ _ _ _ _ _ _ (T36.setTop (mkF m 18 #[.val (.ref n), .val (.int x1), .val (.int x2), .val (.int x3), .val (.int r36)] []))
    refine own_go (fun _ ww => XS.goto X36.here hx rfl (pc0 := 18) (pc' := 52) rfl (hb hby d5_18) (by decide) (by decide) ww) ?_
    show own_Goes _ _ _ _ _ _ _ (T36.setTop (mkF m 52 #[.val (.ref n), .val (.int x1), .val (.int x2), .val (.int x3), .val (.int r36)] []))
    refine own_go (fun _ ww => XS.iload X36.here hx rfl (hb hby d5_52) rfl  ww) ?_
    show own_Goes _ _ _ _ _ _ _ (T36.setTop (mkF m 54 #[.val (.ref n), .val (.int x1), .val (.int x2), .val (.int x3), .val (.int r36)] [(.int r36)]))
    exact own_out X36 hlk (v := some (.int r36)) (fun h => by rw [hret] at h; cases h) (fun fs hr => retOut X36 hx (t := .int) hret rfl (Or.inl ⟨rfl, by simp, _, rfl⟩) (hb hby d5_54) hr) e36 ⟨_, rfl, N36, rfl, u36, w36⟩ (by decide) (by decide)
theorem d9_0 : decode prog_23_method_7_code 0 = .ok (.aload_n 0, 1) := by decide +kernel
theorem d9_1 : decode prog_23_method_7_code 1 = .ok (.getstatic 37, 3) := by decide +kernel
theorem d9_4 : decode prog_23_method_7_code 4 = .ok (.if_acmp .ne 9, 3) := by decide +kernel
theorem d9_7 : decode prog_23_method_7_code 7 = .ok (.getstatic 37, 3) := by decide +kernel
theorem d9_10 : decode prog_23_method_7_code 10 = .ok (.goto 4, 3) := by decide +kernel
theorem d9_14 : decode prog_23_method_7_code 14 = .ok (.areturn, 1) := by decide +kernel
theorem d9_13 : decode prog_23_method_7_code 13 = .ok (.aload_n 1, 1) := by decide +kernel
theorem ef_tie (m : MethodId) (eo : Value) (ev : Addr) (aDENY : Addr) (heo : (eo : Value).isRef = true) : entryFrame m #[eo, (.ref ev)] 2 = mkF m 0 #[.val eo, .val (.ref ev)] [] := by
  rcases ref_cases heo with rfl | ⟨_, rfl⟩ <;> first | (simp [entryFrame, mkF, argsToLocals, Value.category]; done) | rfl
def Q_tie (Z : State) (eo : Value) (ev : Addr) (aDENY : Addr) (h0 : Heap) (n0 : Nat) (v : Option Value) (h : Heap) (L : List Loc) : Prop := ∃ w, v = some w ∧ Fr n0 L ∧ h = h0 ∧ w.isRef = true
set_option maxRecDepth 65536 in
set_option maxHeartbeats 40000000 in
theorem rm_tie (l : Launch) (Z : State) (a0 : Array Value) (hw : ∀ d ∈ tables_1, d.before a0 Z = true) (ws : List Jvm.Cond) (eo : Value) (ev : Addr) (aDENY : Addr) (h0 : Heap) (n0 : Nat) (O0 : Old Z n0 h0) (heo : eo.isRef = true) (SDENY : Sta Z Z.heap "com/example/role_rights/rolerights/policy/Effect" "DENY" "Lcom/example/role_rights/rolerights/policy/Effect;" (.ref aDENY)) :
    MetFree l (⟨"com/example/role_rights/rolerights/decision/Nearest", "tie", "(Lcom/example/role_rights/rolerights/policy/Effect;Lcom/example/role_rights/rolerights/policy/Effect;)Lcom/example/role_rights/rolerights/policy/Effect;"⟩ : MethodName) (head1 (Jvm.Cond.code (⟨"com/example/role_rights/rolerights/decision/Nearest", "tie", "(Lcom/example/role_rights/rolerights/policy/Effect;Lcom/example/role_rights/rolerights/policy/Effect;)Lcom/example/role_rights/rolerights/policy/Effect;"⟩ : MethodName) prog_23_method_7_code 2 (some (.object "com/example/role_rights/rolerights/policy/Effect")) :: ws) ({ frames := 0, cells := 0, slots := 0, locals := 0 } : Room)) (fun av_ U => av_ = #[eo, (.ref ev)] ∧ Z.Warmed39 U.vm ∧ U.heap = h0) (fun _ _ _ _ _ => True) (fun _ U o_ U' => ∃ v L, o_ = .returned v ∧ Q_tie Z eo ev aDENY h0 n0 v U'.heap L ∧ FrameEnd U o_ U' L ({ frames := 0, cells := 0, slots := 0, locals := 0 } : Room).cells ({ frames := 0, cells := 0, slots := 0, locals := 0 } : Room).slots) := by
  refine MetFree.of_bodySF (plainFor_of_name pn_0) hisR ?_
  intro p e s m args below meth c s₁ Bd hml0 hP hK
  obtain ⟨rfl, hZ, hh⟩ := hP
  have hx := Bd.exec
  have hby := Bd.bytes
  have hml : c.maxLocals = 2 := hml0
  have hown : s.vm.findClass "com/example/role_rights/rolerights/decision/Nearest" = some m.cls := findClass_of_methodNamed Bd.named
  have hnm := (name_of_methodNamed Bd.named Bd.method).1
  have hlk := own_lk Bd
  have hret := Bd.returns
  have X0 : Stand p l e ({ frames := 0, cells := 0, slots := 0, locals := 0 } : Room) s m #[eo, (.ref ev)] below meth c s₁ [] 0 0 := Stand.of_body Bd
  have e0 : s₁.heap = h0 := by rw [← hh, Bd.state]; rfl
  have N0 := Fr.nil n0
  show own_Goes p e below s (Q_tie Z eo ev aDENY h0 n0) ({ frames := 0, cells := 0, slots := 0, locals := 0 } : Room).cells ({ frames := 0, cells := 0, slots := 0, locals := 0 } : Room).slots (s₁.setTop (entryFrame m #[eo, (.ref ev)] 2))
  refine own_go (fun _ ww => castTop (ef_tie m eo ev aDENY heo) ww) ?_
  show own_Goes _ _ _ _ _ _ _ (s₁.setTop (mkF m 0 #[.val eo, .val (.ref ev)] []))
  refine own_go (fun _ ww => XS.aloadN X0.here hx rfl (hb hby d9_0) rfl heo ww) ?_
  show own_Goes _ _ _ _ _ _ _ (s₁.setTop (mkF m 1 #[.val eo, .val (.ref ev)] [eo]))
  obtain ⟨T37, X37, e37, st37⟩ := getS X0 hx hZ hown (host := "") (hw _ (List.mem_of_getElem? (i := 54) rfl)) Via.refl e0 (SDENY.ext O0.2) (g := (mkF m 1 #[.val eo, .val (.ref ev)] [eo])) rfl (hb hby d9_1)
  refine own_go st37 ?_
  show own_Goes _ _ _ _ _ _ _ (T37.setTop (mkF m 4 #[.val eo, .val (.ref ev)] [(.ref aDENY), eo]))
  by_cases hc38 : (eo : Value) = (.ref aDENY)
  ·
    refine own_go (fun _ ww => XT.acmpNo X37.here hx rfl (hb hby d9_4) rfl heo rfl (XT.aa_ne_f hc38) ww) ?_
    show own_Goes _ _ _ _ _ _ _ (T37.setTop (mkF m 7 #[.val eo, .val (.ref ev)] []))
    obtain ⟨T39, X39, e39, st39⟩ := getS X37 hx hZ hown (host := "") (hw _ (List.mem_of_getElem? (i := 54) rfl)) Via.refl e37 (SDENY.ext O0.2) (g := (mkF m 7 #[.val eo, .val (.ref ev)] [])) rfl (hb hby d9_7)
    refine own_go st39 ?_
    show own_Goes _ _ _ _ _ _ _ (T39.setTop (mkF m 10 #[.val eo, .val (.ref ev)] [(.ref aDENY)]))
    refine own_go (fun _ ww => XS.goto X39.here hx rfl (pc0 := 10) (pc' := 14) rfl (hb hby d9_10) (by decide) (by decide) ww) ?_
    show own_Goes _ _ _ _ _ _ _ (T39.setTop (mkF m 14 #[.val eo, .val (.ref ev)] [(.ref aDENY)]))
    exact own_out X39 hlk (v := some (.ref aDENY)) (fun h => by rw [hret] at h; cases h) (fun fs hr => retOut X39 hx (t := (.object "com/example/role_rights/rolerights/policy/Effect")) hret rfl (Or.inr (Or.inr (Or.inr (Or.inr ⟨rfl, rfl, rfl⟩)))) (hb hby d9_14) hr) e39 ⟨_, rfl, N0, rfl, rfl⟩ (by decide) (by decide)
  ·
    refine own_go (fun _ ww => XT.acmpYes X37.here hx rfl (pc0 := 4) (pc' := 13) rfl (hb hby d9_4) rfl heo rfl (XT.aa_ne_t hc38) (by decide) (by decide) ww) ?_
    show own_Goes _ _ _ _ _ _ _ (T37.setTop (mkF m 13 #[.val eo, .val (.ref ev)] []))
    refine own_go (fun _ ww => XS.aloadN X37.here hx rfl (hb hby d9_13) rfl rfl ww) ?_
    show own_Goes _ _ _ _ _ _ _ (T37.setTop (mkF m 14 #[.val eo, .val (.ref ev)] [(.ref ev)]))
    exact own_out X37 hlk (v := some (.ref ev)) (fun h => by rw [hret] at h; cases h) (fun fs hr => retOut X37 hx (t := (.object "com/example/role_rights/rolerights/policy/Effect")) hret rfl (Or.inr (Or.inr (Or.inr (Or.inr ⟨rfl, rfl, rfl⟩)))) (hb hby d9_14) hr) e37 ⟨_, rfl, N0, rfl, rfl⟩ (by decide) (by decide)
theorem d4_0 : decode prog_23_method_2_code 0 = .ok (.aload_n 0, 1) := by decide +kernel
theorem d4_1 : decode prog_23_method_2_code 1 = .ok (.iload_n 1, 1) := by decide +kernel
theorem d4_2 : decode prog_23_method_2_code 2 = .ok (.iload_n 2, 1) := by decide +kernel
theorem d4_3 : decode prog_23_method_2_code 3 = .ok (.iload_n 3, 1) := by decide +kernel
theorem d4_4 : decode prog_23_method_2_code 4 = .ok (.invokevirtual 22, 3) := by decide +kernel
theorem d4_7 : decode prog_23_method_2_code 7 = .ok (.istore 5, 2) := by decide +kernel
theorem d4_9 : decode prog_23_method_2_code 9 = .ok (.iload 5, 2) := by decide +kernel
theorem d4_11 : decode prog_23_method_2_code 11 = .ok (.ifCond .gt 41, 3) := by decide +kernel
theorem d4_52 : decode prog_23_method_2_code 52 = .ok (.return_, 1) := by decide +kernel
theorem d4_14 : decode prog_23_method_2_code 14 = .ok (.aload_n 0, 1) := by decide +kernel
theorem d4_15 : decode prog_23_method_2_code 15 = .ok (.iload 5, 2) := by decide +kernel
theorem d4_17 : decode prog_23_method_2_code 17 = .ok (.ifCond .ge 8, 3) := by decide +kernel
theorem d4_20 : decode prog_23_method_2_code 20 = .ok (.aload 4, 2) := by decide +kernel
theorem d4_22 : decode prog_23_method_2_code 22 = .ok (.goto 12, 3) := by decide +kernel
theorem d4_34 : decode prog_23_method_2_code 34 = .ok (.putfield 26, 3) := by decide +kernel
theorem d4_37 : decode prog_23_method_2_code 37 = .ok (.aload_n 0, 1) := by decide +kernel
theorem d4_38 : decode prog_23_method_2_code 38 = .ok (.iload_n 1, 1) := by decide +kernel
theorem d4_39 : decode prog_23_method_2_code 39 = .ok (.putfield 10, 3) := by decide +kernel
theorem d4_42 : decode prog_23_method_2_code 42 = .ok (.aload_n 0, 1) := by decide +kernel
theorem d4_43 : decode prog_23_method_2_code 43 = .ok (.iload_n 2, 1) := by decide +kernel
theorem d4_44 : decode prog_23_method_2_code 44 = .ok (.putfield 16, 3) := by decide +kernel
theorem d4_47 : decode prog_23_method_2_code 47 = .ok (.aload_n 0, 1) := by decide +kernel
theorem d4_48 : decode prog_23_method_2_code 48 = .ok (.iload_n 3, 1) := by decide +kernel
theorem d4_49 : decode prog_23_method_2_code 49 = .ok (.putfield 19, 3) := by decide +kernel
theorem d4_25 : decode prog_23_method_2_code 25 = .ok (.aload_n 0, 1) := by decide +kernel
theorem d4_26 : decode prog_23_method_2_code 26 = .ok (.getfield 26, 3) := by decide +kernel
theorem d4_29 : decode prog_23_method_2_code 29 = .ok (.aload 4, 2) := by decide +kernel
theorem d4_31 : decode prog_23_method_2_code 31 = .ok (.invokestatic 30, 3) := by decide +kernel
theorem ef_add (m : MethodId) (n : Addr) (x1 : Int32) (x2 : Int32) (x3 : Int32) (ev : Addr) (o1 : Int32) (o2 : Int32) (o3 : Int32) (eo : Value) (aDENY : Addr) (r : Int32) : entryFrame m #[(.ref n), (.int x1), (.int x2), (.int x3), (.ref ev)] 6 = mkF m 0 #[.val (.ref n), .val (.int x1), .val (.int x2), .val (.int x3), .val (.ref ev), .unset] [] := by
  first | (simp [entryFrame, mkF, argsToLocals, Value.category]; done) | rfl
def Q_add (Z : State) (n : Addr) (x1 : Int32) (x2 : Int32) (x3 : Int32) (ev : Addr) (o1 : Int32) (o2 : Int32) (o3 : Int32) (eo : Value) (aDENY : Addr) (r : Int32) (h0 : Heap) (n0 : Nat) (v : Option Value) (h : Heap) (L : List Loc) : Prop := ∃ (s2 s3 : Int32) (e2 : Value), v = none ∧ Fr n0 L ∧ e2.isRef = true ∧ Keep h0 h [n] ∧ Fld Z h n "com/example/role_rights/rolerights/decision/Nearest" "effect" "Lcom/example/role_rights/rolerights/policy/Effect;" e2 ∧ Fld Z h n "com/example/role_rights/rolerights/decision/Nearest" "objectDistance" "I" (.int r) ∧ Fld Z h n "com/example/role_rights/rolerights/decision/Nearest" "subjectDistance" "I" (.int s2) ∧ Fld Z h n "com/example/role_rights/rolerights/decision/Nearest" "rightDistance" "I" (.int s3)
set_option maxRecDepth 65536 in
set_option maxHeartbeats 40000000 in
theorem rm_add (l : Launch) (Z : State) (a0 : Array Value) (hw : ∀ d ∈ tables_1, d.before a0 Z = true) (ws : List Jvm.Cond) (n : Addr) (x1 : Int32) (x2 : Int32) (x3 : Int32) (ev : Addr) (o1 : Int32) (o2 : Int32) (o3 : Int32) (eo : Value) (aDENY : Addr) (r : Int32) (h0 : Heap) (n0 : Nat) (O0 : Old Z n0 h0) (F0 : Fld Z h0 n "com/example/role_rights/rolerights/decision/Nearest" "effect" "Lcom/example/role_rights/rolerights/policy/Effect;" eo) (F1 : Fld Z h0 n "com/example/role_rights/rolerights/decision/Nearest" "objectDistance" "I" (.int o1)) (F2 : Fld Z h0 n "com/example/role_rights/rolerights/decision/Nearest" "subjectDistance" "I" (.int o2)) (F3 : Fld Z h0 n "com/example/role_rights/rolerights/decision/Nearest" "rightDistance" "I" (.int o3)) (En : Exa Z h0 n "com/example/role_rights/rolerights/decision/Nearest") (g_n : n0 ≤ n) (heo : eo.isRef = true) (SDENY : Sta Z Z.heap "com/example/role_rights/rolerights/policy/Effect" "DENY" "Lcom/example/role_rights/rolerights/policy/Effect;" (.ref aDENY)) (hrA : ¬ (o1 < x1) → r = x1) (hrB : ¬ (x1 < o1) → r = o1) :
    MetFree l (⟨"com/example/role_rights/rolerights/decision/Nearest", "add", "(IIILcom/example/role_rights/rolerights/policy/Effect;)V"⟩ : MethodName) (head1 (Jvm.Cond.code (⟨"com/example/role_rights/rolerights/decision/Nearest", "add", "(IIILcom/example/role_rights/rolerights/policy/Effect;)V"⟩ : MethodName) prog_23_method_2_code 6 none :: ws) ({ frames := 2, cells := 0, slots := 0, locals := 29 } : Room)) (fun av_ U => av_ = #[(.ref n), (.int x1), (.int x2), (.int x3), (.ref ev)] ∧ Z.Warmed39 U.vm ∧ U.heap = h0) (fun _ _ _ _ _ => True) (fun _ U o_ U' => ∃ v L, o_ = .returned v ∧ Q_add Z n x1 x2 x3 ev o1 o2 o3 eo aDENY r h0 n0 v U'.heap L ∧ FrameEnd U o_ U' L ({ frames := 2, cells := 0, slots := 0, locals := 29 } : Room).cells ({ frames := 2, cells := 0, slots := 0, locals := 29 } : Room).slots) := by
  refine MetFree.of_bodySF (plainFor_of_name pn_0) hisR ?_
  intro p e s m args below meth c s₁ Bd hml0 hP hK
  obtain ⟨rfl, hZ, hh⟩ := hP
  have hx := Bd.exec
  have hby := Bd.bytes
  have hml : c.maxLocals = 6 := hml0
  have hown : s.vm.findClass "com/example/role_rights/rolerights/decision/Nearest" = some m.cls := findClass_of_methodNamed Bd.named
  have hnm := (name_of_methodNamed Bd.named Bd.method).1
  have hlk := own_lk Bd
  have hret := Bd.returns
  have X0 : Stand p l e ({ frames := 2, cells := 0, slots := 0, locals := 29 } : Room) s m #[(.ref n), (.int x1), (.int x2), (.int x3), (.ref ev)] below meth c s₁ [] 0 0 := Stand.of_body Bd
  have e0 : s₁.heap = h0 := by rw [← hh, Bd.state]; rfl
  have N0 := Fr.nil n0
  show own_Goes p e below s (Q_add Z n x1 x2 x3 ev o1 o2 o3 eo aDENY r h0 n0) ({ frames := 2, cells := 0, slots := 0, locals := 29 } : Room).cells ({ frames := 2, cells := 0, slots := 0, locals := 29 } : Room).slots (s₁.setTop (entryFrame m #[(.ref n), (.int x1), (.int x2), (.int x3), (.ref ev)] 6))
  refine own_go (fun _ ww => castTop (ef_add m n x1 x2 x3 ev o1 o2 o3 eo aDENY r) ww) ?_
  show own_Goes _ _ _ _ _ _ _ (s₁.setTop (mkF m 0 #[.val (.ref n), .val (.int x1), .val (.int x2), .val (.int x3), .val (.ref ev), .unset] []))
  refine own_go (fun _ ww => XS.aloadN X0.here hx rfl (hb hby d4_0) rfl rfl ww) ?_
  show own_Goes _ _ _ _ _ _ _ (s₁.setTop (mkF m 1 #[.val (.ref n), .val (.int x1), .val (.int x2), .val (.int x3), .val (.ref ev), .unset] [(.ref n)]))
  refine own_go (fun _ ww => XS.iloadN X0.here hx rfl (hb hby d4_1) rfl  ww) ?_
  show own_Goes _ _ _ _ _ _ _ (s₁.setTop (mkF m 2 #[.val (.ref n), .val (.int x1), .val (.int x2), .val (.int x3), .val (.ref ev), .unset] [(.int x1), (.ref n)]))
  refine own_go (fun _ ww => XS.iloadN X0.here hx rfl (hb hby d4_2) rfl  ww) ?_
  show own_Goes _ _ _ _ _ _ _ (s₁.setTop (mkF m 3 #[.val (.ref n), .val (.int x1), .val (.int x2), .val (.int x3), .val (.ref ev), .unset] [(.int x2), (.int x1), (.ref n)]))
  refine own_go (fun _ ww => XS.iloadN X0.here hx rfl (hb hby d4_3) rfl  ww) ?_
  show own_Goes _ _ _ _ _ _ _ (s₁.setTop (mkF m 4 #[.val (.ref n), .val (.int x1), .val (.int x2), .val (.int x3), .val (.ref ev), .unset] [(.int x3), (.int x2), (.int x1), (.ref n)]))
  obtain ⟨cq40, q40, q40'⟩ := Exa.cell En
  obtain ⟨_, _, ⟨T40, L40, k40, n40⟩, -, X40, ⟨Lc40, hQ40, l40, y40, z40⟩, st40⟩ := own_privateBack X0 hx (y := (⟨"com/example/role_rights/rolerights/decision/Nearest", "compare", "(III)I"⟩ : MethodName)) hown (mvT hZ (hw _ (List.mem_of_getElem? (i := 28) rfl))) (mvT hZ (hw _ (List.mem_of_getElem? (i := 29) rfl))) (mvT hZ (hw _ (List.mem_of_getElem? (i := 1) rfl))) (Cond.privateMethod_at (mvP hZ (hw _ (List.mem_of_getElem? (i := 30) rfl)) (args := #[]))) (mvT hZ (hw _ (List.mem_of_getElem? (i := 31) rfl))) (by decide) (backOf (W := 0) (rm_compare l Z a0 hw [] n x1 x2 x3 o1 o2 o3 h0 n0 O0 F1 F2 F3) hZ (hw _ (List.mem_of_getElem? (i := 31) rfl)) (hw _ (List.mem_of_getElem? (i := 2) rfl)) (by decide) (by decide)) (g := (mkF m 4 #[.val (.ref n), .val (.int x1), .val (.int x2), .val (.int x3), .val (.ref ev), .unset] [(.int x3), (.int x2), (.int x1), (.ref n)])) rfl (by rw [hml]; rfl) (Steps.refl _) (a := n) (by rw [e0]; exact q40) q40' (argsL := [(.int x1), (.int x2), (.int x3)]) (rest := []) (lenOf pd_1 rfl) rfl (by show 2 * 0 + _ ≤ _; exact Nat.le_of_eq rfl) (hb hby d4_4) (fun _ _ => ⟨rfl, e0, (by decide : 0 + 0 ≤ _), (by decide : 0 + 0 ≤ _)⟩)
  dsimp only [Pt.U, Pt.locs, Pt.cells, Pt.slots] at X40 l40 y40 z40 st40 hQ40
  subst l40 y40 z40
  obtain ⟨r40, rfl, N40q, e40, u40, w40⟩ := hQ40
  have N40 := Fr.app N0 N40q
  refine own_go (fun _ ww => Steps.trans st40 ww) ?_
  show own_Goes _ _ _ _ _ _ _ (T40.setTop (mkF m 7 #[.val (.ref n), .val (.int x1), .val (.int x2), .val (.int x3), .val (.ref ev), .unset] [(.int r40)]))
  refine own_go (fun _ ww => XS.istore X40.here hx rfl (hb hby d4_7) rfl (l' := #[.val (.ref n), .val (.int x1), .val (.int x2), .val (.int x3), .val (.ref ev), .val (.int r40)]) rfl ww) ?_
  show own_Goes _ _ _ _ _ _ _ (T40.setTop (mkF m 9 #[.val (.ref n), .val (.int x1), .val (.int x2), .val (.int x3), .val (.ref ev), .val (.int r40)] []))
  refine own_go (fun _ ww => XS.iload X40.here hx rfl (hb hby d4_9) rfl  ww) ?_
  show own_Goes _ _ _ _ _ _ _ (T40.setTop (mkF m 11 #[.val (.ref n), .val (.int x1), .val (.int x2), .val (.int x3), .val (.ref ev), .val (.int r40)] [(.int r40)]))
  by_cases hc41 : (0 : Int32) < r40
  ·
    refine own_go (fun _ ww => XS.ifYes X40.here hx rfl (pc0 := 11) (pc' := 52) rfl (hb hby d4_11) rfl (own_if .gt (tlt hc41).2.2.1) (by decide) (by decide) ww) ?_
    show own_Goes _ _ _ _ _ _ _ (T40.setTop (mkF m 52 #[.val (.ref n), .val (.int x1), .val (.int x2), .val (.int x3), .val (.ref ev), .val (.int r40)] []))
    exact own_out X40 hlk (v := none) (fun _ => rfl) (fun fs hr => X40.returnOut hx hret (hb hby d4_52) hr) e40 ⟨_, _, _, rfl, N40, heo, (Keep.refl h0 [n]), F0, (by rw [hrB (fun q => absurd hc41 (own_asym (u40 q)))]; exact F1), F2, F3⟩ (by decide) (by decide)
  ·
    refine own_go (fun _ ww => XS.ifNo X40.here hx rfl (hb hby d4_11) rfl (own_if .gt (flt hc41).2.2.1) ww) ?_
    show own_Goes _ _ _ _ _ _ _ (T40.setTop (mkF m 14 #[.val (.ref n), .val (.int x1), .val (.int x2), .val (.int x3), .val (.ref ev), .val (.int r40)] []))
    refine own_go (fun _ ww => XS.aloadN X40.here hx rfl (hb hby d4_14) rfl rfl ww) ?_
    show own_Goes _ _ _ _ _ _ _ (T40.setTop (mkF m 15 #[.val (.ref n), .val (.int x1), .val (.int x2), .val (.int x3), .val (.ref ev), .val (.int r40)] [(.ref n)]))
    refine own_go (fun _ ww => XS.iload X40.here hx rfl (hb hby d4_15) rfl  ww) ?_
    show own_Goes _ _ _ _ _ _ _ (T40.setTop (mkF m 17 #[.val (.ref n), .val (.int x1), .val (.int x2), .val (.int x3), .val (.ref ev), .val (.int r40)] [(.int r40), (.ref n)]))
    by_cases hc42 : r40 < (0 : Int32)
    ·
      refine own_go (fun _ ww => XS.ifNo X40.here hx rfl (hb hby d4_17) rfl (own_if .ge (tlt hc42).2.1) ww) ?_
      show own_Goes _ _ _ _ _ _ _ (T40.setTop (mkF m 20 #[.val (.ref n), .val (.int x1), .val (.int x2), .val (.int x3), .val (.ref ev), .val (.int r40)] [(.ref n)]))
      refine own_go (fun _ ww => XS.aload X40.here hx rfl (hb hby d4_20) rfl rfl ww) ?_
      show own_Goes _ _ _ _ _ _ _ (T40.setTop (mkF m 22 #[.val (.ref n), .val (.int x1), .val (.int x2), .val (.int x3), .val (.ref ev), .val (.int r40)] [(.ref ev), (.ref n)]))
      refine own_go (fun _ ww => XS.goto X40.here hx rfl (pc0 := 22) (pc' := 34) rfl (hb hby d4_22) (by decide) (by decide) ww) ?_
      show own_Goes _ _ _ _ _ _ _ (T40.setTop (mkF m 34 #[.val (.ref n), .val (.int x1), .val (.int x2), .val (.int x3), .val (.ref ev), .val (.int r40)] [(.ref ev), (.ref n)]))
      obtain ⟨T43, h43, X43, e43, W43, st43⟩ := putF X40 hx hZ hown (host := "") (Or.inl (hw _ (List.mem_of_getElem? (i := 36) rfl))) Via.refl e40 F0 En (Or.inl (hw _ (List.mem_of_getElem? (i := 37) rfl))) (hw _ (List.mem_of_getElem? (i := 1) rfl)) (ty := (.object "com/example/role_rights/rolerights/policy/Effect")) (by decide) rfl rfl (g := (mkF m 34 #[.val (.ref n), .val (.int x1), .val (.int x2), .val (.int x3), .val (.ref ev), .val (.int r40)] [(.ref ev), (.ref n)])) rfl rfl (hb hby d4_34)
      have f44 : Fld Z h43 n "com/example/role_rights/rolerights/decision/Nearest" "effect" "Lcom/example/role_rights/rolerights/policy/Effect;" (.ref ev) := (F0.same W43)
      have f45 : Fld Z h43 n "com/example/role_rights/rolerights/decision/Nearest" "objectDistance" "I" (.int o1) := (F1.other W43 (Or.inr (slot_ne (Or.inl (hw _ (List.mem_of_getElem? (i := 11) rfl))) (Or.inl (hw _ (List.mem_of_getElem? (i := 37) rfl))) (by decide) (t := .int) (t' := (.object "com/example/role_rights/rolerights/policy/Effect")) (by decide) (by decide))))
      have f46 : Fld Z h43 n "com/example/role_rights/rolerights/decision/Nearest" "subjectDistance" "I" (.int o2) := (F2.other W43 (Or.inr (slot_ne (Or.inl (hw _ (List.mem_of_getElem? (i := 13) rfl))) (Or.inl (hw _ (List.mem_of_getElem? (i := 37) rfl))) (by decide) (t := .int) (t' := (.object "com/example/role_rights/rolerights/policy/Effect")) (by decide) (by decide))))
      have f47 : Fld Z h43 n "com/example/role_rights/rolerights/decision/Nearest" "rightDistance" "I" (.int o3) := (F3.other W43 (Or.inr (slot_ne (Or.inl (hw _ (List.mem_of_getElem? (i := 15) rfl))) (Or.inl (hw _ (List.mem_of_getElem? (i := 37) rfl))) (by decide) (t := .int) (t' := (.object "com/example/role_rights/rolerights/policy/Effect")) (by decide) (by decide))))
      have f48 : Exa Z h43 n "com/example/role_rights/rolerights/decision/Nearest" := (En.wr W43)
      have N43 := Fr.snoc X43 N40 g_n
      have O43 := O0.wr W43 g_n
      have K43 := (Keep.refl h0 [n]).wr W43 (Or.inl (List.mem_of_getElem? (i := 0) rfl))
      refine own_go st43 ?_
      show own_Goes _ _ _ _ _ _ _ (T43.setTop (mkF m 37 #[.val (.ref n), .val (.int x1), .val (.int x2), .val (.int x3), .val (.ref ev), .val (.int r40)] []))
      refine own_go (fun _ ww => XS.aloadN X43.here hx rfl (hb hby d4_37) rfl rfl ww) ?_
      show own_Goes _ _ _ _ _ _ _ (T43.setTop (mkF m 38 #[.val (.ref n), .val (.int x1), .val (.int x2), .val (.int x3), .val (.ref ev), .val (.int r40)] [(.ref n)]))
      refine own_go (fun _ ww => XS.iloadN X43.here hx rfl (hb hby d4_38) rfl  ww) ?_
      show own_Goes _ _ _ _ _ _ _ (T43.setTop (mkF m 39 #[.val (.ref n), .val (.int x1), .val (.int x2), .val (.int x3), .val (.ref ev), .val (.int r40)] [(.int x1), (.ref n)]))
      obtain ⟨T49, h49, X49, e49, W49, st49⟩ := putF X43 hx hZ hown (host := "") (Or.inl (hw _ (List.mem_of_getElem? (i := 10) rfl))) Via.refl e43 f45 f48 (Or.inl (hw _ (List.mem_of_getElem? (i := 11) rfl))) (hw _ (List.mem_of_getElem? (i := 1) rfl)) (ty := .int) (by decide) rfl rfl (g := (mkF m 39 #[.val (.ref n), .val (.int x1), .val (.int x2), .val (.int x3), .val (.ref ev), .val (.int r40)] [(.int x1), (.ref n)])) rfl rfl (hb hby d4_39)
      have f50 : Fld Z h49 n "com/example/role_rights/rolerights/decision/Nearest" "effect" "Lcom/example/role_rights/rolerights/policy/Effect;" (.ref ev) := (f44.other W49 (Or.inr (slot_ne (Or.inl (hw _ (List.mem_of_getElem? (i := 37) rfl))) (Or.inl (hw _ (List.mem_of_getElem? (i := 11) rfl))) (by decide) (t := (.object "com/example/role_rights/rolerights/policy/Effect")) (t' := .int) (by decide) (by decide))))
      have f51 : Fld Z h49 n "com/example/role_rights/rolerights/decision/Nearest" "objectDistance" "I" (.int x1) := (f45.same W49)
      have f52 : Fld Z h49 n "com/example/role_rights/rolerights/decision/Nearest" "subjectDistance" "I" (.int o2) := (f46.other W49 (Or.inr (slot_ne (Or.inl (hw _ (List.mem_of_getElem? (i := 13) rfl))) (Or.inl (hw _ (List.mem_of_getElem? (i := 11) rfl))) (by decide) (t := .int) (t' := .int) (by decide) (by decide))))
      have f53 : Fld Z h49 n "com/example/role_rights/rolerights/decision/Nearest" "rightDistance" "I" (.int o3) := (f47.other W49 (Or.inr (slot_ne (Or.inl (hw _ (List.mem_of_getElem? (i := 15) rfl))) (Or.inl (hw _ (List.mem_of_getElem? (i := 11) rfl))) (by decide) (t := .int) (t' := .int) (by decide) (by decide))))
      have f54 : Exa Z h49 n "com/example/role_rights/rolerights/decision/Nearest" := (f48.wr W49)
      have N49 := Fr.snoc X49 N43 g_n
      have O49 := O43.wr W49 g_n
      have K49 := K43.wr W49 (Or.inl (List.mem_of_getElem? (i := 0) rfl))
      refine own_go st49 ?_
      show own_Goes _ _ _ _ _ _ _ (T49.setTop (mkF m 42 #[.val (.ref n), .val (.int x1), .val (.int x2), .val (.int x3), .val (.ref ev), .val (.int r40)] []))
      refine own_go (fun _ ww => XS.aloadN X49.here hx rfl (hb hby d4_42) rfl rfl ww) ?_
      show own_Goes _ _ _ _ _ _ _ (T49.setTop (mkF m 43 #[.val (.ref n), .val (.int x1), .val (.int x2), .val (.int x3), .val (.ref ev), .val (.int r40)] [(.ref n)]))
      refine own_go (fun _ ww => XS.iloadN X49.here hx rfl (hb hby d4_43) rfl  ww) ?_
      show own_Goes _ _ _ _ _ _ _ (T49.setTop (mkF m 44 #[.val (.ref n), .val (.int x1), .val (.int x2), .val (.int x3), .val (.ref ev), .val (.int r40)] [(.int x2), (.ref n)]))
      obtain ⟨T55, h55, X55, e55, W55, st55⟩ := putF X49 hx hZ hown (host := "") (Or.inl (hw _ (List.mem_of_getElem? (i := 12) rfl))) Via.refl e49 f52 f54 (Or.inl (hw _ (List.mem_of_getElem? (i := 13) rfl))) (hw _ (List.mem_of_getElem? (i := 1) rfl)) (ty := .int) (by decide) rfl rfl (g := (mkF m 44 #[.val (.ref n), .val (.int x1), .val (.int x2), .val (.int x3), .val (.ref ev), .val (.int r40)] [(.int x2), (.ref n)])) rfl rfl (hb hby d4_44)
      have f56 : Fld Z h55 n "com/example/role_rights/rolerights/decision/Nearest" "effect" "Lcom/example/role_rights/rolerights/policy/Effect;" (.ref ev) := (f50.other W55 (Or.inr (slot_ne (Or.inl (hw _ (List.mem_of_getElem? (i := 37) rfl))) (Or.inl (hw _ (List.mem_of_getElem? (i := 13) rfl))) (by decide) (t := (.object "com/example/role_rights/rolerights/policy/Effect")) (t' := .int) (by decide) (by decide))))
      have f57 : Fld Z h55 n "com/example/role_rights/rolerights/decision/Nearest" "objectDistance" "I" (.int x1) := (f51.other W55 (Or.inr (slot_ne (Or.inl (hw _ (List.mem_of_getElem? (i := 11) rfl))) (Or.inl (hw _ (List.mem_of_getElem? (i := 13) rfl))) (by decide) (t := .int) (t' := .int) (by decide) (by decide))))
      have f58 : Fld Z h55 n "com/example/role_rights/rolerights/decision/Nearest" "subjectDistance" "I" (.int x2) := (f52.same W55)
      have f59 : Fld Z h55 n "com/example/role_rights/rolerights/decision/Nearest" "rightDistance" "I" (.int o3) := (f53.other W55 (Or.inr (slot_ne (Or.inl (hw _ (List.mem_of_getElem? (i := 15) rfl))) (Or.inl (hw _ (List.mem_of_getElem? (i := 13) rfl))) (by decide) (t := .int) (t' := .int) (by decide) (by decide))))
      have f60 : Exa Z h55 n "com/example/role_rights/rolerights/decision/Nearest" := (f54.wr W55)
      have N55 := Fr.snoc X55 N49 g_n
      have O55 := O49.wr W55 g_n
      have K55 := K49.wr W55 (Or.inl (List.mem_of_getElem? (i := 0) rfl))
      refine own_go st55 ?_
      show own_Goes _ _ _ _ _ _ _ (T55.setTop (mkF m 47 #[.val (.ref n), .val (.int x1), .val (.int x2), .val (.int x3), .val (.ref ev), .val (.int r40)] []))
      refine own_go (fun _ ww => XS.aloadN X55.here hx rfl (hb hby d4_47) rfl rfl ww) ?_
      show own_Goes _ _ _ _ _ _ _ (T55.setTop (mkF m 48 #[.val (.ref n), .val (.int x1), .val (.int x2), .val (.int x3), .val (.ref ev), .val (.int r40)] [(.ref n)]))
      refine own_go (fun _ ww => XS.iloadN X55.here hx rfl (hb hby d4_48) rfl  ww) ?_
      show own_Goes _ _ _ _ _ _ _ (T55.setTop (mkF m 49 #[.val (.ref n), .val (.int x1), .val (.int x2), .val (.int x3), .val (.ref ev), .val (.int r40)] [(.int x3), (.ref n)]))
      obtain ⟨T61, h61, X61, e61, W61, st61⟩ := putF X55 hx hZ hown (host := "") (Or.inl (hw _ (List.mem_of_getElem? (i := 14) rfl))) Via.refl e55 f59 f60 (Or.inl (hw _ (List.mem_of_getElem? (i := 15) rfl))) (hw _ (List.mem_of_getElem? (i := 1) rfl)) (ty := .int) (by decide) rfl rfl (g := (mkF m 49 #[.val (.ref n), .val (.int x1), .val (.int x2), .val (.int x3), .val (.ref ev), .val (.int r40)] [(.int x3), (.ref n)])) rfl rfl (hb hby d4_49)
      have f62 : Fld Z h61 n "com/example/role_rights/rolerights/decision/Nearest" "effect" "Lcom/example/role_rights/rolerights/policy/Effect;" (.ref ev) := (f56.other W61 (Or.inr (slot_ne (Or.inl (hw _ (List.mem_of_getElem? (i := 37) rfl))) (Or.inl (hw _ (List.mem_of_getElem? (i := 15) rfl))) (by decide) (t := (.object "com/example/role_rights/rolerights/policy/Effect")) (t' := .int) (by decide) (by decide))))
      have f63 : Fld Z h61 n "com/example/role_rights/rolerights/decision/Nearest" "objectDistance" "I" (.int x1) := (f57.other W61 (Or.inr (slot_ne (Or.inl (hw _ (List.mem_of_getElem? (i := 11) rfl))) (Or.inl (hw _ (List.mem_of_getElem? (i := 15) rfl))) (by decide) (t := .int) (t' := .int) (by decide) (by decide))))
      have f64 : Fld Z h61 n "com/example/role_rights/rolerights/decision/Nearest" "subjectDistance" "I" (.int x2) := (f58.other W61 (Or.inr (slot_ne (Or.inl (hw _ (List.mem_of_getElem? (i := 13) rfl))) (Or.inl (hw _ (List.mem_of_getElem? (i := 15) rfl))) (by decide) (t := .int) (t' := .int) (by decide) (by decide))))
      have f65 : Fld Z h61 n "com/example/role_rights/rolerights/decision/Nearest" "rightDistance" "I" (.int x3) := (f59.same W61)
      have f66 : Exa Z h61 n "com/example/role_rights/rolerights/decision/Nearest" := (f60.wr W61)
      have N61 := Fr.snoc X61 N55 g_n
      have O61 := O55.wr W61 g_n
      have K61 := K55.wr W61 (Or.inl (List.mem_of_getElem? (i := 0) rfl))
      refine own_go st61 ?_
      show own_Goes _ _ _ _ _ _ _ (T61.setTop (mkF m 52 #[.val (.ref n), .val (.int x1), .val (.int x2), .val (.int x3), .val (.ref ev), .val (.int r40)] []))
      exact own_out X61 hlk (v := none) (fun _ => rfl) (fun fs hr => X61.returnOut hx hret (hb hby d4_52) hr) e61 ⟨_, _, _, rfl, N61, rfl, K61, f62, (by rw [hrA (fun q => hc41 (w40 q))]; exact f63), f64, f65⟩ (by decide) (by decide)
    ·
      refine own_go (fun _ ww => XS.ifYes X40.here hx rfl (pc0 := 17) (pc' := 25) rfl (hb hby d4_17) rfl (own_if .ge (flt hc42).2.1) (by decide) (by decide) ww) ?_
      show own_Goes _ _ _ _ _ _ _ (T40.setTop (mkF m 25 #[.val (.ref n), .val (.int x1), .val (.int x2), .val (.int x3), .val (.ref ev), .val (.int r40)] [(.ref n)]))
      refine own_go (fun _ ww => XS.aloadN X40.here hx rfl (hb hby d4_25) rfl rfl ww) ?_
      show own_Goes _ _ _ _ _ _ _ (T40.setTop (mkF m 26 #[.val (.ref n), .val (.int x1), .val (.int x2), .val (.int x3), .val (.ref ev), .val (.int r40)] [(.ref n), (.ref n)]))
      obtain ⟨T67, X67, e67, st67⟩ := getF X40 hx hZ hown (host := "") (Or.inl (hw _ (List.mem_of_getElem? (i := 36) rfl))) Via.refl e40 F0 (g := (mkF m 26 #[.val (.ref n), .val (.int x1), .val (.int x2), .val (.int x3), .val (.ref ev), .val (.int r40)] [(.ref n), (.ref n)])) rfl rfl (hb hby d4_26)
      refine own_go st67 ?_
      show own_Goes _ _ _ _ _ _ _ (T67.setTop (mkF m 29 #[.val (.ref n), .val (.int x1), .val (.int x2), .val (.int x3), .val (.ref ev), .val (.int r40)] [eo, (.ref n)]))
      refine own_go (fun _ ww => XS.aload X67.here hx rfl (hb hby d4_29) rfl rfl ww) ?_
      show own_Goes _ _ _ _ _ _ _ (T67.setTop (mkF m 31 #[.val (.ref n), .val (.int x1), .val (.int x2), .val (.int x3), .val (.ref ev), .val (.int r40)] [(.ref ev), eo, (.ref n)]))
      obtain ⟨_, _, ⟨T68, L68, k68, n68⟩, -, X68, ⟨Lc68, hQ68, l68, y68, z68⟩, st68⟩ := Jvm.LawKit.callS X67 hx (y := (⟨"com/example/role_rights/rolerights/decision/Nearest", "tie", "(Lcom/example/role_rights/rolerights/policy/Effect;Lcom/example/role_rights/rolerights/policy/Effect;)Lcom/example/role_rights/rolerights/policy/Effect;"⟩ : MethodName)) hown (mvT hZ (hw _ (List.mem_of_getElem? (i := 51) rfl))) (mvT hZ (hw _ (List.mem_of_getElem? (i := 52) rfl))) (mvT hZ (hw _ (List.mem_of_getElem? (i := 2) rfl))) (mvT hZ (hw _ (List.mem_of_getElem? (i := 53) rfl))) (by decide) (backOf (W := 1) (rm_tie l Z a0 hw [] eo ev aDENY h0 n0 O0 heo SDENY) hZ (hw _ (List.mem_of_getElem? (i := 53) rfl)) (hw _ (List.mem_of_getElem? (i := 2) rfl)) (by decide) (by decide)) (g := (mkF m 31 #[.val (.ref n), .val (.int x1), .val (.int x2), .val (.int x3), .val (.ref ev), .val (.int r40)] [(.ref ev), eo, (.ref n)])) rfl (by rw [hml]; rfl) (argsL := [eo, (.ref ev)]) (rest := [(.ref n)]) (lenOf pd_2 rfl) rfl (by show 2 * 0 + _ ≤ _; exact Nat.le_of_eq rfl) (hb hby d4_31) (fun _ _ => ⟨rfl, e67, (by decide : 0 + 0 ≤ _), (by decide : 0 + 0 ≤ _)⟩)
      dsimp only [Pt.U, Pt.locs, Pt.cells, Pt.slots] at X68 l68 y68 z68 st68 hQ68
      subst l68 y68 z68
      obtain ⟨t68, rfl, N68q, e68, i68⟩ := hQ68
      have N68 := Fr.app N40 N68q
      refine own_go st68 ?_
      show own_Goes _ _ _ _ _ _ _ (T68.setTop (mkF m 34 #[.val (.ref n), .val (.int x1), .val (.int x2), .val (.int x3), .val (.ref ev), .val (.int r40)] [t68, (.ref n)]))
      obtain ⟨T69, h69, X69, e69, W69, st69⟩ := putF X68 hx hZ hown (host := "") (Or.inl (hw _ (List.mem_of_getElem? (i := 36) rfl))) Via.refl e68 F0 En (Or.inl (hw _ (List.mem_of_getElem? (i := 37) rfl))) (hw _ (List.mem_of_getElem? (i := 1) rfl)) (ty := (.object "com/example/role_rights/rolerights/policy/Effect")) (by decide) rfl (own_fitR i68) (g := (mkF m 34 #[.val (.ref n), .val (.int x1), .val (.int x2), .val (.int x3), .val (.ref ev), .val (.int r40)] [t68, (.ref n)])) rfl rfl (hb hby d4_34)
      have f70 : Fld Z h69 n "com/example/role_rights/rolerights/decision/Nearest" "effect" "Lcom/example/role_rights/rolerights/policy/Effect;" t68 := (F0.same W69)
      have f71 : Fld Z h69 n "com/example/role_rights/rolerights/decision/Nearest" "objectDistance" "I" (.int o1) := (F1.other W69 (Or.inr (slot_ne (Or.inl (hw _ (List.mem_of_getElem? (i := 11) rfl))) (Or.inl (hw _ (List.mem_of_getElem? (i := 37) rfl))) (by decide) (t := .int) (t' := (.object "com/example/role_rights/rolerights/policy/Effect")) (by decide) (by decide))))
      have f72 : Fld Z h69 n "com/example/role_rights/rolerights/decision/Nearest" "subjectDistance" "I" (.int o2) := (F2.other W69 (Or.inr (slot_ne (Or.inl (hw _ (List.mem_of_getElem? (i := 13) rfl))) (Or.inl (hw _ (List.mem_of_getElem? (i := 37) rfl))) (by decide) (t := .int) (t' := (.object "com/example/role_rights/rolerights/policy/Effect")) (by decide) (by decide))))
      have f73 : Fld Z h69 n "com/example/role_rights/rolerights/decision/Nearest" "rightDistance" "I" (.int o3) := (F3.other W69 (Or.inr (slot_ne (Or.inl (hw _ (List.mem_of_getElem? (i := 15) rfl))) (Or.inl (hw _ (List.mem_of_getElem? (i := 37) rfl))) (by decide) (t := .int) (t' := (.object "com/example/role_rights/rolerights/policy/Effect")) (by decide) (by decide))))
      have f74 : Exa Z h69 n "com/example/role_rights/rolerights/decision/Nearest" := (En.wr W69)
      have N69 := Fr.snoc X69 N68 g_n
      have O69 := O0.wr W69 g_n
      have K69 := (Keep.refl h0 [n]).wr W69 (Or.inl (List.mem_of_getElem? (i := 0) rfl))
      refine own_go st69 ?_
      show own_Goes _ _ _ _ _ _ _ (T69.setTop (mkF m 37 #[.val (.ref n), .val (.int x1), .val (.int x2), .val (.int x3), .val (.ref ev), .val (.int r40)] []))
      refine own_go (fun _ ww => XS.aloadN X69.here hx rfl (hb hby d4_37) rfl rfl ww) ?_
      show own_Goes _ _ _ _ _ _ _ (T69.setTop (mkF m 38 #[.val (.ref n), .val (.int x1), .val (.int x2), .val (.int x3), .val (.ref ev), .val (.int r40)] [(.ref n)]))
      refine own_go (fun _ ww => XS.iloadN X69.here hx rfl (hb hby d4_38) rfl  ww) ?_
      show own_Goes _ _ _ _ _ _ _ (T69.setTop (mkF m 39 #[.val (.ref n), .val (.int x1), .val (.int x2), .val (.int x3), .val (.ref ev), .val (.int r40)] [(.int x1), (.ref n)]))
      obtain ⟨T75, h75, X75, e75, W75, st75⟩ := putF X69 hx hZ hown (host := "") (Or.inl (hw _ (List.mem_of_getElem? (i := 10) rfl))) Via.refl e69 f71 f74 (Or.inl (hw _ (List.mem_of_getElem? (i := 11) rfl))) (hw _ (List.mem_of_getElem? (i := 1) rfl)) (ty := .int) (by decide) rfl rfl (g := (mkF m 39 #[.val (.ref n), .val (.int x1), .val (.int x2), .val (.int x3), .val (.ref ev), .val (.int r40)] [(.int x1), (.ref n)])) rfl rfl (hb hby d4_39)
      have f76 : Fld Z h75 n "com/example/role_rights/rolerights/decision/Nearest" "effect" "Lcom/example/role_rights/rolerights/policy/Effect;" t68 := (f70.other W75 (Or.inr (slot_ne (Or.inl (hw _ (List.mem_of_getElem? (i := 37) rfl))) (Or.inl (hw _ (List.mem_of_getElem? (i := 11) rfl))) (by decide) (t := (.object "com/example/role_rights/rolerights/policy/Effect")) (t' := .int) (by decide) (by decide))))
      have f77 : Fld Z h75 n "com/example/role_rights/rolerights/decision/Nearest" "objectDistance" "I" (.int x1) := (f71.same W75)
      have f78 : Fld Z h75 n "com/example/role_rights/rolerights/decision/Nearest" "subjectDistance" "I" (.int o2) := (f72.other W75 (Or.inr (slot_ne (Or.inl (hw _ (List.mem_of_getElem? (i := 13) rfl))) (Or.inl (hw _ (List.mem_of_getElem? (i := 11) rfl))) (by decide) (t := .int) (t' := .int) (by decide) (by decide))))
      have f79 : Fld Z h75 n "com/example/role_rights/rolerights/decision/Nearest" "rightDistance" "I" (.int o3) := (f73.other W75 (Or.inr (slot_ne (Or.inl (hw _ (List.mem_of_getElem? (i := 15) rfl))) (Or.inl (hw _ (List.mem_of_getElem? (i := 11) rfl))) (by decide) (t := .int) (t' := .int) (by decide) (by decide))))
      have f80 : Exa Z h75 n "com/example/role_rights/rolerights/decision/Nearest" := (f74.wr W75)
      have N75 := Fr.snoc X75 N69 g_n
      have O75 := O69.wr W75 g_n
      have K75 := K69.wr W75 (Or.inl (List.mem_of_getElem? (i := 0) rfl))
      refine own_go st75 ?_
      show own_Goes _ _ _ _ _ _ _ (T75.setTop (mkF m 42 #[.val (.ref n), .val (.int x1), .val (.int x2), .val (.int x3), .val (.ref ev), .val (.int r40)] []))
      refine own_go (fun _ ww => XS.aloadN X75.here hx rfl (hb hby d4_42) rfl rfl ww) ?_
      show own_Goes _ _ _ _ _ _ _ (T75.setTop (mkF m 43 #[.val (.ref n), .val (.int x1), .val (.int x2), .val (.int x3), .val (.ref ev), .val (.int r40)] [(.ref n)]))
      refine own_go (fun _ ww => XS.iloadN X75.here hx rfl (hb hby d4_43) rfl  ww) ?_
      show own_Goes _ _ _ _ _ _ _ (T75.setTop (mkF m 44 #[.val (.ref n), .val (.int x1), .val (.int x2), .val (.int x3), .val (.ref ev), .val (.int r40)] [(.int x2), (.ref n)]))
      obtain ⟨T81, h81, X81, e81, W81, st81⟩ := putF X75 hx hZ hown (host := "") (Or.inl (hw _ (List.mem_of_getElem? (i := 12) rfl))) Via.refl e75 f78 f80 (Or.inl (hw _ (List.mem_of_getElem? (i := 13) rfl))) (hw _ (List.mem_of_getElem? (i := 1) rfl)) (ty := .int) (by decide) rfl rfl (g := (mkF m 44 #[.val (.ref n), .val (.int x1), .val (.int x2), .val (.int x3), .val (.ref ev), .val (.int r40)] [(.int x2), (.ref n)])) rfl rfl (hb hby d4_44)
      have f82 : Fld Z h81 n "com/example/role_rights/rolerights/decision/Nearest" "effect" "Lcom/example/role_rights/rolerights/policy/Effect;" t68 := (f76.other W81 (Or.inr (slot_ne (Or.inl (hw _ (List.mem_of_getElem? (i := 37) rfl))) (Or.inl (hw _ (List.mem_of_getElem? (i := 13) rfl))) (by decide) (t := (.object "com/example/role_rights/rolerights/policy/Effect")) (t' := .int) (by decide) (by decide))))
      have f83 : Fld Z h81 n "com/example/role_rights/rolerights/decision/Nearest" "objectDistance" "I" (.int x1) := (f77.other W81 (Or.inr (slot_ne (Or.inl (hw _ (List.mem_of_getElem? (i := 11) rfl))) (Or.inl (hw _ (List.mem_of_getElem? (i := 13) rfl))) (by decide) (t := .int) (t' := .int) (by decide) (by decide))))
      have f84 : Fld Z h81 n "com/example/role_rights/rolerights/decision/Nearest" "subjectDistance" "I" (.int x2) := (f78.same W81)
      have f85 : Fld Z h81 n "com/example/role_rights/rolerights/decision/Nearest" "rightDistance" "I" (.int o3) := (f79.other W81 (Or.inr (slot_ne (Or.inl (hw _ (List.mem_of_getElem? (i := 15) rfl))) (Or.inl (hw _ (List.mem_of_getElem? (i := 13) rfl))) (by decide) (t := .int) (t' := .int) (by decide) (by decide))))
      have f86 : Exa Z h81 n "com/example/role_rights/rolerights/decision/Nearest" := (f80.wr W81)
      have N81 := Fr.snoc X81 N75 g_n
      have O81 := O75.wr W81 g_n
      have K81 := K75.wr W81 (Or.inl (List.mem_of_getElem? (i := 0) rfl))
      refine own_go st81 ?_
      show own_Goes _ _ _ _ _ _ _ (T81.setTop (mkF m 47 #[.val (.ref n), .val (.int x1), .val (.int x2), .val (.int x3), .val (.ref ev), .val (.int r40)] []))
      refine own_go (fun _ ww => XS.aloadN X81.here hx rfl (hb hby d4_47) rfl rfl ww) ?_
      show own_Goes _ _ _ _ _ _ _ (T81.setTop (mkF m 48 #[.val (.ref n), .val (.int x1), .val (.int x2), .val (.int x3), .val (.ref ev), .val (.int r40)] [(.ref n)]))
      refine own_go (fun _ ww => XS.iloadN X81.here hx rfl (hb hby d4_48) rfl  ww) ?_
      show own_Goes _ _ _ _ _ _ _ (T81.setTop (mkF m 49 #[.val (.ref n), .val (.int x1), .val (.int x2), .val (.int x3), .val (.ref ev), .val (.int r40)] [(.int x3), (.ref n)]))
      obtain ⟨T87, h87, X87, e87, W87, st87⟩ := putF X81 hx hZ hown (host := "") (Or.inl (hw _ (List.mem_of_getElem? (i := 14) rfl))) Via.refl e81 f85 f86 (Or.inl (hw _ (List.mem_of_getElem? (i := 15) rfl))) (hw _ (List.mem_of_getElem? (i := 1) rfl)) (ty := .int) (by decide) rfl rfl (g := (mkF m 49 #[.val (.ref n), .val (.int x1), .val (.int x2), .val (.int x3), .val (.ref ev), .val (.int r40)] [(.int x3), (.ref n)])) rfl rfl (hb hby d4_49)
      have f88 : Fld Z h87 n "com/example/role_rights/rolerights/decision/Nearest" "effect" "Lcom/example/role_rights/rolerights/policy/Effect;" t68 := (f82.other W87 (Or.inr (slot_ne (Or.inl (hw _ (List.mem_of_getElem? (i := 37) rfl))) (Or.inl (hw _ (List.mem_of_getElem? (i := 15) rfl))) (by decide) (t := (.object "com/example/role_rights/rolerights/policy/Effect")) (t' := .int) (by decide) (by decide))))
      have f89 : Fld Z h87 n "com/example/role_rights/rolerights/decision/Nearest" "objectDistance" "I" (.int x1) := (f83.other W87 (Or.inr (slot_ne (Or.inl (hw _ (List.mem_of_getElem? (i := 11) rfl))) (Or.inl (hw _ (List.mem_of_getElem? (i := 15) rfl))) (by decide) (t := .int) (t' := .int) (by decide) (by decide))))
      have f90 : Fld Z h87 n "com/example/role_rights/rolerights/decision/Nearest" "subjectDistance" "I" (.int x2) := (f84.other W87 (Or.inr (slot_ne (Or.inl (hw _ (List.mem_of_getElem? (i := 13) rfl))) (Or.inl (hw _ (List.mem_of_getElem? (i := 15) rfl))) (by decide) (t := .int) (t' := .int) (by decide) (by decide))))
      have f91 : Fld Z h87 n "com/example/role_rights/rolerights/decision/Nearest" "rightDistance" "I" (.int x3) := (f85.same W87)
      have f92 : Exa Z h87 n "com/example/role_rights/rolerights/decision/Nearest" := (f86.wr W87)
      have N87 := Fr.snoc X87 N81 g_n
      have O87 := O81.wr W87 g_n
      have K87 := K81.wr W87 (Or.inl (List.mem_of_getElem? (i := 0) rfl))
      refine own_go st87 ?_
      show own_Goes _ _ _ _ _ _ _ (T87.setTop (mkF m 52 #[.val (.ref n), .val (.int x1), .val (.int x2), .val (.int x3), .val (.ref ev), .val (.int r40)] []))
      exact own_out X87 hlk (v := none) (fun _ => rfl) (fun fs hr => X87.returnOut hx hret (hb hby d4_52) hr) e87 ⟨_, _, _, rfl, N87, i68, K87, f88, (by rw [hrA (fun q => hc41 (w40 q))]; exact f89), f90, f91⟩ (by decide) (by decide)
theorem d7_0 : decode prog_23_method_4_code 0 = .ok (.iload_n 1, 1) := by decide +kernel
theorem d7_1 : decode prog_23_method_4_code 1 = .ok (.aload_n 0, 1) := by decide +kernel
theorem d7_2 : decode prog_23_method_4_code 2 = .ok (.getfield 10, 3) := by decide +kernel
theorem d7_5 : decode prog_23_method_4_code 5 = .ok (.if_icmp .gt 7, 3) := by decide +kernel
theorem d7_12 : decode prog_23_method_4_code 12 = .ok (.iconst 0, 1) := by decide +kernel
theorem d7_13 : decode prog_23_method_4_code 13 = .ok (.ireturn, 1) := by decide +kernel
theorem d7_8 : decode prog_23_method_4_code 8 = .ok (.iconst 1, 1) := by decide +kernel
theorem d7_9 : decode prog_23_method_4_code 9 = .ok (.goto 4, 3) := by decide +kernel
theorem ef_may (m : MethodId) (n : Addr) (x1 : Int32) (o1 : Int32) (r : Int32) : entryFrame m #[(.ref n), (.int x1)] 2 = mkF m 0 #[.val (.ref n), .val (.int x1)] [] := by
  first | (simp [entryFrame, mkF, argsToLocals, Value.category]; done) | rfl
def Q_may (Z : State) (n : Addr) (x1 : Int32) (o1 : Int32) (r : Int32) (h0 : Heap) (n0 : Nat) (v : Option Value) (h : Heap) (L : List Loc) : Prop := v = some (.int r) ∧ Fr n0 L ∧ h = h0
set_option maxRecDepth 65536 in
set_option maxHeartbeats 40000000 in
theorem rm_may (l : Launch) (Z : State) (a0 : Array Value) (hw : ∀ d ∈ tables_1, d.before a0 Z = true) (ws : List Jvm.Cond) (n : Addr) (x1 : Int32) (o1 : Int32) (r : Int32) (h0 : Heap) (n0 : Nat) (O0 : Old Z n0 h0) (F1 : Fld Z h0 n "com/example/role_rights/rolerights/decision/Nearest" "objectDistance" "I" (.int o1)) (hr0 : o1 < x1 → r = 0) (hr1 : ¬ (o1 < x1) → r = 1) :
    MetFree l (⟨"com/example/role_rights/rolerights/decision/Nearest", "mayCount", "(I)Z"⟩ : MethodName) (head1 (Jvm.Cond.code (⟨"com/example/role_rights/rolerights/decision/Nearest", "mayCount", "(I)Z"⟩ : MethodName) prog_23_method_4_code 2 (some .boolean) :: ws) ({ frames := 0, cells := 0, slots := 0, locals := 0 } : Room)) (fun av_ U => av_ = #[(.ref n), (.int x1)] ∧ Z.Warmed39 U.vm ∧ U.heap = h0) (fun _ _ _ _ _ => True) (fun _ U o_ U' => ∃ v L, o_ = .returned v ∧ Q_may Z n x1 o1 r h0 n0 v U'.heap L ∧ FrameEnd U o_ U' L ({ frames := 0, cells := 0, slots := 0, locals := 0 } : Room).cells ({ frames := 0, cells := 0, slots := 0, locals := 0 } : Room).slots) := by
  refine MetFree.of_bodySF (plainFor_of_name pn_0) hisR ?_
  intro p e s m args below meth c s₁ Bd hml0 hP hK
  obtain ⟨rfl, hZ, hh⟩ := hP
  have hx := Bd.exec
  have hby := Bd.bytes
  have hml : c.maxLocals = 2 := hml0
  have hown : s.vm.findClass "com/example/role_rights/rolerights/decision/Nearest" = some m.cls := findClass_of_methodNamed Bd.named
  have hnm := (name_of_methodNamed Bd.named Bd.method).1
  have hlk := own_lk Bd
  have hret := Bd.returns
  have X0 : Stand p l e ({ frames := 0, cells := 0, slots := 0, locals := 0 } : Room) s m #[(.ref n), (.int x1)] below meth c s₁ [] 0 0 := Stand.of_body Bd
  have e0 : s₁.heap = h0 := by rw [← hh, Bd.state]; rfl
  have N0 := Fr.nil n0
  show own_Goes p e below s (Q_may Z n x1 o1 r h0 n0) ({ frames := 0, cells := 0, slots := 0, locals := 0 } : Room).cells ({ frames := 0, cells := 0, slots := 0, locals := 0 } : Room).slots (s₁.setTop (entryFrame m #[(.ref n), (.int x1)] 2))
  refine own_go (fun _ ww => castTop (ef_may m n x1 o1 r) ww) ?_
  show own_Goes _ _ _ _ _ _ _ (s₁.setTop (mkF m 0 #[.val (.ref n), .val (.int x1)] []))
  refine own_go (fun _ ww => XS.iloadN X0.here hx rfl (hb hby d7_0) rfl  ww) ?_
  show own_Goes _ _ _ _ _ _ _ (s₁.setTop (mkF m 1 #[.val (.ref n), .val (.int x1)] [(.int x1)]))
  refine own_go (fun _ ww => XS.aloadN X0.here hx rfl (hb hby d7_1) rfl rfl ww) ?_
  show own_Goes _ _ _ _ _ _ _ (s₁.setTop (mkF m 2 #[.val (.ref n), .val (.int x1)] [(.ref n), (.int x1)]))
  obtain ⟨T93, X93, e93, st93⟩ := getF X0 hx hZ hown (host := "") (Or.inl (hw _ (List.mem_of_getElem? (i := 10) rfl))) Via.refl e0 F1 (g := (mkF m 2 #[.val (.ref n), .val (.int x1)] [(.ref n), (.int x1)])) rfl rfl (hb hby d7_2)
  refine own_go st93 ?_
  show own_Goes _ _ _ _ _ _ _ (T93.setTop (mkF m 5 #[.val (.ref n), .val (.int x1)] [(.int o1), (.int x1)]))
  by_cases hc94 : o1 < x1
  ·
    refine own_go (fun _ ww => XS.icmpYes X93.here hx rfl (pc0 := 5) (pc' := 12) rfl (hb hby d7_5) rfl (tlt hc94).2.2.1 (by decide) (by decide) ww) ?_
    show own_Goes _ _ _ _ _ _ _ (T93.setTop (mkF m 12 #[.val (.ref n), .val (.int x1)] []))
    refine own_go (fun _ ww => XS.iconst X93.here hx rfl (hb hby d7_12) ww) ?_
    show own_Goes _ _ _ _ _ _ _ (T93.setTop (mkF m 13 #[.val (.ref n), .val (.int x1)] [(.int (0 : Int32))]))
    exact own_out X93 hlk (v := some (.int (0 : Int32))) (fun h => by rw [hret] at h; cases h) (fun fs hr => retOut X93 hx (t := .boolean) hret (by decide) (Or.inl ⟨rfl, by simp, _, rfl⟩) (hb hby d7_13) hr) e93 ⟨by rw [hr0 hc94], N0, rfl⟩ (by decide) (by decide)
  ·
    refine own_go (fun _ ww => XS.icmpNo X93.here hx rfl (hb hby d7_5) rfl (flt hc94).2.2.1 ww) ?_
    show own_Goes _ _ _ _ _ _ _ (T93.setTop (mkF m 8 #[.val (.ref n), .val (.int x1)] []))
    refine own_go (fun _ ww => XS.iconst X93.here hx rfl (hb hby d7_8) ww) ?_
    show own_Goes _ _ _ _ _ _ _ (T93.setTop (mkF m 9 #[.val (.ref n), .val (.int x1)] [(.int (1 : Int32))]))
    refine own_go (fun _ ww => XS.goto X93.here hx rfl (pc0 := 9) (pc' := 13) rfl (hb hby d7_9) (by decide) (by decide) ww) ?_
    show own_Goes _ _ _ _ _ _ _ (T93.setTop (mkF m 13 #[.val (.ref n), .val (.int x1)] [(.int (1 : Int32))]))
    exact own_out X93 hlk (v := some (.int (1 : Int32))) (fun h => by rw [hret] at h; cases h) (fun fs hr => retOut X93 hx (t := .boolean) hret (by decide) (Or.inl ⟨rfl, by simp, _, rfl⟩) (hb hby d7_13) hr) e93 ⟨by rw [hr1 hc94], N0, rfl⟩ (by decide) (by decide)
theorem d8_0 : decode jdk_29_method_69_code 0 = .ok (.iload_n 0, 1) := by decide +kernel
theorem d8_1 : decode jdk_29_method_69_code 1 = .ok (.iload_n 1, 1) := by decide +kernel
theorem d8_2 : decode jdk_29_method_69_code 2 = .ok (.if_icmp .gt 7, 3) := by decide +kernel
theorem d8_9 : decode jdk_29_method_69_code 9 = .ok (.iload_n 1, 1) := by decide +kernel
theorem d8_10 : decode jdk_29_method_69_code 10 = .ok (.ireturn, 1) := by decide +kernel
theorem d8_5 : decode jdk_29_method_69_code 5 = .ok (.iload_n 0, 1) := by decide +kernel
theorem d8_6 : decode jdk_29_method_69_code 6 = .ok (.goto 4, 3) := by decide +kernel
theorem ef_min (m : MethodId) (x1 : Int32) (x2 : Int32) (r : Int32) : entryFrame m #[(.int x1), (.int x2)] 2 = mkF m 0 #[.val (.int x1), .val (.int x2)] [] := by
  first | (simp [entryFrame, mkF, argsToLocals, Value.category]; done) | rfl
def Q_min (Z : State) (x1 : Int32) (x2 : Int32) (r : Int32) (h0 : Heap) (n0 : Nat) (v : Option Value) (h : Heap) (L : List Loc) : Prop := v = some (.int r) ∧ Fr n0 L ∧ h = h0
set_option maxRecDepth 65536 in
set_option maxHeartbeats 40000000 in
theorem rm_min (l : Launch) (Z : State) (a0 : Array Value) (hw : ∀ d ∈ tables_1, d.before a0 Z = true) (ws : List Jvm.Cond) (x1 : Int32) (x2 : Int32) (r : Int32) (h0 : Heap) (n0 : Nat) (O0 : Old Z n0 h0) (hr1 : x2 < x1 → r = x2) (hr0 : ¬ (x2 < x1) → r = x1) :
    MetFree l (⟨"java/lang/Math", "min", "(II)I"⟩ : MethodName) (head1 (Jvm.Cond.code (⟨"java/lang/Math", "min", "(II)I"⟩ : MethodName) jdk_29_method_69_code 2 (some .int) :: ws) ({ frames := 0, cells := 0, slots := 0, locals := 0 } : Room)) (fun av_ U => av_ = #[(.int x1), (.int x2)] ∧ Z.Warmed39 U.vm ∧ U.heap = h0) (fun _ _ _ _ _ => True) (fun _ U o_ U' => ∃ v L, o_ = .returned v ∧ Q_min Z x1 x2 r h0 n0 v U'.heap L ∧ FrameEnd U o_ U' L ({ frames := 0, cells := 0, slots := 0, locals := 0 } : Room).cells ({ frames := 0, cells := 0, slots := 0, locals := 0 } : Room).slots) := by
  refine MetFree.of_bodySF (Jvm.Free.JP.mathPlain rfl (by decide +kernel)) hisR ?_
  intro p e s m args below meth c s₁ Bd hml0 hP hK
  obtain ⟨rfl, hZ, hh⟩ := hP
  have hx := Bd.exec
  have hby := Bd.bytes
  have hml : c.maxLocals = 2 := hml0
  have hown : s.vm.findClass "java/lang/Math" = some m.cls := findClass_of_methodNamed Bd.named
  have hnm := (name_of_methodNamed Bd.named Bd.method).1
  have hlk := own_lk Bd
  have hret := Bd.returns
  have X0 : Stand p l e ({ frames := 0, cells := 0, slots := 0, locals := 0 } : Room) s m #[(.int x1), (.int x2)] below meth c s₁ [] 0 0 := Stand.of_body Bd
  have e0 : s₁.heap = h0 := by rw [← hh, Bd.state]; rfl
  have N0 := Fr.nil n0
  show own_Goes p e below s (Q_min Z x1 x2 r h0 n0) ({ frames := 0, cells := 0, slots := 0, locals := 0 } : Room).cells ({ frames := 0, cells := 0, slots := 0, locals := 0 } : Room).slots (s₁.setTop (entryFrame m #[(.int x1), (.int x2)] 2))
  refine own_go (fun _ ww => castTop (ef_min m x1 x2 r) ww) ?_
  show own_Goes _ _ _ _ _ _ _ (s₁.setTop (mkF m 0 #[.val (.int x1), .val (.int x2)] []))
  refine own_go (fun _ ww => XS.iloadN X0.here hx rfl (hb hby d8_0) rfl  ww) ?_
  show own_Goes _ _ _ _ _ _ _ (s₁.setTop (mkF m 1 #[.val (.int x1), .val (.int x2)] [(.int x1)]))
  refine own_go (fun _ ww => XS.iloadN X0.here hx rfl (hb hby d8_1) rfl  ww) ?_
  show own_Goes _ _ _ _ _ _ _ (s₁.setTop (mkF m 2 #[.val (.int x1), .val (.int x2)] [(.int x2), (.int x1)]))
  by_cases hc95 : x2 < x1
  ·
    refine own_go (fun _ ww => XS.icmpYes X0.here hx rfl (pc0 := 2) (pc' := 9) rfl (hb hby d8_2) rfl (tlt hc95).2.2.1 (by decide) (by decide) ww) ?_
    show own_Goes _ _ _ _ _ _ _ (s₁.setTop (mkF m 9 #[.val (.int x1), .val (.int x2)] []))
    refine own_go (fun _ ww => XS.iloadN X0.here hx rfl (hb hby d8_9) rfl  ww) ?_
    show own_Goes _ _ _ _ _ _ _ (s₁.setTop (mkF m 10 #[.val (.int x1), .val (.int x2)] [(.int x2)]))
    exact own_out X0 hlk (v := some (.int x2)) (fun h => by rw [hret] at h; cases h) (fun fs hr => retOut X0 hx (t := .int) hret rfl (Or.inl ⟨rfl, by simp, _, rfl⟩) (hb hby d8_10) hr) e0 ⟨by rw [hr1 hc95], N0, rfl⟩ (by decide) (by decide)
  ·
    refine own_go (fun _ ww => XS.icmpNo X0.here hx rfl (hb hby d8_2) rfl (flt hc95).2.2.1 ww) ?_
    show own_Goes _ _ _ _ _ _ _ (s₁.setTop (mkF m 5 #[.val (.int x1), .val (.int x2)] []))
    refine own_go (fun _ ww => XS.iloadN X0.here hx rfl (hb hby d8_5) rfl  ww) ?_
    show own_Goes _ _ _ _ _ _ _ (s₁.setTop (mkF m 6 #[.val (.int x1), .val (.int x2)] [(.int x1)]))
    refine own_go (fun _ ww => XS.goto X0.here hx rfl (pc0 := 6) (pc' := 10) rfl (hb hby d8_6) (by decide) (by decide) ww) ?_
    show own_Goes _ _ _ _ _ _ _ (s₁.setTop (mkF m 10 #[.val (.int x1), .val (.int x2)] [(.int x1)]))
    exact own_out X0 hlk (v := some (.int x1)) (fun h => by rw [hret] at h; cases h) (fun fs hr => retOut X0 hx (t := .int) hret rfl (Or.inl ⟨rfl, by simp, _, rfl⟩) (hb hby d8_10) hr) e0 ⟨by rw [hr0 hc95], N0, rfl⟩ (by decide) (by decide)
theorem ef_law (m : MethodId) (x0 : Int32) (x1 : Int32) (x2 : Int32) (x3 : Int32) (x4 : Int32) (x5 : Int32) (aGRANT : Addr) (aDENY : Addr) (aFORBID : Addr) : entryFrame m #[(.int x0), (.int x1), (.int x2), (.int x3), (.int x4), (.int x5)] maxLocals = mkF m 0 #[.val (.int x0), .val (.int x1), .val (.int x2), .val (.int x3), .val (.int x4), .val (.int x5), .unset, .unset, .unset] [] := by
  first | (simp [entryFrame, mkF, argsToLocals, Value.category, maxLocals]; done) | rfl
def Q_law (Z : State) (x0 : Int32) (x1 : Int32) (x2 : Int32) (x3 : Int32) (x4 : Int32) (x5 : Int32) (aGRANT : Addr) (aDENY : Addr) (aFORBID : Addr) (h0 : Heap) (n0 : Nat) (v : Option Value) (h : Heap) (L : List Loc) : Prop := v = some (.int 1) ∧ Fr n0 L
set_option maxRecDepth 65536 in
set_option maxHeartbeats 40000000 in
theorem rm_law (l : Launch) (Z : State) (a0 : Array Value) (hw : ∀ d ∈ tables_1, d.before a0 Z = true) (ws : List Jvm.Cond) (x0 : Int32) (x1 : Int32) (x2 : Int32) (x3 : Int32) (x4 : Int32) (x5 : Int32) (aGRANT : Addr) (aDENY : Addr) (aFORBID : Addr) (h0 : Heap) (n0 : Nat) (O0 : Old Z n0 h0) (SGRANT : Sta Z Z.heap "com/example/role_rights/rolerights/policy/Effect" "GRANT" "Lcom/example/role_rights/rolerights/policy/Effect;" (.ref aGRANT)) (SDENY : Sta Z Z.heap "com/example/role_rights/rolerights/policy/Effect" "DENY" "Lcom/example/role_rights/rolerights/policy/Effect;" (.ref aDENY)) (SFORBID : Sta Z Z.heap "com/example/role_rights/rolerights/policy/Effect" "FORBID" "Lcom/example/role_rights/rolerights/policy/Effect;" (.ref aFORBID)) :
    MetFree l x (head1 (Jvm.Cond.code x code maxLocals ret :: ws) room_1) (fun av_ U => av_ = #[(.int x0), (.int x1), (.int x2), (.int x3), (.int x4), (.int x5)] ∧ Z.Warmed39 U.vm ∧ U.heap = h0) (fun _ _ _ _ _ => True) (fun _ U o_ U' => ∃ v L, o_ = .returned v ∧ Q_law Z x0 x1 x2 x3 x4 x5 aGRANT aDENY aFORBID h0 n0 v U'.heap L ∧ FrameEnd U o_ U' L room_1.cells room_1.slots) := by
  refine MetFree.of_bodySF (plainFor_of_name pn_1) hisR ?_
  intro p e s m args below meth c s₁ Bd hml0 hP hK
  obtain ⟨rfl, hZ, hh⟩ := hP
  have hx := Bd.exec
  have hby := Bd.bytes
  have hml : c.maxLocals = 9 := hml0
  have hown : s.vm.findClass "com/example/role_rights/rolerights/decision/NearestMayCountPinLaw" = some m.cls := findClass_of_methodNamed Bd.named
  have hnm := (name_of_methodNamed Bd.named Bd.method).1
  have hlk := own_lk Bd
  have hret := Bd.returns
  have X0 : Stand p l e room_1 s m #[(.int x0), (.int x1), (.int x2), (.int x3), (.int x4), (.int x5)] below meth c s₁ [] 0 0 := Stand.of_body Bd
  have e0 : s₁.heap = h0 := by rw [← hh, Bd.state]; rfl
  have N0 := Fr.nil n0
  show own_Goes p e below s (Q_law Z x0 x1 x2 x3 x4 x5 aGRANT aDENY aFORBID h0 n0) room_1.cells room_1.slots (s₁.setTop (entryFrame m #[(.int x0), (.int x1), (.int x2), (.int x3), (.int x4), (.int x5)] maxLocals))
  refine own_go (fun _ ww => castTop (ef_law m x0 x1 x2 x3 x4 x5 aGRANT aDENY aFORBID) ww) ?_
  show own_Goes _ _ _ _ _ _ _ (s₁.setTop (mkF m 0 #[.val (.int x0), .val (.int x1), .val (.int x2), .val (.int x3), .val (.int x4), .val (.int x5), .unset, .unset, .unset] []))
  obtain ⟨T96, h96, X96, e96, E96, A96, D96, -, st96⟩ := newO X0 hx hZ hown (hw _ (List.mem_of_getElem? (i := 0) rfl)) (hw _ (List.mem_of_getElem? (i := 1) rfl)) (hw _ (List.mem_of_getElem? (i := 2) rfl)) e0 (g := (mkF m 0 #[.val (.int x0), .val (.int x1), .val (.int x2), .val (.int x3), .val (.int x4), .val (.int x5), .unset, .unset, .unset] [])) rfl (hb hby at_0) (by decide) (by decide)
  obtain ⟨b96, g96⟩ : ∃ z, z = h0.size := ⟨_, rfl⟩
  rw [← g96] at A96 D96 st96
  have g_b96 : n0 ≤ b96 := Nat.le_trans (O0.1 ▸ O0.2.1) (Nat.le_of_eq g96.symm)
  have O96 := O0.ext E96
  have f97 : Fld Z h96 b96 "com/example/role_rights/rolerights/decision/Nearest" "objectDistance" "I" (.int (0 : Int32)) := D96 (Or.inl (hw _ (List.mem_of_getElem? (i := 11) rfl))) (ty := .int) (by decide)
  have f98 : Fld Z h96 b96 "com/example/role_rights/rolerights/decision/Nearest" "subjectDistance" "I" (.int (0 : Int32)) := D96 (Or.inl (hw _ (List.mem_of_getElem? (i := 13) rfl))) (ty := .int) (by decide)
  have f99 : Fld Z h96 b96 "com/example/role_rights/rolerights/decision/Nearest" "rightDistance" "I" (.int (0 : Int32)) := D96 (Or.inl (hw _ (List.mem_of_getElem? (i := 15) rfl))) (ty := .int) (by decide)
  have f100 : Fld Z h96 b96 "com/example/role_rights/rolerights/decision/Nearest" "effect" "Lcom/example/role_rights/rolerights/policy/Effect;" .null := D96 (Or.inl (hw _ (List.mem_of_getElem? (i := 37) rfl))) (ty := (.object "com/example/role_rights/rolerights/policy/Effect")) (by decide)
  refine own_go st96 ?_
  show own_Goes _ _ _ _ _ _ _ (T96.setTop (mkF m 3 #[.val (.int x0), .val (.int x1), .val (.int x2), .val (.int x3), .val (.int x4), .val (.int x5), .unset, .unset, .unset] [(.ref b96)]))
  refine own_go (fun _ ww => XS.dup X96.here hx rfl (hb hby at_3) rfl rfl ww) ?_
  show own_Goes _ _ _ _ _ _ _ (T96.setTop (mkF m 4 #[.val (.int x0), .val (.int x1), .val (.int x2), .val (.int x3), .val (.int x4), .val (.int x5), .unset, .unset, .unset] [(.ref b96), (.ref b96)]))
  obtain ⟨_, _, ⟨T101, L101, k101, n101⟩, -, X101, ⟨Lc101, hQ101, l101, y101, z101⟩, st101⟩ := X96.specialBack hx (y := (⟨"com/example/role_rights/rolerights/decision/Nearest", "<init>", "()V"⟩ : MethodName)) rfl hown (mvT hZ (hw _ (List.mem_of_getElem? (i := 3) rfl))) (mvT hZ (hw _ (List.mem_of_getElem? (i := 4) rfl))) (mvT hZ (hw _ (List.mem_of_getElem? (i := 5) rfl))) (by decide) (backOf (W := 1) (rm_init l Z a0 hw [] b96 h96 n0 O96 f100 f97 f98 f99 A96 g_b96) hZ (hw _ (List.mem_of_getElem? (i := 5) rfl)) (hw _ (List.mem_of_getElem? (i := 2) rfl)) (by decide) (by decide)) (g := (mkF m 4 #[.val (.int x0), .val (.int x1), .val (.int x2), .val (.int x3), .val (.int x4), .val (.int x5), .unset, .unset, .unset] [(.ref b96), (.ref b96)])) rfl (by rw [hml]; rfl) (Steps.refl _) (a := b96) (argsL := []) (rest := [(.ref b96)]) (lenOf pd_3 rfl) rfl (by show 2 * 0 + _ ≤ _; exact Nat.le_of_eq rfl) (hb hby at_4) (fun _ _ => ⟨rfl, e96, (by decide : 1 + 0 ≤ _), (by decide : 4 + 0 ≤ _)⟩)
  dsimp only [Pt.U, Pt.locs, Pt.cells, Pt.slots] at X101 l101 y101 z101 st101 hQ101
  subst l101 y101 z101
  obtain ⟨rfl, N101q, K101q, P101, Q101, R101, U101⟩ := hQ101
  have N101 := Fr.app N0 N101q
  have f102 : Exa Z T101.heap b96 "com/example/role_rights/rolerights/decision/Nearest" := (A96.keep K101q)
  have O101 := O96.keep K101q (allS g_b96 all0)
  refine own_go (fun _ ww => Steps.trans st101 ww) ?_
  show own_Goes _ _ _ _ _ _ _ (T101.setTop (mkF m 7 #[.val (.int x0), .val (.int x1), .val (.int x2), .val (.int x3), .val (.int x4), .val (.int x5), .unset, .unset, .unset] [(.ref b96)]))
  refine own_go (fun _ ww => XS.astore X101.here hx rfl (hb hby at_7) rfl rfl (l' := #[.val (.int x0), .val (.int x1), .val (.int x2), .val (.int x3), .val (.int x4), .val (.int x5), .val (.ref b96), .unset, .unset]) rfl ww) ?_
  show own_Goes _ _ _ _ _ _ _ (T101.setTop (mkF m 9 #[.val (.int x0), .val (.int x1), .val (.int x2), .val (.int x3), .val (.int x4), .val (.int x5), .val (.ref b96), .unset, .unset] []))
  refine own_go (fun _ ww => XS.iload X101.here hx rfl (hb hby at_9) rfl  ww) ?_
  show own_Goes _ _ _ _ _ _ _ (T101.setTop (mkF m 11 #[.val (.int x0), .val (.int x1), .val (.int x2), .val (.int x3), .val (.int x4), .val (.int x5), .val (.ref b96), .unset, .unset] [(.int x5)]))
  refine own_go (fun _ ww => XS.iconst X101.here hx rfl (hb hby at_11) ww) ?_
  show own_Goes _ _ _ _ _ _ _ (T101.setTop (mkF m 12 #[.val (.int x0), .val (.int x1), .val (.int x2), .val (.int x3), .val (.int x4), .val (.int x5), .val (.ref b96), .unset, .unset] [(.int (3 : Int32)), (.int x5)]))
  refine own_go (fun _ ww => XS.iand X101.here hx rfl (hb hby at_12) rfl ww) ?_
  show own_Goes _ _ _ _ _ _ _ (T101.setTop (mkF m 13 #[.val (.int x0), .val (.int x1), .val (.int x2), .val (.int x3), .val (.int x4), .val (.int x5), .val (.ref b96), .unset, .unset] [(.int (x5 &&& (3 : Int32)))]))
  rcases own_and3 x5 with hk | hk | hk | hk
  ·
    rw [hk]
    show own_Goes _ _ _ _ _ _ _ (T101.setTop (mkF m 13 #[.val (.int x0), .val (.int x1), .val (.int x2), .val (.int x3), .val (.int x4), .val (.int x5), .val (.ref b96), .unset, .unset] [(.int (0 : Int32))]))
    refine own_go (fun _ ww => XS.istore X101.here hx rfl (hb hby at_13) rfl (l' := #[.val (.int x0), .val (.int x1), .val (.int x2), .val (.int x3), .val (.int x4), .val (.int x5), .val (.ref b96), .val (.int (0 : Int32)), .unset]) rfl ww) ?_
    show own_Goes _ _ _ _ _ _ _ (T101.setTop (mkF m 15 #[.val (.int x0), .val (.int x1), .val (.int x2), .val (.int x3), .val (.int x4), .val (.int x5), .val (.ref b96), .val (.int (0 : Int32)), .unset] []))
    refine own_go (fun _ ww => XS.iload X101.here hx rfl (hb hby at_15) rfl  ww) ?_
    show own_Goes _ _ _ _ _ _ _ (T101.setTop (mkF m 17 #[.val (.int x0), .val (.int x1), .val (.int x2), .val (.int x3), .val (.int x4), .val (.int x5), .val (.ref b96), .val (.int (0 : Int32)), .unset] [(.int (0 : Int32))]))
    refine own_go (fun _ ww => XS.ifNo X101.here hx rfl (hb hby at_17) rfl (own_if .ne (teq (by decide : (0 : Int32) = (0 : Int32))).2) ww) ?_
    show own_Goes _ _ _ _ _ _ _ (T101.setTop (mkF m 20 #[.val (.int x0), .val (.int x1), .val (.int x2), .val (.int x3), .val (.int x4), .val (.int x5), .val (.ref b96), .val (.int (0 : Int32)), .unset] []))
    refine own_go (fun _ ww => XS.iconst X101.here hx rfl (hb hby at_20) ww) ?_
    show own_Goes _ _ _ _ _ _ _ (T101.setTop (mkF m 21 #[.val (.int x0), .val (.int x1), .val (.int x2), .val (.int x3), .val (.int x4), .val (.int x5), .val (.ref b96), .val (.int (0 : Int32)), .unset] [(.int (1 : Int32))]))
    refine own_go (fun _ ww => XS.istore X101.here hx rfl (hb hby at_21) rfl (l' := #[.val (.int x0), .val (.int x1), .val (.int x2), .val (.int x3), .val (.int x4), .val (.int x5), .val (.ref b96), .val (.int (0 : Int32)), .val (.int (1 : Int32))]) rfl ww) ?_
    show own_Goes _ _ _ _ _ _ _ (T101.setTop (mkF m 23 #[.val (.int x0), .val (.int x1), .val (.int x2), .val (.int x3), .val (.int x4), .val (.int x5), .val (.ref b96), .val (.int (0 : Int32)), .val (.int (1 : Int32))] []))
    refine own_go (fun _ ww => XS.goto X101.here hx rfl (pc0 := 23) (pc' := 164) rfl (hb hby at_23) (by decide) (by decide) ww) ?_
    show own_Goes _ _ _ _ _ _ _ (T101.setTop (mkF m 164 #[.val (.int x0), .val (.int x1), .val (.int x2), .val (.int x3), .val (.int x4), .val (.int x5), .val (.ref b96), .val (.int (0 : Int32)), .val (.int (1 : Int32))] []))
    refine own_go (fun _ ww => XS.aload X101.here hx rfl (hb hby at_164) rfl rfl ww) ?_
    show own_Goes _ _ _ _ _ _ _ (T101.setTop (mkF m 166 #[.val (.int x0), .val (.int x1), .val (.int x2), .val (.int x3), .val (.int x4), .val (.int x5), .val (.ref b96), .val (.int (0 : Int32)), .val (.int (1 : Int32))] [(.ref b96)]))
    refine own_go (fun _ ww => XS.iloadN X101.here hx rfl (hb hby at_166) rfl  ww) ?_
    show own_Goes _ _ _ _ _ _ _ (T101.setTop (mkF m 167 #[.val (.int x0), .val (.int x1), .val (.int x2), .val (.int x3), .val (.int x4), .val (.int x5), .val (.ref b96), .val (.int (0 : Int32)), .val (.int (1 : Int32))] [(.int x2), (.ref b96)]))
    obtain ⟨cq103, kq103, q103a, q103b, q103c⟩ := isOf hZ rfl f102
    obtain ⟨_, _, ⟨T103, L103, k103, n103⟩, -, X103, ⟨Lc103, hQ103, l103, y103, z103⟩, st103⟩ := X101.virtualBack hx (y := (⟨"com/example/role_rights/rolerights/decision/Nearest", "mayCount", "(I)Z"⟩ : MethodName)) (z := (⟨"com/example/role_rights/rolerights/decision/Nearest", "mayCount", "(I)Z"⟩ : MethodName)) hown (mvT hZ (hw _ (List.mem_of_getElem? (i := 38) rfl))) (mvT hZ (hw _ (List.mem_of_getElem? (i := 39) rfl))) (notFace_of_selects (args := #[]) (mvT hZ (hw _ (List.mem_of_getElem? (i := 41) rfl)))) (mvT hZ (hw _ (List.mem_of_getElem? (i := 41) rfl))) (mvT hZ (hw _ (List.mem_of_getElem? (i := 40) rfl))) (by decide) (backOf (W := 0) (rm_may l Z a0 hw [] b96 x2 (2147483647 : Int32) (1 : Int32) T101.heap n0 O101 Q101 (fun q => absurd q (own_nmx _)) (fun _ => rfl)) hZ (hw _ (List.mem_of_getElem? (i := 42) rfl)) (hw _ (List.mem_of_getElem? (i := 2) rfl)) (by decide) (by decide)) q103a q103c (g := (mkF m 167 #[.val (.int x0), .val (.int x1), .val (.int x2), .val (.int x3), .val (.int x4), .val (.int x5), .val (.ref b96), .val (.int (0 : Int32)), .val (.int (1 : Int32))] [(.int x2), (.ref b96)])) rfl (by rw [hml]; rfl) (Steps.refl _) (argsL := [(.int x2)]) (rest := []) (lenOf pd_4 rfl) rfl (by show 2 * 0 + _ ≤ _; exact Nat.le_of_eq rfl) (hb hby at_167) (fun _ _ => ⟨rfl, rfl, (by decide : 1 + 0 ≤ _), (by decide : 4 + 0 ≤ _)⟩)
    dsimp only [Pt.U, Pt.locs, Pt.cells, Pt.slots] at X103 l103 y103 z103 st103 hQ103
    subst l103 y103 z103
    obtain ⟨rfl, N103q, e103⟩ := hQ103
    have N103 := Fr.app N101 N103q
    refine own_go (fun _ ww => Steps.trans st103 ww) ?_
    show own_Goes _ _ _ _ _ _ _ (T103.setTop (mkF m 170 #[.val (.int x0), .val (.int x1), .val (.int x2), .val (.int x3), .val (.int x4), .val (.int x5), .val (.ref b96), .val (.int (0 : Int32)), .val (.int (1 : Int32))] [(.int (1 : Int32))]))
    refine own_go (fun _ ww => XS.iload X103.here hx rfl (hb hby at_170) rfl  ww) ?_
    show own_Goes _ _ _ _ _ _ _ (T103.setTop (mkF m 172 #[.val (.int x0), .val (.int x1), .val (.int x2), .val (.int x3), .val (.int x4), .val (.int x5), .val (.ref b96), .val (.int (0 : Int32)), .val (.int (1 : Int32))] [(.int (1 : Int32)), (.int (1 : Int32))]))
    refine own_go (fun _ ww => XS.icmpNo X103.here hx rfl (hb hby at_172) rfl (teq (by decide : (1 : Int32) = (1 : Int32))).2 ww) ?_
    show own_Goes _ _ _ _ _ _ _ (T103.setTop (mkF m 175 #[.val (.int x0), .val (.int x1), .val (.int x2), .val (.int x3), .val (.int x4), .val (.int x5), .val (.ref b96), .val (.int (0 : Int32)), .val (.int (1 : Int32))] []))
    refine own_go (fun _ ww => XS.iconst X103.here hx rfl (hb hby at_175) ww) ?_
    show own_Goes _ _ _ _ _ _ _ (T103.setTop (mkF m 176 #[.val (.int x0), .val (.int x1), .val (.int x2), .val (.int x3), .val (.int x4), .val (.int x5), .val (.ref b96), .val (.int (0 : Int32)), .val (.int (1 : Int32))] [(.int (1 : Int32))]))
    refine own_go (fun _ ww => XS.goto X103.here hx rfl (pc0 := 176) (pc' := 180) rfl (hb hby at_176) (by decide) (by decide) ww) ?_
    show own_Goes _ _ _ _ _ _ _ (T103.setTop (mkF m 180 #[.val (.int x0), .val (.int x1), .val (.int x2), .val (.int x3), .val (.int x4), .val (.int x5), .val (.ref b96), .val (.int (0 : Int32)), .val (.int (1 : Int32))] [(.int (1 : Int32))]))
    exact own_out X103 hlk (v := some (.int (1 : Int32))) (fun h => by rw [hret] at h; cases h) (fun fs hr => retOut X103 hx (t := .boolean) hret (by decide) (Or.inl ⟨rfl, by simp, _, rfl⟩) (hb hby at_180) hr) e103 ⟨rfl, N103⟩ (by decide) (by decide)
  ·
    rw [hk]
    show own_Goes _ _ _ _ _ _ _ (T101.setTop (mkF m 13 #[.val (.int x0), .val (.int x1), .val (.int x2), .val (.int x3), .val (.int x4), .val (.int x5), .val (.ref b96), .unset, .unset] [(.int (1 : Int32))]))
    refine own_go (fun _ ww => XS.istore X101.here hx rfl (hb hby at_13) rfl (l' := #[.val (.int x0), .val (.int x1), .val (.int x2), .val (.int x3), .val (.int x4), .val (.int x5), .val (.ref b96), .val (.int (1 : Int32)), .unset]) rfl ww) ?_
    show own_Goes _ _ _ _ _ _ _ (T101.setTop (mkF m 15 #[.val (.int x0), .val (.int x1), .val (.int x2), .val (.int x3), .val (.int x4), .val (.int x5), .val (.ref b96), .val (.int (1 : Int32)), .unset] []))
    refine own_go (fun _ ww => XS.iload X101.here hx rfl (hb hby at_15) rfl  ww) ?_
    show own_Goes _ _ _ _ _ _ _ (T101.setTop (mkF m 17 #[.val (.int x0), .val (.int x1), .val (.int x2), .val (.int x3), .val (.int x4), .val (.int x5), .val (.ref b96), .val (.int (1 : Int32)), .unset] [(.int (1 : Int32))]))
    refine own_go (fun _ ww => XS.ifYes X101.here hx rfl (pc0 := 17) (pc' := 26) rfl (hb hby at_17) rfl (own_if .ne (feq (by decide : ¬ ((1 : Int32) = (0 : Int32)))).2) (by decide) (by decide) ww) ?_
    show own_Goes _ _ _ _ _ _ _ (T101.setTop (mkF m 26 #[.val (.int x0), .val (.int x1), .val (.int x2), .val (.int x3), .val (.int x4), .val (.int x5), .val (.ref b96), .val (.int (1 : Int32)), .unset] []))
    refine own_go (fun _ ww => XS.iload X101.here hx rfl (hb hby at_26) rfl  ww) ?_
    show own_Goes _ _ _ _ _ _ _ (T101.setTop (mkF m 28 #[.val (.int x0), .val (.int x1), .val (.int x2), .val (.int x3), .val (.int x4), .val (.int x5), .val (.ref b96), .val (.int (1 : Int32)), .unset] [(.int (1 : Int32))]))
    refine own_go (fun _ ww => XS.iconst X101.here hx rfl (hb hby at_28) ww) ?_
    show own_Goes _ _ _ _ _ _ _ (T101.setTop (mkF m 29 #[.val (.int x0), .val (.int x1), .val (.int x2), .val (.int x3), .val (.int x4), .val (.int x5), .val (.ref b96), .val (.int (1 : Int32)), .unset] [(.int (1 : Int32)), (.int (1 : Int32))]))
    refine own_go (fun _ ww => XS.icmpNo X101.here hx rfl (hb hby at_29) rfl (teq (by decide : (1 : Int32) = (1 : Int32))).2 ww) ?_
    show own_Goes _ _ _ _ _ _ _ (T101.setTop (mkF m 32 #[.val (.int x0), .val (.int x1), .val (.int x2), .val (.int x3), .val (.int x4), .val (.int x5), .val (.ref b96), .val (.int (1 : Int32)), .unset] []))
    refine own_go (fun _ ww => XS.aload X101.here hx rfl (hb hby at_32) rfl rfl ww) ?_
    show own_Goes _ _ _ _ _ _ _ (T101.setTop (mkF m 34 #[.val (.int x0), .val (.int x1), .val (.int x2), .val (.int x3), .val (.int x4), .val (.int x5), .val (.ref b96), .val (.int (1 : Int32)), .unset] [(.ref b96)]))
    refine own_go (fun _ ww => XS.iloadN X101.here hx rfl (hb hby at_34) rfl  ww) ?_
    show own_Goes _ _ _ _ _ _ _ (T101.setTop (mkF m 35 #[.val (.int x0), .val (.int x1), .val (.int x2), .val (.int x3), .val (.int x4), .val (.int x5), .val (.ref b96), .val (.int (1 : Int32)), .unset] [(.int x0), (.ref b96)]))
    refine own_go (fun _ ww => XS.iloadN X101.here hx rfl (hb hby at_35) rfl  ww) ?_
    show own_Goes _ _ _ _ _ _ _ (T101.setTop (mkF m 36 #[.val (.int x0), .val (.int x1), .val (.int x2), .val (.int x3), .val (.int x4), .val (.int x5), .val (.ref b96), .val (.int (1 : Int32)), .unset] [(.int x3), (.int x0), (.ref b96)]))
    refine own_go (fun _ ww => XS.iload X101.here hx rfl (hb hby at_36) rfl  ww) ?_
    show own_Goes _ _ _ _ _ _ _ (T101.setTop (mkF m 38 #[.val (.int x0), .val (.int x1), .val (.int x2), .val (.int x3), .val (.int x4), .val (.int x5), .val (.ref b96), .val (.int (1 : Int32)), .unset] [(.int x4), (.int x3), (.int x0), (.ref b96)]))
    refine own_go (fun _ ww => XS.iload X101.here hx rfl (hb hby at_38) rfl  ww) ?_
    show own_Goes _ _ _ _ _ _ _ (T101.setTop (mkF m 40 #[.val (.int x0), .val (.int x1), .val (.int x2), .val (.int x3), .val (.int x4), .val (.int x5), .val (.ref b96), .val (.int (1 : Int32)), .unset] [(.int x5), (.int x4), (.int x3), (.int x0), (.ref b96)]))
    refine own_go (fun _ ww => XS.iconst X101.here hx rfl (hb hby at_40) ww) ?_
    show own_Goes _ _ _ _ _ _ _ (T101.setTop (mkF m 41 #[.val (.int x0), .val (.int x1), .val (.int x2), .val (.int x3), .val (.int x4), .val (.int x5), .val (.ref b96), .val (.int (1 : Int32)), .unset] [(.int (2 : Int32)), (.int x5), (.int x4), (.int x3), (.int x0), (.ref b96)]))
    refine own_go (fun _ ww => XT.iushr X101.here hx rfl (hb hby at_41) rfl ww) ?_
    show own_Goes _ _ _ _ _ _ _ (T101.setTop (mkF m 42 #[.val (.int x0), .val (.int x1), .val (.int x2), .val (.int x3), .val (.int x4), .val (.int x5), .val (.ref b96), .val (.int (1 : Int32)), .unset] [(.int (XT.ushr x5 (2 : Int32))), (.int x4), (.int x3), (.int x0), (.ref b96)]))
    obtain ⟨_, _, ⟨T104, L104, k104, n104⟩, -, X104, ⟨Lc104, hQ104, l104, y104, z104⟩, st104⟩ := Jvm.LawKit.callS X101 hx (y := (⟨"com/example/role_rights/rolerights/decision/NearestMayCountPinLaw", "pick", "(I)Lcom/example/role_rights/rolerights/policy/Effect;"⟩ : MethodName)) hown (mvT hZ (hw _ (List.mem_of_getElem? (i := 16) rfl))) (mvT hZ (hw _ (List.mem_of_getElem? (i := 17) rfl))) (mvT hZ (hw _ (List.mem_of_getElem? (i := 18) rfl))) (mvT hZ (hw _ (List.mem_of_getElem? (i := 19) rfl))) (by decide) (backOf (W := 4) (rm_pick l Z a0 hw [] (XT.ushr x5 (2 : Int32)) aGRANT aDENY aFORBID T101.heap n0 O101 SGRANT SDENY SFORBID) hZ (hw _ (List.mem_of_getElem? (i := 19) rfl)) (hw _ (List.mem_of_getElem? (i := 18) rfl)) (by decide) (by decide)) (g := (mkF m 42 #[.val (.int x0), .val (.int x1), .val (.int x2), .val (.int x3), .val (.int x4), .val (.int x5), .val (.ref b96), .val (.int (1 : Int32)), .unset] [(.int (XT.ushr x5 (2 : Int32))), (.int x4), (.int x3), (.int x0), (.ref b96)])) rfl (by rw [hml]; rfl) (argsL := [(.int (XT.ushr x5 (2 : Int32)))]) (rest := [(.int x4), (.int x3), (.int x0), (.ref b96)]) (lenOf pd_5 rfl) rfl (by show 2 * 0 + _ ≤ _; exact Nat.le_of_eq rfl) (hb hby at_42) (fun _ _ => ⟨rfl, rfl, (by decide : 1 + 0 ≤ _), (by decide : 4 + 0 ≤ _)⟩)
    dsimp only [Pt.U, Pt.locs, Pt.cells, Pt.slots] at X104 l104 y104 z104 st104 hQ104
    subst l104 y104 z104
    obtain ⟨p104, rfl, N104q, e104⟩ := hQ104
    have N104 := Fr.app N101 N104q
    refine own_go st104 ?_
    show own_Goes _ _ _ _ _ _ _ (T104.setTop (mkF m 45 #[.val (.int x0), .val (.int x1), .val (.int x2), .val (.int x3), .val (.int x4), .val (.int x5), .val (.ref b96), .val (.int (1 : Int32)), .unset] [(.ref p104), (.int x4), (.int x3), (.int x0), (.ref b96)]))
    obtain ⟨cq105, kq105, q105a, q105b, q105c⟩ := isOf hZ e104 f102
    obtain ⟨_, _, ⟨T105, L105, k105, n105⟩, -, X105, ⟨Lc105, hQ105, l105, y105, z105⟩, st105⟩ := X104.virtualBack hx (y := (⟨"com/example/role_rights/rolerights/decision/Nearest", "add", "(IIILcom/example/role_rights/rolerights/policy/Effect;)V"⟩ : MethodName)) (z := (⟨"com/example/role_rights/rolerights/decision/Nearest", "add", "(IIILcom/example/role_rights/rolerights/policy/Effect;)V"⟩ : MethodName)) hown (mvT hZ (hw _ (List.mem_of_getElem? (i := 23) rfl))) (mvT hZ (hw _ (List.mem_of_getElem? (i := 24) rfl))) (notFace_of_selects (args := #[]) (mvT hZ (hw _ (List.mem_of_getElem? (i := 26) rfl)))) (mvT hZ (hw _ (List.mem_of_getElem? (i := 26) rfl))) (mvT hZ (hw _ (List.mem_of_getElem? (i := 25) rfl))) (by decide) (backOf (W := 0) (rm_add l Z a0 hw [] b96 x0 x3 x4 p104 (2147483647 : Int32) (2147483647 : Int32) (2147483647 : Int32) .null aDENY x0 T101.heap n0 O101 P101 Q101 R101 U101 f102 g_b96 rfl SDENY (fun _ => rfl) own_mx) hZ (hw _ (List.mem_of_getElem? (i := 27) rfl)) (hw _ (List.mem_of_getElem? (i := 2) rfl)) (by decide) (by decide)) q105a q105c (g := (mkF m 45 #[.val (.int x0), .val (.int x1), .val (.int x2), .val (.int x3), .val (.int x4), .val (.int x5), .val (.ref b96), .val (.int (1 : Int32)), .unset] [(.ref p104), (.int x4), (.int x3), (.int x0), (.ref b96)])) rfl (by rw [hml]; rfl) (Steps.refl _) (argsL := [(.int x0), (.int x3), (.int x4), (.ref p104)]) (rest := []) (lenOf pd_6 rfl) rfl (by show 2 * 0 + _ ≤ _; exact Nat.le_of_eq rfl) (hb hby at_45) (fun _ _ => ⟨rfl, e104, (by decide : 1 + 0 ≤ _), (by decide : 4 + 0 ≤ _)⟩)
    dsimp only [Pt.U, Pt.locs, Pt.cells, Pt.slots] at X105 l105 y105 z105 st105 hQ105
    subst l105 y105 z105
    obtain ⟨s105a, s105b, t105, rfl, N105q, i105, K105q, P105, Q105, R105, U105⟩ := hQ105
    have N105 := Fr.app N104 N105q
    have f106 : Exa Z T105.heap b96 "com/example/role_rights/rolerights/decision/Nearest" := (f102.keep K105q)
    have O105 := O101.keep K105q (allS g_b96 all0)
    refine own_go (fun _ ww => Steps.trans st105 ww) ?_
    show own_Goes _ _ _ _ _ _ _ (T105.setTop (mkF m 48 #[.val (.int x0), .val (.int x1), .val (.int x2), .val (.int x3), .val (.int x4), .val (.int x5), .val (.ref b96), .val (.int (1 : Int32)), .unset] []))
    refine own_go (fun _ ww => XS.iloadN X105.here hx rfl (hb hby at_48) rfl  ww) ?_
    show own_Goes _ _ _ _ _ _ _ (T105.setTop (mkF m 49 #[.val (.int x0), .val (.int x1), .val (.int x2), .val (.int x3), .val (.int x4), .val (.int x5), .val (.ref b96), .val (.int (1 : Int32)), .unset] [(.int x2)]))
    refine own_go (fun _ ww => XS.iloadN X105.here hx rfl (hb hby at_49) rfl  ww) ?_
    show own_Goes _ _ _ _ _ _ _ (T105.setTop (mkF m 50 #[.val (.int x0), .val (.int x1), .val (.int x2), .val (.int x3), .val (.int x4), .val (.int x5), .val (.ref b96), .val (.int (1 : Int32)), .unset] [(.int x0), (.int x2)]))
    by_cases hc107 : x0 < x2
    ·
      refine own_go (fun _ ww => XS.icmpYes X105.here hx rfl (pc0 := 50) (pc' := 57) rfl (hb hby at_50) rfl (tlt hc107).2.2.1 (by decide) (by decide) ww) ?_
      show own_Goes _ _ _ _ _ _ _ (T105.setTop (mkF m 57 #[.val (.int x0), .val (.int x1), .val (.int x2), .val (.int x3), .val (.int x4), .val (.int x5), .val (.ref b96), .val (.int (1 : Int32)), .unset] []))
      refine own_go (fun _ ww => XS.iconst X105.here hx rfl (hb hby at_57) ww) ?_
      show own_Goes _ _ _ _ _ _ _ (T105.setTop (mkF m 58 #[.val (.int x0), .val (.int x1), .val (.int x2), .val (.int x3), .val (.int x4), .val (.int x5), .val (.ref b96), .val (.int (1 : Int32)), .unset] [(.int (0 : Int32))]))
      refine own_go (fun _ ww => XS.istore X105.here hx rfl (hb hby at_58) rfl (l' := #[.val (.int x0), .val (.int x1), .val (.int x2), .val (.int x3), .val (.int x4), .val (.int x5), .val (.ref b96), .val (.int (1 : Int32)), .val (.int (0 : Int32))]) rfl ww) ?_
      show own_Goes _ _ _ _ _ _ _ (T105.setTop (mkF m 60 #[.val (.int x0), .val (.int x1), .val (.int x2), .val (.int x3), .val (.int x4), .val (.int x5), .val (.ref b96), .val (.int (1 : Int32)), .val (.int (0 : Int32))] []))
      refine own_go (fun _ ww => XS.goto X105.here hx rfl (pc0 := 60) (pc' := 164) rfl (hb hby at_60) (by decide) (by decide) ww) ?_
      show own_Goes _ _ _ _ _ _ _ (T105.setTop (mkF m 164 #[.val (.int x0), .val (.int x1), .val (.int x2), .val (.int x3), .val (.int x4), .val (.int x5), .val (.ref b96), .val (.int (1 : Int32)), .val (.int (0 : Int32))] []))
      refine own_go (fun _ ww => XS.aload X105.here hx rfl (hb hby at_164) rfl rfl ww) ?_
      show own_Goes _ _ _ _ _ _ _ (T105.setTop (mkF m 166 #[.val (.int x0), .val (.int x1), .val (.int x2), .val (.int x3), .val (.int x4), .val (.int x5), .val (.ref b96), .val (.int (1 : Int32)), .val (.int (0 : Int32))] [(.ref b96)]))
      refine own_go (fun _ ww => XS.iloadN X105.here hx rfl (hb hby at_166) rfl  ww) ?_
      show own_Goes _ _ _ _ _ _ _ (T105.setTop (mkF m 167 #[.val (.int x0), .val (.int x1), .val (.int x2), .val (.int x3), .val (.int x4), .val (.int x5), .val (.ref b96), .val (.int (1 : Int32)), .val (.int (0 : Int32))] [(.int x2), (.ref b96)]))
      obtain ⟨cq108, kq108, q108a, q108b, q108c⟩ := isOf hZ rfl f106
      obtain ⟨_, _, ⟨T108, L108, k108, n108⟩, -, X108, ⟨Lc108, hQ108, l108, y108, z108⟩, st108⟩ := X105.virtualBack hx (y := (⟨"com/example/role_rights/rolerights/decision/Nearest", "mayCount", "(I)Z"⟩ : MethodName)) (z := (⟨"com/example/role_rights/rolerights/decision/Nearest", "mayCount", "(I)Z"⟩ : MethodName)) hown (mvT hZ (hw _ (List.mem_of_getElem? (i := 38) rfl))) (mvT hZ (hw _ (List.mem_of_getElem? (i := 39) rfl))) (notFace_of_selects (args := #[]) (mvT hZ (hw _ (List.mem_of_getElem? (i := 41) rfl)))) (mvT hZ (hw _ (List.mem_of_getElem? (i := 41) rfl))) (mvT hZ (hw _ (List.mem_of_getElem? (i := 40) rfl))) (by decide) (backOf (W := 0) (rm_may l Z a0 hw [] b96 x2 x0 (0 : Int32) T105.heap n0 O105 Q105 (fun _ => rfl) (fun q => absurd hc107 q)) hZ (hw _ (List.mem_of_getElem? (i := 42) rfl)) (hw _ (List.mem_of_getElem? (i := 2) rfl)) (by decide) (by decide)) q108a q108c (g := (mkF m 167 #[.val (.int x0), .val (.int x1), .val (.int x2), .val (.int x3), .val (.int x4), .val (.int x5), .val (.ref b96), .val (.int (1 : Int32)), .val (.int (0 : Int32))] [(.int x2), (.ref b96)])) rfl (by rw [hml]; rfl) (Steps.refl _) (argsL := [(.int x2)]) (rest := []) (lenOf pd_4 rfl) rfl (by show 2 * 0 + _ ≤ _; exact Nat.le_of_eq rfl) (hb hby at_167) (fun _ _ => ⟨rfl, rfl, (by decide : 1 + 0 ≤ _), (by decide : 4 + 0 ≤ _)⟩)
      dsimp only [Pt.U, Pt.locs, Pt.cells, Pt.slots] at X108 l108 y108 z108 st108 hQ108
      subst l108 y108 z108
      obtain ⟨rfl, N108q, e108⟩ := hQ108
      have N108 := Fr.app N105 N108q
      refine own_go (fun _ ww => Steps.trans st108 ww) ?_
      show own_Goes _ _ _ _ _ _ _ (T108.setTop (mkF m 170 #[.val (.int x0), .val (.int x1), .val (.int x2), .val (.int x3), .val (.int x4), .val (.int x5), .val (.ref b96), .val (.int (1 : Int32)), .val (.int (0 : Int32))] [(.int (0 : Int32))]))
      refine own_go (fun _ ww => XS.iload X108.here hx rfl (hb hby at_170) rfl  ww) ?_
      show own_Goes _ _ _ _ _ _ _ (T108.setTop (mkF m 172 #[.val (.int x0), .val (.int x1), .val (.int x2), .val (.int x3), .val (.int x4), .val (.int x5), .val (.ref b96), .val (.int (1 : Int32)), .val (.int (0 : Int32))] [(.int (0 : Int32)), (.int (0 : Int32))]))
      refine own_go (fun _ ww => XS.icmpNo X108.here hx rfl (hb hby at_172) rfl (teq (by decide : (0 : Int32) = (0 : Int32))).2 ww) ?_
      show own_Goes _ _ _ _ _ _ _ (T108.setTop (mkF m 175 #[.val (.int x0), .val (.int x1), .val (.int x2), .val (.int x3), .val (.int x4), .val (.int x5), .val (.ref b96), .val (.int (1 : Int32)), .val (.int (0 : Int32))] []))
      refine own_go (fun _ ww => XS.iconst X108.here hx rfl (hb hby at_175) ww) ?_
      show own_Goes _ _ _ _ _ _ _ (T108.setTop (mkF m 176 #[.val (.int x0), .val (.int x1), .val (.int x2), .val (.int x3), .val (.int x4), .val (.int x5), .val (.ref b96), .val (.int (1 : Int32)), .val (.int (0 : Int32))] [(.int (1 : Int32))]))
      refine own_go (fun _ ww => XS.goto X108.here hx rfl (pc0 := 176) (pc' := 180) rfl (hb hby at_176) (by decide) (by decide) ww) ?_
      show own_Goes _ _ _ _ _ _ _ (T108.setTop (mkF m 180 #[.val (.int x0), .val (.int x1), .val (.int x2), .val (.int x3), .val (.int x4), .val (.int x5), .val (.ref b96), .val (.int (1 : Int32)), .val (.int (0 : Int32))] [(.int (1 : Int32))]))
      exact own_out X108 hlk (v := some (.int (1 : Int32))) (fun h => by rw [hret] at h; cases h) (fun fs hr => retOut X108 hx (t := .boolean) hret (by decide) (Or.inl ⟨rfl, by simp, _, rfl⟩) (hb hby at_180) hr) e108 ⟨rfl, N108⟩ (by decide) (by decide)
    ·
      refine own_go (fun _ ww => XS.icmpNo X105.here hx rfl (hb hby at_50) rfl (flt hc107).2.2.1 ww) ?_
      show own_Goes _ _ _ _ _ _ _ (T105.setTop (mkF m 53 #[.val (.int x0), .val (.int x1), .val (.int x2), .val (.int x3), .val (.int x4), .val (.int x5), .val (.ref b96), .val (.int (1 : Int32)), .unset] []))
      refine own_go (fun _ ww => XS.iconst X105.here hx rfl (hb hby at_53) ww) ?_
      show own_Goes _ _ _ _ _ _ _ (T105.setTop (mkF m 54 #[.val (.int x0), .val (.int x1), .val (.int x2), .val (.int x3), .val (.int x4), .val (.int x5), .val (.ref b96), .val (.int (1 : Int32)), .unset] [(.int (1 : Int32))]))
      refine own_go (fun _ ww => XS.goto X105.here hx rfl (pc0 := 54) (pc' := 58) rfl (hb hby at_54) (by decide) (by decide) ww) ?_
      show own_Goes _ _ _ _ _ _ _ (T105.setTop (mkF m 58 #[.val (.int x0), .val (.int x1), .val (.int x2), .val (.int x3), .val (.int x4), .val (.int x5), .val (.ref b96), .val (.int (1 : Int32)), .unset] [(.int (1 : Int32))]))
      refine own_go (fun _ ww => XS.istore X105.here hx rfl (hb hby at_58) rfl (l' := #[.val (.int x0), .val (.int x1), .val (.int x2), .val (.int x3), .val (.int x4), .val (.int x5), .val (.ref b96), .val (.int (1 : Int32)), .val (.int (1 : Int32))]) rfl ww) ?_
      show own_Goes _ _ _ _ _ _ _ (T105.setTop (mkF m 60 #[.val (.int x0), .val (.int x1), .val (.int x2), .val (.int x3), .val (.int x4), .val (.int x5), .val (.ref b96), .val (.int (1 : Int32)), .val (.int (1 : Int32))] []))
      refine own_go (fun _ ww => XS.goto X105.here hx rfl (pc0 := 60) (pc' := 164) rfl (hb hby at_60) (by decide) (by decide) ww) ?_
      show own_Goes _ _ _ _ _ _ _ (T105.setTop (mkF m 164 #[.val (.int x0), .val (.int x1), .val (.int x2), .val (.int x3), .val (.int x4), .val (.int x5), .val (.ref b96), .val (.int (1 : Int32)), .val (.int (1 : Int32))] []))
      refine own_go (fun _ ww => XS.aload X105.here hx rfl (hb hby at_164) rfl rfl ww) ?_
      show own_Goes _ _ _ _ _ _ _ (T105.setTop (mkF m 166 #[.val (.int x0), .val (.int x1), .val (.int x2), .val (.int x3), .val (.int x4), .val (.int x5), .val (.ref b96), .val (.int (1 : Int32)), .val (.int (1 : Int32))] [(.ref b96)]))
      refine own_go (fun _ ww => XS.iloadN X105.here hx rfl (hb hby at_166) rfl  ww) ?_
      show own_Goes _ _ _ _ _ _ _ (T105.setTop (mkF m 167 #[.val (.int x0), .val (.int x1), .val (.int x2), .val (.int x3), .val (.int x4), .val (.int x5), .val (.ref b96), .val (.int (1 : Int32)), .val (.int (1 : Int32))] [(.int x2), (.ref b96)]))
      obtain ⟨cq109, kq109, q109a, q109b, q109c⟩ := isOf hZ rfl f106
      obtain ⟨_, _, ⟨T109, L109, k109, n109⟩, -, X109, ⟨Lc109, hQ109, l109, y109, z109⟩, st109⟩ := X105.virtualBack hx (y := (⟨"com/example/role_rights/rolerights/decision/Nearest", "mayCount", "(I)Z"⟩ : MethodName)) (z := (⟨"com/example/role_rights/rolerights/decision/Nearest", "mayCount", "(I)Z"⟩ : MethodName)) hown (mvT hZ (hw _ (List.mem_of_getElem? (i := 38) rfl))) (mvT hZ (hw _ (List.mem_of_getElem? (i := 39) rfl))) (notFace_of_selects (args := #[]) (mvT hZ (hw _ (List.mem_of_getElem? (i := 41) rfl)))) (mvT hZ (hw _ (List.mem_of_getElem? (i := 41) rfl))) (mvT hZ (hw _ (List.mem_of_getElem? (i := 40) rfl))) (by decide) (backOf (W := 0) (rm_may l Z a0 hw [] b96 x2 x0 (1 : Int32) T105.heap n0 O105 Q105 (fun q => absurd q hc107) (fun _ => rfl)) hZ (hw _ (List.mem_of_getElem? (i := 42) rfl)) (hw _ (List.mem_of_getElem? (i := 2) rfl)) (by decide) (by decide)) q109a q109c (g := (mkF m 167 #[.val (.int x0), .val (.int x1), .val (.int x2), .val (.int x3), .val (.int x4), .val (.int x5), .val (.ref b96), .val (.int (1 : Int32)), .val (.int (1 : Int32))] [(.int x2), (.ref b96)])) rfl (by rw [hml]; rfl) (Steps.refl _) (argsL := [(.int x2)]) (rest := []) (lenOf pd_4 rfl) rfl (by show 2 * 0 + _ ≤ _; exact Nat.le_of_eq rfl) (hb hby at_167) (fun _ _ => ⟨rfl, rfl, (by decide : 1 + 0 ≤ _), (by decide : 4 + 0 ≤ _)⟩)
      dsimp only [Pt.U, Pt.locs, Pt.cells, Pt.slots] at X109 l109 y109 z109 st109 hQ109
      subst l109 y109 z109
      obtain ⟨rfl, N109q, e109⟩ := hQ109
      have N109 := Fr.app N105 N109q
      refine own_go (fun _ ww => Steps.trans st109 ww) ?_
      show own_Goes _ _ _ _ _ _ _ (T109.setTop (mkF m 170 #[.val (.int x0), .val (.int x1), .val (.int x2), .val (.int x3), .val (.int x4), .val (.int x5), .val (.ref b96), .val (.int (1 : Int32)), .val (.int (1 : Int32))] [(.int (1 : Int32))]))
      refine own_go (fun _ ww => XS.iload X109.here hx rfl (hb hby at_170) rfl  ww) ?_
      show own_Goes _ _ _ _ _ _ _ (T109.setTop (mkF m 172 #[.val (.int x0), .val (.int x1), .val (.int x2), .val (.int x3), .val (.int x4), .val (.int x5), .val (.ref b96), .val (.int (1 : Int32)), .val (.int (1 : Int32))] [(.int (1 : Int32)), (.int (1 : Int32))]))
      refine own_go (fun _ ww => XS.icmpNo X109.here hx rfl (hb hby at_172) rfl (teq (by decide : (1 : Int32) = (1 : Int32))).2 ww) ?_
      show own_Goes _ _ _ _ _ _ _ (T109.setTop (mkF m 175 #[.val (.int x0), .val (.int x1), .val (.int x2), .val (.int x3), .val (.int x4), .val (.int x5), .val (.ref b96), .val (.int (1 : Int32)), .val (.int (1 : Int32))] []))
      refine own_go (fun _ ww => XS.iconst X109.here hx rfl (hb hby at_175) ww) ?_
      show own_Goes _ _ _ _ _ _ _ (T109.setTop (mkF m 176 #[.val (.int x0), .val (.int x1), .val (.int x2), .val (.int x3), .val (.int x4), .val (.int x5), .val (.ref b96), .val (.int (1 : Int32)), .val (.int (1 : Int32))] [(.int (1 : Int32))]))
      refine own_go (fun _ ww => XS.goto X109.here hx rfl (pc0 := 176) (pc' := 180) rfl (hb hby at_176) (by decide) (by decide) ww) ?_
      show own_Goes _ _ _ _ _ _ _ (T109.setTop (mkF m 180 #[.val (.int x0), .val (.int x1), .val (.int x2), .val (.int x3), .val (.int x4), .val (.int x5), .val (.ref b96), .val (.int (1 : Int32)), .val (.int (1 : Int32))] [(.int (1 : Int32))]))
      exact own_out X109 hlk (v := some (.int (1 : Int32))) (fun h => by rw [hret] at h; cases h) (fun fs hr => retOut X109 hx (t := .boolean) hret (by decide) (Or.inl ⟨rfl, by simp, _, rfl⟩) (hb hby at_180) hr) e109 ⟨rfl, N109⟩ (by decide) (by decide)
  ·
    rw [hk]
    show own_Goes _ _ _ _ _ _ _ (T101.setTop (mkF m 13 #[.val (.int x0), .val (.int x1), .val (.int x2), .val (.int x3), .val (.int x4), .val (.int x5), .val (.ref b96), .unset, .unset] [(.int (2 : Int32))]))
    refine own_go (fun _ ww => XS.istore X101.here hx rfl (hb hby at_13) rfl (l' := #[.val (.int x0), .val (.int x1), .val (.int x2), .val (.int x3), .val (.int x4), .val (.int x5), .val (.ref b96), .val (.int (2 : Int32)), .unset]) rfl ww) ?_
    show own_Goes _ _ _ _ _ _ _ (T101.setTop (mkF m 15 #[.val (.int x0), .val (.int x1), .val (.int x2), .val (.int x3), .val (.int x4), .val (.int x5), .val (.ref b96), .val (.int (2 : Int32)), .unset] []))
    refine own_go (fun _ ww => XS.iload X101.here hx rfl (hb hby at_15) rfl  ww) ?_
    show own_Goes _ _ _ _ _ _ _ (T101.setTop (mkF m 17 #[.val (.int x0), .val (.int x1), .val (.int x2), .val (.int x3), .val (.int x4), .val (.int x5), .val (.ref b96), .val (.int (2 : Int32)), .unset] [(.int (2 : Int32))]))
    refine own_go (fun _ ww => XS.ifYes X101.here hx rfl (pc0 := 17) (pc' := 26) rfl (hb hby at_17) rfl (own_if .ne (feq (by decide : ¬ ((2 : Int32) = (0 : Int32)))).2) (by decide) (by decide) ww) ?_
    show own_Goes _ _ _ _ _ _ _ (T101.setTop (mkF m 26 #[.val (.int x0), .val (.int x1), .val (.int x2), .val (.int x3), .val (.int x4), .val (.int x5), .val (.ref b96), .val (.int (2 : Int32)), .unset] []))
    refine own_go (fun _ ww => XS.iload X101.here hx rfl (hb hby at_26) rfl  ww) ?_
    show own_Goes _ _ _ _ _ _ _ (T101.setTop (mkF m 28 #[.val (.int x0), .val (.int x1), .val (.int x2), .val (.int x3), .val (.int x4), .val (.int x5), .val (.ref b96), .val (.int (2 : Int32)), .unset] [(.int (2 : Int32))]))
    refine own_go (fun _ ww => XS.iconst X101.here hx rfl (hb hby at_28) ww) ?_
    show own_Goes _ _ _ _ _ _ _ (T101.setTop (mkF m 29 #[.val (.int x0), .val (.int x1), .val (.int x2), .val (.int x3), .val (.int x4), .val (.int x5), .val (.ref b96), .val (.int (2 : Int32)), .unset] [(.int (1 : Int32)), (.int (2 : Int32))]))
    refine own_go (fun _ ww => XS.icmpYes X101.here hx rfl (pc0 := 29) (pc' := 63) rfl (hb hby at_29) rfl (feq (by decide : ¬ ((2 : Int32) = (1 : Int32)))).2 (by decide) (by decide) ww) ?_
    show own_Goes _ _ _ _ _ _ _ (T101.setTop (mkF m 63 #[.val (.int x0), .val (.int x1), .val (.int x2), .val (.int x3), .val (.int x4), .val (.int x5), .val (.ref b96), .val (.int (2 : Int32)), .unset] []))
    refine own_go (fun _ ww => XS.iload X101.here hx rfl (hb hby at_63) rfl  ww) ?_
    show own_Goes _ _ _ _ _ _ _ (T101.setTop (mkF m 65 #[.val (.int x0), .val (.int x1), .val (.int x2), .val (.int x3), .val (.int x4), .val (.int x5), .val (.ref b96), .val (.int (2 : Int32)), .unset] [(.int (2 : Int32))]))
    refine own_go (fun _ ww => XS.iconst X101.here hx rfl (hb hby at_65) ww) ?_
    show own_Goes _ _ _ _ _ _ _ (T101.setTop (mkF m 66 #[.val (.int x0), .val (.int x1), .val (.int x2), .val (.int x3), .val (.int x4), .val (.int x5), .val (.ref b96), .val (.int (2 : Int32)), .unset] [(.int (2 : Int32)), (.int (2 : Int32))]))
    refine own_go (fun _ ww => XS.icmpNo X101.here hx rfl (hb hby at_66) rfl (teq (by decide : (2 : Int32) = (2 : Int32))).2 ww) ?_
    show own_Goes _ _ _ _ _ _ _ (T101.setTop (mkF m 69 #[.val (.int x0), .val (.int x1), .val (.int x2), .val (.int x3), .val (.int x4), .val (.int x5), .val (.ref b96), .val (.int (2 : Int32)), .unset] []))
    obtain ⟨mm, mA, mB, mC⟩ := own_min x0 x1
    refine own_go (fun _ ww => XS.aload X101.here hx rfl (hb hby at_69) rfl rfl ww) ?_
    show own_Goes _ _ _ _ _ _ _ (T101.setTop (mkF m 71 #[.val (.int x0), .val (.int x1), .val (.int x2), .val (.int x3), .val (.int x4), .val (.int x5), .val (.ref b96), .val (.int (2 : Int32)), .unset] [(.ref b96)]))
    refine own_go (fun _ ww => XS.iloadN X101.here hx rfl (hb hby at_71) rfl  ww) ?_
    show own_Goes _ _ _ _ _ _ _ (T101.setTop (mkF m 72 #[.val (.int x0), .val (.int x1), .val (.int x2), .val (.int x3), .val (.int x4), .val (.int x5), .val (.ref b96), .val (.int (2 : Int32)), .unset] [(.int x0), (.ref b96)]))
    refine own_go (fun _ ww => XS.iloadN X101.here hx rfl (hb hby at_72) rfl  ww) ?_
    show own_Goes _ _ _ _ _ _ _ (T101.setTop (mkF m 73 #[.val (.int x0), .val (.int x1), .val (.int x2), .val (.int x3), .val (.int x4), .val (.int x5), .val (.ref b96), .val (.int (2 : Int32)), .unset] [(.int x3), (.int x0), (.ref b96)]))
    refine own_go (fun _ ww => XS.iload X101.here hx rfl (hb hby at_73) rfl  ww) ?_
    show own_Goes _ _ _ _ _ _ _ (T101.setTop (mkF m 75 #[.val (.int x0), .val (.int x1), .val (.int x2), .val (.int x3), .val (.int x4), .val (.int x5), .val (.ref b96), .val (.int (2 : Int32)), .unset] [(.int x4), (.int x3), (.int x0), (.ref b96)]))
    refine own_go (fun _ ww => XS.iload X101.here hx rfl (hb hby at_75) rfl  ww) ?_
    show own_Goes _ _ _ _ _ _ _ (T101.setTop (mkF m 77 #[.val (.int x0), .val (.int x1), .val (.int x2), .val (.int x3), .val (.int x4), .val (.int x5), .val (.ref b96), .val (.int (2 : Int32)), .unset] [(.int x5), (.int x4), (.int x3), (.int x0), (.ref b96)]))
    refine own_go (fun _ ww => XS.iconst X101.here hx rfl (hb hby at_77) ww) ?_
    show own_Goes _ _ _ _ _ _ _ (T101.setTop (mkF m 78 #[.val (.int x0), .val (.int x1), .val (.int x2), .val (.int x3), .val (.int x4), .val (.int x5), .val (.ref b96), .val (.int (2 : Int32)), .unset] [(.int (2 : Int32)), (.int x5), (.int x4), (.int x3), (.int x0), (.ref b96)]))
    refine own_go (fun _ ww => XT.iushr X101.here hx rfl (hb hby at_78) rfl ww) ?_
    show own_Goes _ _ _ _ _ _ _ (T101.setTop (mkF m 79 #[.val (.int x0), .val (.int x1), .val (.int x2), .val (.int x3), .val (.int x4), .val (.int x5), .val (.ref b96), .val (.int (2 : Int32)), .unset] [(.int (XT.ushr x5 (2 : Int32))), (.int x4), (.int x3), (.int x0), (.ref b96)]))
    obtain ⟨_, _, ⟨T110, L110, k110, n110⟩, -, X110, ⟨Lc110, hQ110, l110, y110, z110⟩, st110⟩ := Jvm.LawKit.callS X101 hx (y := (⟨"com/example/role_rights/rolerights/decision/NearestMayCountPinLaw", "pick", "(I)Lcom/example/role_rights/rolerights/policy/Effect;"⟩ : MethodName)) hown (mvT hZ (hw _ (List.mem_of_getElem? (i := 16) rfl))) (mvT hZ (hw _ (List.mem_of_getElem? (i := 17) rfl))) (mvT hZ (hw _ (List.mem_of_getElem? (i := 18) rfl))) (mvT hZ (hw _ (List.mem_of_getElem? (i := 19) rfl))) (by decide) (backOf (W := 4) (rm_pick l Z a0 hw [] (XT.ushr x5 (2 : Int32)) aGRANT aDENY aFORBID T101.heap n0 O101 SGRANT SDENY SFORBID) hZ (hw _ (List.mem_of_getElem? (i := 19) rfl)) (hw _ (List.mem_of_getElem? (i := 18) rfl)) (by decide) (by decide)) (g := (mkF m 79 #[.val (.int x0), .val (.int x1), .val (.int x2), .val (.int x3), .val (.int x4), .val (.int x5), .val (.ref b96), .val (.int (2 : Int32)), .unset] [(.int (XT.ushr x5 (2 : Int32))), (.int x4), (.int x3), (.int x0), (.ref b96)])) rfl (by rw [hml]; rfl) (argsL := [(.int (XT.ushr x5 (2 : Int32)))]) (rest := [(.int x4), (.int x3), (.int x0), (.ref b96)]) (lenOf pd_5 rfl) rfl (by show 2 * 0 + _ ≤ _; exact Nat.le_of_eq rfl) (hb hby at_79) (fun _ _ => ⟨rfl, rfl, (by decide : 1 + 0 ≤ _), (by decide : 4 + 0 ≤ _)⟩)
    dsimp only [Pt.U, Pt.locs, Pt.cells, Pt.slots] at X110 l110 y110 z110 st110 hQ110
    subst l110 y110 z110
    obtain ⟨p110, rfl, N110q, e110⟩ := hQ110
    have N110 := Fr.app N101 N110q
    refine own_go st110 ?_
    show own_Goes _ _ _ _ _ _ _ (T110.setTop (mkF m 82 #[.val (.int x0), .val (.int x1), .val (.int x2), .val (.int x3), .val (.int x4), .val (.int x5), .val (.ref b96), .val (.int (2 : Int32)), .unset] [(.ref p110), (.int x4), (.int x3), (.int x0), (.ref b96)]))
    obtain ⟨cq111, kq111, q111a, q111b, q111c⟩ := isOf hZ e110 f102
    obtain ⟨_, _, ⟨T111, L111, k111, n111⟩, -, X111, ⟨Lc111, hQ111, l111, y111, z111⟩, st111⟩ := X110.virtualBack hx (y := (⟨"com/example/role_rights/rolerights/decision/Nearest", "add", "(IIILcom/example/role_rights/rolerights/policy/Effect;)V"⟩ : MethodName)) (z := (⟨"com/example/role_rights/rolerights/decision/Nearest", "add", "(IIILcom/example/role_rights/rolerights/policy/Effect;)V"⟩ : MethodName)) hown (mvT hZ (hw _ (List.mem_of_getElem? (i := 23) rfl))) (mvT hZ (hw _ (List.mem_of_getElem? (i := 24) rfl))) (notFace_of_selects (args := #[]) (mvT hZ (hw _ (List.mem_of_getElem? (i := 26) rfl)))) (mvT hZ (hw _ (List.mem_of_getElem? (i := 26) rfl))) (mvT hZ (hw _ (List.mem_of_getElem? (i := 25) rfl))) (by decide) (backOf (W := 0) (rm_add l Z a0 hw [] b96 x0 x3 x4 p110 (2147483647 : Int32) (2147483647 : Int32) (2147483647 : Int32) .null aDENY x0 T101.heap n0 O101 P101 Q101 R101 U101 f102 g_b96 rfl SDENY (fun _ => rfl) own_mx) hZ (hw _ (List.mem_of_getElem? (i := 27) rfl)) (hw _ (List.mem_of_getElem? (i := 2) rfl)) (by decide) (by decide)) q111a q111c (g := (mkF m 82 #[.val (.int x0), .val (.int x1), .val (.int x2), .val (.int x3), .val (.int x4), .val (.int x5), .val (.ref b96), .val (.int (2 : Int32)), .unset] [(.ref p110), (.int x4), (.int x3), (.int x0), (.ref b96)])) rfl (by rw [hml]; rfl) (Steps.refl _) (argsL := [(.int x0), (.int x3), (.int x4), (.ref p110)]) (rest := []) (lenOf pd_6 rfl) rfl (by show 2 * 0 + _ ≤ _; exact Nat.le_of_eq rfl) (hb hby at_82) (fun _ _ => ⟨rfl, e110, (by decide : 1 + 0 ≤ _), (by decide : 4 + 0 ≤ _)⟩)
    dsimp only [Pt.U, Pt.locs, Pt.cells, Pt.slots] at X111 l111 y111 z111 st111 hQ111
    subst l111 y111 z111
    obtain ⟨s111a, s111b, t111, rfl, N111q, i111, K111q, P111, Q111, R111, U111⟩ := hQ111
    have N111 := Fr.app N110 N111q
    have f112 : Exa Z T111.heap b96 "com/example/role_rights/rolerights/decision/Nearest" := (f102.keep K111q)
    have O111 := O101.keep K111q (allS g_b96 all0)
    refine own_go (fun _ ww => Steps.trans st111 ww) ?_
    show own_Goes _ _ _ _ _ _ _ (T111.setTop (mkF m 85 #[.val (.int x0), .val (.int x1), .val (.int x2), .val (.int x3), .val (.int x4), .val (.int x5), .val (.ref b96), .val (.int (2 : Int32)), .unset] []))
    refine own_go (fun _ ww => XS.aload X111.here hx rfl (hb hby at_85) rfl rfl ww) ?_
    show own_Goes _ _ _ _ _ _ _ (T111.setTop (mkF m 87 #[.val (.int x0), .val (.int x1), .val (.int x2), .val (.int x3), .val (.int x4), .val (.int x5), .val (.ref b96), .val (.int (2 : Int32)), .unset] [(.ref b96)]))
    refine own_go (fun _ ww => XS.iloadN X111.here hx rfl (hb hby at_87) rfl  ww) ?_
    show own_Goes _ _ _ _ _ _ _ (T111.setTop (mkF m 88 #[.val (.int x0), .val (.int x1), .val (.int x2), .val (.int x3), .val (.int x4), .val (.int x5), .val (.ref b96), .val (.int (2 : Int32)), .unset] [(.int x1), (.ref b96)]))
    refine own_go (fun _ ww => XS.iload X111.here hx rfl (hb hby at_88) rfl  ww) ?_
    show own_Goes _ _ _ _ _ _ _ (T111.setTop (mkF m 90 #[.val (.int x0), .val (.int x1), .val (.int x2), .val (.int x3), .val (.int x4), .val (.int x5), .val (.ref b96), .val (.int (2 : Int32)), .unset] [(.int x4), (.int x1), (.ref b96)]))
    refine own_go (fun _ ww => XS.iloadN X111.here hx rfl (hb hby at_90) rfl  ww) ?_
    show own_Goes _ _ _ _ _ _ _ (T111.setTop (mkF m 91 #[.val (.int x0), .val (.int x1), .val (.int x2), .val (.int x3), .val (.int x4), .val (.int x5), .val (.ref b96), .val (.int (2 : Int32)), .unset] [(.int x3), (.int x4), (.int x1), (.ref b96)]))
    refine own_go (fun _ ww => XS.iload X111.here hx rfl (hb hby at_91) rfl  ww) ?_
    show own_Goes _ _ _ _ _ _ _ (T111.setTop (mkF m 93 #[.val (.int x0), .val (.int x1), .val (.int x2), .val (.int x3), .val (.int x4), .val (.int x5), .val (.ref b96), .val (.int (2 : Int32)), .unset] [(.int x5), (.int x3), (.int x4), (.int x1), (.ref b96)]))
    refine own_go (fun _ ww => XS.iconst X111.here hx rfl (hb hby at_93) ww) ?_
    show own_Goes _ _ _ _ _ _ _ (T111.setTop (mkF m 94 #[.val (.int x0), .val (.int x1), .val (.int x2), .val (.int x3), .val (.int x4), .val (.int x5), .val (.ref b96), .val (.int (2 : Int32)), .unset] [(.int (4 : Int32)), (.int x5), (.int x3), (.int x4), (.int x1), (.ref b96)]))
    refine own_go (fun _ ww => XT.iushr X111.here hx rfl (hb hby at_94) rfl ww) ?_
    show own_Goes _ _ _ _ _ _ _ (T111.setTop (mkF m 95 #[.val (.int x0), .val (.int x1), .val (.int x2), .val (.int x3), .val (.int x4), .val (.int x5), .val (.ref b96), .val (.int (2 : Int32)), .unset] [(.int (XT.ushr x5 (4 : Int32))), (.int x3), (.int x4), (.int x1), (.ref b96)]))
    obtain ⟨_, _, ⟨T113, L113, k113, n113⟩, -, X113, ⟨Lc113, hQ113, l113, y113, z113⟩, st113⟩ := Jvm.LawKit.callS X111 hx (y := (⟨"com/example/role_rights/rolerights/decision/NearestMayCountPinLaw", "pick", "(I)Lcom/example/role_rights/rolerights/policy/Effect;"⟩ : MethodName)) hown (mvT hZ (hw _ (List.mem_of_getElem? (i := 16) rfl))) (mvT hZ (hw _ (List.mem_of_getElem? (i := 17) rfl))) (mvT hZ (hw _ (List.mem_of_getElem? (i := 18) rfl))) (mvT hZ (hw _ (List.mem_of_getElem? (i := 19) rfl))) (by decide) (backOf (W := 4) (rm_pick l Z a0 hw [] (XT.ushr x5 (4 : Int32)) aGRANT aDENY aFORBID T111.heap n0 O111 SGRANT SDENY SFORBID) hZ (hw _ (List.mem_of_getElem? (i := 19) rfl)) (hw _ (List.mem_of_getElem? (i := 18) rfl)) (by decide) (by decide)) (g := (mkF m 95 #[.val (.int x0), .val (.int x1), .val (.int x2), .val (.int x3), .val (.int x4), .val (.int x5), .val (.ref b96), .val (.int (2 : Int32)), .unset] [(.int (XT.ushr x5 (4 : Int32))), (.int x3), (.int x4), (.int x1), (.ref b96)])) rfl (by rw [hml]; rfl) (argsL := [(.int (XT.ushr x5 (4 : Int32)))]) (rest := [(.int x3), (.int x4), (.int x1), (.ref b96)]) (lenOf pd_5 rfl) rfl (by show 2 * 0 + _ ≤ _; exact Nat.le_of_eq rfl) (hb hby at_95) (fun _ _ => ⟨rfl, rfl, (by decide : 1 + 0 ≤ _), (by decide : 4 + 0 ≤ _)⟩)
    dsimp only [Pt.U, Pt.locs, Pt.cells, Pt.slots] at X113 l113 y113 z113 st113 hQ113
    subst l113 y113 z113
    obtain ⟨p113, rfl, N113q, e113⟩ := hQ113
    have N113 := Fr.app N111 N113q
    refine own_go st113 ?_
    show own_Goes _ _ _ _ _ _ _ (T113.setTop (mkF m 98 #[.val (.int x0), .val (.int x1), .val (.int x2), .val (.int x3), .val (.int x4), .val (.int x5), .val (.ref b96), .val (.int (2 : Int32)), .unset] [(.ref p113), (.int x3), (.int x4), (.int x1), (.ref b96)]))
    obtain ⟨cq114, kq114, q114a, q114b, q114c⟩ := isOf hZ e113 f112
    obtain ⟨_, _, ⟨T114, L114, k114, n114⟩, -, X114, ⟨Lc114, hQ114, l114, y114, z114⟩, st114⟩ := X113.virtualBack hx (y := (⟨"com/example/role_rights/rolerights/decision/Nearest", "add", "(IIILcom/example/role_rights/rolerights/policy/Effect;)V"⟩ : MethodName)) (z := (⟨"com/example/role_rights/rolerights/decision/Nearest", "add", "(IIILcom/example/role_rights/rolerights/policy/Effect;)V"⟩ : MethodName)) hown (mvT hZ (hw _ (List.mem_of_getElem? (i := 23) rfl))) (mvT hZ (hw _ (List.mem_of_getElem? (i := 24) rfl))) (notFace_of_selects (args := #[]) (mvT hZ (hw _ (List.mem_of_getElem? (i := 26) rfl)))) (mvT hZ (hw _ (List.mem_of_getElem? (i := 26) rfl))) (mvT hZ (hw _ (List.mem_of_getElem? (i := 25) rfl))) (by decide) (backOf (W := 0) (rm_add l Z a0 hw [] b96 x1 x4 x3 p113 x0 s111a s111b t111 aDENY mm T111.heap n0 O111 P111 Q111 R111 U111 f112 g_b96 i111 SDENY mA mB) hZ (hw _ (List.mem_of_getElem? (i := 27) rfl)) (hw _ (List.mem_of_getElem? (i := 2) rfl)) (by decide) (by decide)) q114a q114c (g := (mkF m 98 #[.val (.int x0), .val (.int x1), .val (.int x2), .val (.int x3), .val (.int x4), .val (.int x5), .val (.ref b96), .val (.int (2 : Int32)), .unset] [(.ref p113), (.int x3), (.int x4), (.int x1), (.ref b96)])) rfl (by rw [hml]; rfl) (Steps.refl _) (argsL := [(.int x1), (.int x4), (.int x3), (.ref p113)]) (rest := []) (lenOf pd_6 rfl) rfl (by show 2 * 0 + _ ≤ _; exact Nat.le_of_eq rfl) (hb hby at_98) (fun _ _ => ⟨rfl, e113, (by decide : 1 + 0 ≤ _), (by decide : 4 + 0 ≤ _)⟩)
    dsimp only [Pt.U, Pt.locs, Pt.cells, Pt.slots] at X114 l114 y114 z114 st114 hQ114
    subst l114 y114 z114
    obtain ⟨s114a, s114b, t114, rfl, N114q, i114, K114q, P114, Q114, R114, U114⟩ := hQ114
    have N114 := Fr.app N113 N114q
    have f115 : Exa Z T114.heap b96 "com/example/role_rights/rolerights/decision/Nearest" := (f112.keep K114q)
    have O114 := O111.keep K114q (allS g_b96 all0)
    refine own_go (fun _ ww => Steps.trans st114 ww) ?_
    show own_Goes _ _ _ _ _ _ _ (T114.setTop (mkF m 101 #[.val (.int x0), .val (.int x1), .val (.int x2), .val (.int x3), .val (.int x4), .val (.int x5), .val (.ref b96), .val (.int (2 : Int32)), .unset] []))
    refine own_go (fun _ ww => XS.iloadN X114.here hx rfl (hb hby at_101) rfl  ww) ?_
    show own_Goes _ _ _ _ _ _ _ (T114.setTop (mkF m 102 #[.val (.int x0), .val (.int x1), .val (.int x2), .val (.int x3), .val (.int x4), .val (.int x5), .val (.ref b96), .val (.int (2 : Int32)), .unset] [(.int x2)]))
    refine own_go (fun _ ww => XS.iloadN X114.here hx rfl (hb hby at_102) rfl  ww) ?_
    show own_Goes _ _ _ _ _ _ _ (T114.setTop (mkF m 103 #[.val (.int x0), .val (.int x1), .val (.int x2), .val (.int x3), .val (.int x4), .val (.int x5), .val (.ref b96), .val (.int (2 : Int32)), .unset] [(.int x0), (.int x2)]))
    refine own_go (fun _ ww => XS.iloadN X114.here hx rfl (hb hby at_103) rfl  ww) ?_
    show own_Goes _ _ _ _ _ _ _ (T114.setTop (mkF m 104 #[.val (.int x0), .val (.int x1), .val (.int x2), .val (.int x3), .val (.int x4), .val (.int x5), .val (.ref b96), .val (.int (2 : Int32)), .unset] [(.int x1), (.int x0), (.int x2)]))
    obtain ⟨_, _, ⟨T116, L116, k116, n116⟩, -, X116, ⟨Lc116, hQ116, l116, y116, z116⟩, st116⟩ := Jvm.LawKit.callS X114 hx (y := (⟨"java/lang/Math", "min", "(II)I"⟩ : MethodName)) hown (mvT hZ (hw _ (List.mem_of_getElem? (i := 43) rfl))) (mvT hZ (hw _ (List.mem_of_getElem? (i := 44) rfl))) (mvT hZ (hw _ (List.mem_of_getElem? (i := 45) rfl))) (mvT hZ (hw _ (List.mem_of_getElem? (i := 46) rfl))) (by decide) (backOf (W := 1) (rm_min l Z a0 hw [] x0 x1 mm T114.heap n0 O114 mC mB) hZ (hw _ (List.mem_of_getElem? (i := 46) rfl)) (hw _ (List.mem_of_getElem? (i := 45) rfl)) (by decide) (by decide)) (g := (mkF m 104 #[.val (.int x0), .val (.int x1), .val (.int x2), .val (.int x3), .val (.int x4), .val (.int x5), .val (.ref b96), .val (.int (2 : Int32)), .unset] [(.int x1), (.int x0), (.int x2)])) rfl (by rw [hml]; rfl) (argsL := [(.int x0), (.int x1)]) (rest := [(.int x2)]) (lenOf pd_0 rfl) rfl (by show 2 * 0 + _ ≤ _; exact Nat.le_of_eq rfl) (hb hby at_104) (fun _ _ => ⟨rfl, rfl, (by decide : 1 + 0 ≤ _), (by decide : 4 + 0 ≤ _)⟩)
    dsimp only [Pt.U, Pt.locs, Pt.cells, Pt.slots] at X116 l116 y116 z116 st116 hQ116
    subst l116 y116 z116
    obtain ⟨rfl, N116q, e116⟩ := hQ116
    have N116 := Fr.app N114 N116q
    refine own_go st116 ?_
    show own_Goes _ _ _ _ _ _ _ (T116.setTop (mkF m 107 #[.val (.int x0), .val (.int x1), .val (.int x2), .val (.int x3), .val (.int x4), .val (.int x5), .val (.ref b96), .val (.int (2 : Int32)), .unset] [(.int mm), (.int x2)]))
    by_cases hc117 : mm < x2
    ·
      refine own_go (fun _ ww => XS.icmpYes X116.here hx rfl (pc0 := 107) (pc' := 114) rfl (hb hby at_107) rfl (tlt hc117).2.2.1 (by decide) (by decide) ww) ?_
      show own_Goes _ _ _ _ _ _ _ (T116.setTop (mkF m 114 #[.val (.int x0), .val (.int x1), .val (.int x2), .val (.int x3), .val (.int x4), .val (.int x5), .val (.ref b96), .val (.int (2 : Int32)), .unset] []))
      refine own_go (fun _ ww => XS.iconst X116.here hx rfl (hb hby at_114) ww) ?_
      show own_Goes _ _ _ _ _ _ _ (T116.setTop (mkF m 115 #[.val (.int x0), .val (.int x1), .val (.int x2), .val (.int x3), .val (.int x4), .val (.int x5), .val (.ref b96), .val (.int (2 : Int32)), .unset] [(.int (0 : Int32))]))
      refine own_go (fun _ ww => XS.istore X116.here hx rfl (hb hby at_115) rfl (l' := #[.val (.int x0), .val (.int x1), .val (.int x2), .val (.int x3), .val (.int x4), .val (.int x5), .val (.ref b96), .val (.int (2 : Int32)), .val (.int (0 : Int32))]) rfl ww) ?_
      show own_Goes _ _ _ _ _ _ _ (T116.setTop (mkF m 117 #[.val (.int x0), .val (.int x1), .val (.int x2), .val (.int x3), .val (.int x4), .val (.int x5), .val (.ref b96), .val (.int (2 : Int32)), .val (.int (0 : Int32))] []))
      refine own_go (fun _ ww => XS.goto X116.here hx rfl (pc0 := 117) (pc' := 164) rfl (hb hby at_117) (by decide) (by decide) ww) ?_
      show own_Goes _ _ _ _ _ _ _ (T116.setTop (mkF m 164 #[.val (.int x0), .val (.int x1), .val (.int x2), .val (.int x3), .val (.int x4), .val (.int x5), .val (.ref b96), .val (.int (2 : Int32)), .val (.int (0 : Int32))] []))
      refine own_go (fun _ ww => XS.aload X116.here hx rfl (hb hby at_164) rfl rfl ww) ?_
      show own_Goes _ _ _ _ _ _ _ (T116.setTop (mkF m 166 #[.val (.int x0), .val (.int x1), .val (.int x2), .val (.int x3), .val (.int x4), .val (.int x5), .val (.ref b96), .val (.int (2 : Int32)), .val (.int (0 : Int32))] [(.ref b96)]))
      refine own_go (fun _ ww => XS.iloadN X116.here hx rfl (hb hby at_166) rfl  ww) ?_
      show own_Goes _ _ _ _ _ _ _ (T116.setTop (mkF m 167 #[.val (.int x0), .val (.int x1), .val (.int x2), .val (.int x3), .val (.int x4), .val (.int x5), .val (.ref b96), .val (.int (2 : Int32)), .val (.int (0 : Int32))] [(.int x2), (.ref b96)]))
      obtain ⟨cq118, kq118, q118a, q118b, q118c⟩ := isOf hZ e116 f115
      obtain ⟨_, _, ⟨T118, L118, k118, n118⟩, -, X118, ⟨Lc118, hQ118, l118, y118, z118⟩, st118⟩ := X116.virtualBack hx (y := (⟨"com/example/role_rights/rolerights/decision/Nearest", "mayCount", "(I)Z"⟩ : MethodName)) (z := (⟨"com/example/role_rights/rolerights/decision/Nearest", "mayCount", "(I)Z"⟩ : MethodName)) hown (mvT hZ (hw _ (List.mem_of_getElem? (i := 38) rfl))) (mvT hZ (hw _ (List.mem_of_getElem? (i := 39) rfl))) (notFace_of_selects (args := #[]) (mvT hZ (hw _ (List.mem_of_getElem? (i := 41) rfl)))) (mvT hZ (hw _ (List.mem_of_getElem? (i := 41) rfl))) (mvT hZ (hw _ (List.mem_of_getElem? (i := 40) rfl))) (by decide) (backOf (W := 0) (rm_may l Z a0 hw [] b96 x2 mm (0 : Int32) T114.heap n0 O114 Q114 (fun _ => rfl) (fun q => absurd hc117 q)) hZ (hw _ (List.mem_of_getElem? (i := 42) rfl)) (hw _ (List.mem_of_getElem? (i := 2) rfl)) (by decide) (by decide)) q118a q118c (g := (mkF m 167 #[.val (.int x0), .val (.int x1), .val (.int x2), .val (.int x3), .val (.int x4), .val (.int x5), .val (.ref b96), .val (.int (2 : Int32)), .val (.int (0 : Int32))] [(.int x2), (.ref b96)])) rfl (by rw [hml]; rfl) (Steps.refl _) (argsL := [(.int x2)]) (rest := []) (lenOf pd_4 rfl) rfl (by show 2 * 0 + _ ≤ _; exact Nat.le_of_eq rfl) (hb hby at_167) (fun _ _ => ⟨rfl, e116, (by decide : 1 + 0 ≤ _), (by decide : 4 + 0 ≤ _)⟩)
      dsimp only [Pt.U, Pt.locs, Pt.cells, Pt.slots] at X118 l118 y118 z118 st118 hQ118
      subst l118 y118 z118
      obtain ⟨rfl, N118q, e118⟩ := hQ118
      have N118 := Fr.app N116 N118q
      refine own_go (fun _ ww => Steps.trans st118 ww) ?_
      show own_Goes _ _ _ _ _ _ _ (T118.setTop (mkF m 170 #[.val (.int x0), .val (.int x1), .val (.int x2), .val (.int x3), .val (.int x4), .val (.int x5), .val (.ref b96), .val (.int (2 : Int32)), .val (.int (0 : Int32))] [(.int (0 : Int32))]))
      refine own_go (fun _ ww => XS.iload X118.here hx rfl (hb hby at_170) rfl  ww) ?_
      show own_Goes _ _ _ _ _ _ _ (T118.setTop (mkF m 172 #[.val (.int x0), .val (.int x1), .val (.int x2), .val (.int x3), .val (.int x4), .val (.int x5), .val (.ref b96), .val (.int (2 : Int32)), .val (.int (0 : Int32))] [(.int (0 : Int32)), (.int (0 : Int32))]))
      refine own_go (fun _ ww => XS.icmpNo X118.here hx rfl (hb hby at_172) rfl (teq (by decide : (0 : Int32) = (0 : Int32))).2 ww) ?_
      show own_Goes _ _ _ _ _ _ _ (T118.setTop (mkF m 175 #[.val (.int x0), .val (.int x1), .val (.int x2), .val (.int x3), .val (.int x4), .val (.int x5), .val (.ref b96), .val (.int (2 : Int32)), .val (.int (0 : Int32))] []))
      refine own_go (fun _ ww => XS.iconst X118.here hx rfl (hb hby at_175) ww) ?_
      show own_Goes _ _ _ _ _ _ _ (T118.setTop (mkF m 176 #[.val (.int x0), .val (.int x1), .val (.int x2), .val (.int x3), .val (.int x4), .val (.int x5), .val (.ref b96), .val (.int (2 : Int32)), .val (.int (0 : Int32))] [(.int (1 : Int32))]))
      refine own_go (fun _ ww => XS.goto X118.here hx rfl (pc0 := 176) (pc' := 180) rfl (hb hby at_176) (by decide) (by decide) ww) ?_
      show own_Goes _ _ _ _ _ _ _ (T118.setTop (mkF m 180 #[.val (.int x0), .val (.int x1), .val (.int x2), .val (.int x3), .val (.int x4), .val (.int x5), .val (.ref b96), .val (.int (2 : Int32)), .val (.int (0 : Int32))] [(.int (1 : Int32))]))
      exact own_out X118 hlk (v := some (.int (1 : Int32))) (fun h => by rw [hret] at h; cases h) (fun fs hr => retOut X118 hx (t := .boolean) hret (by decide) (Or.inl ⟨rfl, by simp, _, rfl⟩) (hb hby at_180) hr) e118 ⟨rfl, N118⟩ (by decide) (by decide)
    ·
      refine own_go (fun _ ww => XS.icmpNo X116.here hx rfl (hb hby at_107) rfl (flt hc117).2.2.1 ww) ?_
      show own_Goes _ _ _ _ _ _ _ (T116.setTop (mkF m 110 #[.val (.int x0), .val (.int x1), .val (.int x2), .val (.int x3), .val (.int x4), .val (.int x5), .val (.ref b96), .val (.int (2 : Int32)), .unset] []))
      refine own_go (fun _ ww => XS.iconst X116.here hx rfl (hb hby at_110) ww) ?_
      show own_Goes _ _ _ _ _ _ _ (T116.setTop (mkF m 111 #[.val (.int x0), .val (.int x1), .val (.int x2), .val (.int x3), .val (.int x4), .val (.int x5), .val (.ref b96), .val (.int (2 : Int32)), .unset] [(.int (1 : Int32))]))
      refine own_go (fun _ ww => XS.goto X116.here hx rfl (pc0 := 111) (pc' := 115) rfl (hb hby at_111) (by decide) (by decide) ww) ?_
      show own_Goes _ _ _ _ _ _ _ (T116.setTop (mkF m 115 #[.val (.int x0), .val (.int x1), .val (.int x2), .val (.int x3), .val (.int x4), .val (.int x5), .val (.ref b96), .val (.int (2 : Int32)), .unset] [(.int (1 : Int32))]))
      refine own_go (fun _ ww => XS.istore X116.here hx rfl (hb hby at_115) rfl (l' := #[.val (.int x0), .val (.int x1), .val (.int x2), .val (.int x3), .val (.int x4), .val (.int x5), .val (.ref b96), .val (.int (2 : Int32)), .val (.int (1 : Int32))]) rfl ww) ?_
      show own_Goes _ _ _ _ _ _ _ (T116.setTop (mkF m 117 #[.val (.int x0), .val (.int x1), .val (.int x2), .val (.int x3), .val (.int x4), .val (.int x5), .val (.ref b96), .val (.int (2 : Int32)), .val (.int (1 : Int32))] []))
      refine own_go (fun _ ww => XS.goto X116.here hx rfl (pc0 := 117) (pc' := 164) rfl (hb hby at_117) (by decide) (by decide) ww) ?_
      show own_Goes _ _ _ _ _ _ _ (T116.setTop (mkF m 164 #[.val (.int x0), .val (.int x1), .val (.int x2), .val (.int x3), .val (.int x4), .val (.int x5), .val (.ref b96), .val (.int (2 : Int32)), .val (.int (1 : Int32))] []))
      refine own_go (fun _ ww => XS.aload X116.here hx rfl (hb hby at_164) rfl rfl ww) ?_
      show own_Goes _ _ _ _ _ _ _ (T116.setTop (mkF m 166 #[.val (.int x0), .val (.int x1), .val (.int x2), .val (.int x3), .val (.int x4), .val (.int x5), .val (.ref b96), .val (.int (2 : Int32)), .val (.int (1 : Int32))] [(.ref b96)]))
      refine own_go (fun _ ww => XS.iloadN X116.here hx rfl (hb hby at_166) rfl  ww) ?_
      show own_Goes _ _ _ _ _ _ _ (T116.setTop (mkF m 167 #[.val (.int x0), .val (.int x1), .val (.int x2), .val (.int x3), .val (.int x4), .val (.int x5), .val (.ref b96), .val (.int (2 : Int32)), .val (.int (1 : Int32))] [(.int x2), (.ref b96)]))
      obtain ⟨cq119, kq119, q119a, q119b, q119c⟩ := isOf hZ e116 f115
      obtain ⟨_, _, ⟨T119, L119, k119, n119⟩, -, X119, ⟨Lc119, hQ119, l119, y119, z119⟩, st119⟩ := X116.virtualBack hx (y := (⟨"com/example/role_rights/rolerights/decision/Nearest", "mayCount", "(I)Z"⟩ : MethodName)) (z := (⟨"com/example/role_rights/rolerights/decision/Nearest", "mayCount", "(I)Z"⟩ : MethodName)) hown (mvT hZ (hw _ (List.mem_of_getElem? (i := 38) rfl))) (mvT hZ (hw _ (List.mem_of_getElem? (i := 39) rfl))) (notFace_of_selects (args := #[]) (mvT hZ (hw _ (List.mem_of_getElem? (i := 41) rfl)))) (mvT hZ (hw _ (List.mem_of_getElem? (i := 41) rfl))) (mvT hZ (hw _ (List.mem_of_getElem? (i := 40) rfl))) (by decide) (backOf (W := 0) (rm_may l Z a0 hw [] b96 x2 mm (1 : Int32) T114.heap n0 O114 Q114 (fun q => absurd q hc117) (fun _ => rfl)) hZ (hw _ (List.mem_of_getElem? (i := 42) rfl)) (hw _ (List.mem_of_getElem? (i := 2) rfl)) (by decide) (by decide)) q119a q119c (g := (mkF m 167 #[.val (.int x0), .val (.int x1), .val (.int x2), .val (.int x3), .val (.int x4), .val (.int x5), .val (.ref b96), .val (.int (2 : Int32)), .val (.int (1 : Int32))] [(.int x2), (.ref b96)])) rfl (by rw [hml]; rfl) (Steps.refl _) (argsL := [(.int x2)]) (rest := []) (lenOf pd_4 rfl) rfl (by show 2 * 0 + _ ≤ _; exact Nat.le_of_eq rfl) (hb hby at_167) (fun _ _ => ⟨rfl, e116, (by decide : 1 + 0 ≤ _), (by decide : 4 + 0 ≤ _)⟩)
      dsimp only [Pt.U, Pt.locs, Pt.cells, Pt.slots] at X119 l119 y119 z119 st119 hQ119
      subst l119 y119 z119
      obtain ⟨rfl, N119q, e119⟩ := hQ119
      have N119 := Fr.app N116 N119q
      refine own_go (fun _ ww => Steps.trans st119 ww) ?_
      show own_Goes _ _ _ _ _ _ _ (T119.setTop (mkF m 170 #[.val (.int x0), .val (.int x1), .val (.int x2), .val (.int x3), .val (.int x4), .val (.int x5), .val (.ref b96), .val (.int (2 : Int32)), .val (.int (1 : Int32))] [(.int (1 : Int32))]))
      refine own_go (fun _ ww => XS.iload X119.here hx rfl (hb hby at_170) rfl  ww) ?_
      show own_Goes _ _ _ _ _ _ _ (T119.setTop (mkF m 172 #[.val (.int x0), .val (.int x1), .val (.int x2), .val (.int x3), .val (.int x4), .val (.int x5), .val (.ref b96), .val (.int (2 : Int32)), .val (.int (1 : Int32))] [(.int (1 : Int32)), (.int (1 : Int32))]))
      refine own_go (fun _ ww => XS.icmpNo X119.here hx rfl (hb hby at_172) rfl (teq (by decide : (1 : Int32) = (1 : Int32))).2 ww) ?_
      show own_Goes _ _ _ _ _ _ _ (T119.setTop (mkF m 175 #[.val (.int x0), .val (.int x1), .val (.int x2), .val (.int x3), .val (.int x4), .val (.int x5), .val (.ref b96), .val (.int (2 : Int32)), .val (.int (1 : Int32))] []))
      refine own_go (fun _ ww => XS.iconst X119.here hx rfl (hb hby at_175) ww) ?_
      show own_Goes _ _ _ _ _ _ _ (T119.setTop (mkF m 176 #[.val (.int x0), .val (.int x1), .val (.int x2), .val (.int x3), .val (.int x4), .val (.int x5), .val (.ref b96), .val (.int (2 : Int32)), .val (.int (1 : Int32))] [(.int (1 : Int32))]))
      refine own_go (fun _ ww => XS.goto X119.here hx rfl (pc0 := 176) (pc' := 180) rfl (hb hby at_176) (by decide) (by decide) ww) ?_
      show own_Goes _ _ _ _ _ _ _ (T119.setTop (mkF m 180 #[.val (.int x0), .val (.int x1), .val (.int x2), .val (.int x3), .val (.int x4), .val (.int x5), .val (.ref b96), .val (.int (2 : Int32)), .val (.int (1 : Int32))] [(.int (1 : Int32))]))
      exact own_out X119 hlk (v := some (.int (1 : Int32))) (fun h => by rw [hret] at h; cases h) (fun fs hr => retOut X119 hx (t := .boolean) hret (by decide) (Or.inl ⟨rfl, by simp, _, rfl⟩) (hb hby at_180) hr) e119 ⟨rfl, N119⟩ (by decide) (by decide)
  ·
    rw [hk]
    show own_Goes _ _ _ _ _ _ _ (T101.setTop (mkF m 13 #[.val (.int x0), .val (.int x1), .val (.int x2), .val (.int x3), .val (.int x4), .val (.int x5), .val (.ref b96), .unset, .unset] [(.int (3 : Int32))]))
    refine own_go (fun _ ww => XS.istore X101.here hx rfl (hb hby at_13) rfl (l' := #[.val (.int x0), .val (.int x1), .val (.int x2), .val (.int x3), .val (.int x4), .val (.int x5), .val (.ref b96), .val (.int (3 : Int32)), .unset]) rfl ww) ?_
    show own_Goes _ _ _ _ _ _ _ (T101.setTop (mkF m 15 #[.val (.int x0), .val (.int x1), .val (.int x2), .val (.int x3), .val (.int x4), .val (.int x5), .val (.ref b96), .val (.int (3 : Int32)), .unset] []))
    refine own_go (fun _ ww => XS.iload X101.here hx rfl (hb hby at_15) rfl  ww) ?_
    show own_Goes _ _ _ _ _ _ _ (T101.setTop (mkF m 17 #[.val (.int x0), .val (.int x1), .val (.int x2), .val (.int x3), .val (.int x4), .val (.int x5), .val (.ref b96), .val (.int (3 : Int32)), .unset] [(.int (3 : Int32))]))
    refine own_go (fun _ ww => XS.ifYes X101.here hx rfl (pc0 := 17) (pc' := 26) rfl (hb hby at_17) rfl (own_if .ne (feq (by decide : ¬ ((3 : Int32) = (0 : Int32)))).2) (by decide) (by decide) ww) ?_
    show own_Goes _ _ _ _ _ _ _ (T101.setTop (mkF m 26 #[.val (.int x0), .val (.int x1), .val (.int x2), .val (.int x3), .val (.int x4), .val (.int x5), .val (.ref b96), .val (.int (3 : Int32)), .unset] []))
    refine own_go (fun _ ww => XS.iload X101.here hx rfl (hb hby at_26) rfl  ww) ?_
    show own_Goes _ _ _ _ _ _ _ (T101.setTop (mkF m 28 #[.val (.int x0), .val (.int x1), .val (.int x2), .val (.int x3), .val (.int x4), .val (.int x5), .val (.ref b96), .val (.int (3 : Int32)), .unset] [(.int (3 : Int32))]))
    refine own_go (fun _ ww => XS.iconst X101.here hx rfl (hb hby at_28) ww) ?_
    show own_Goes _ _ _ _ _ _ _ (T101.setTop (mkF m 29 #[.val (.int x0), .val (.int x1), .val (.int x2), .val (.int x3), .val (.int x4), .val (.int x5), .val (.ref b96), .val (.int (3 : Int32)), .unset] [(.int (1 : Int32)), (.int (3 : Int32))]))
    refine own_go (fun _ ww => XS.icmpYes X101.here hx rfl (pc0 := 29) (pc' := 63) rfl (hb hby at_29) rfl (feq (by decide : ¬ ((3 : Int32) = (1 : Int32)))).2 (by decide) (by decide) ww) ?_
    show own_Goes _ _ _ _ _ _ _ (T101.setTop (mkF m 63 #[.val (.int x0), .val (.int x1), .val (.int x2), .val (.int x3), .val (.int x4), .val (.int x5), .val (.ref b96), .val (.int (3 : Int32)), .unset] []))
    refine own_go (fun _ ww => XS.iload X101.here hx rfl (hb hby at_63) rfl  ww) ?_
    show own_Goes _ _ _ _ _ _ _ (T101.setTop (mkF m 65 #[.val (.int x0), .val (.int x1), .val (.int x2), .val (.int x3), .val (.int x4), .val (.int x5), .val (.ref b96), .val (.int (3 : Int32)), .unset] [(.int (3 : Int32))]))
    refine own_go (fun _ ww => XS.iconst X101.here hx rfl (hb hby at_65) ww) ?_
    show own_Goes _ _ _ _ _ _ _ (T101.setTop (mkF m 66 #[.val (.int x0), .val (.int x1), .val (.int x2), .val (.int x3), .val (.int x4), .val (.int x5), .val (.ref b96), .val (.int (3 : Int32)), .unset] [(.int (2 : Int32)), (.int (3 : Int32))]))
    refine own_go (fun _ ww => XS.icmpYes X101.here hx rfl (pc0 := 66) (pc' := 120) rfl (hb hby at_66) rfl (feq (by decide : ¬ ((3 : Int32) = (2 : Int32)))).2 (by decide) (by decide) ww) ?_
    show own_Goes _ _ _ _ _ _ _ (T101.setTop (mkF m 120 #[.val (.int x0), .val (.int x1), .val (.int x2), .val (.int x3), .val (.int x4), .val (.int x5), .val (.ref b96), .val (.int (3 : Int32)), .unset] []))
    refine own_go (fun _ ww => XS.aload X101.here hx rfl (hb hby at_120) rfl rfl ww) ?_
    show own_Goes _ _ _ _ _ _ _ (T101.setTop (mkF m 122 #[.val (.int x0), .val (.int x1), .val (.int x2), .val (.int x3), .val (.int x4), .val (.int x5), .val (.ref b96), .val (.int (3 : Int32)), .unset] [(.ref b96)]))
    refine own_go (fun _ ww => XS.iloadN X101.here hx rfl (hb hby at_122) rfl  ww) ?_
    show own_Goes _ _ _ _ _ _ _ (T101.setTop (mkF m 123 #[.val (.int x0), .val (.int x1), .val (.int x2), .val (.int x3), .val (.int x4), .val (.int x5), .val (.ref b96), .val (.int (3 : Int32)), .unset] [(.int x0), (.ref b96)]))
    refine own_go (fun _ ww => XS.iloadN X101.here hx rfl (hb hby at_123) rfl  ww) ?_
    show own_Goes _ _ _ _ _ _ _ (T101.setTop (mkF m 124 #[.val (.int x0), .val (.int x1), .val (.int x2), .val (.int x3), .val (.int x4), .val (.int x5), .val (.ref b96), .val (.int (3 : Int32)), .unset] [(.int x3), (.int x0), (.ref b96)]))
    refine own_go (fun _ ww => XS.iload X101.here hx rfl (hb hby at_124) rfl  ww) ?_
    show own_Goes _ _ _ _ _ _ _ (T101.setTop (mkF m 126 #[.val (.int x0), .val (.int x1), .val (.int x2), .val (.int x3), .val (.int x4), .val (.int x5), .val (.ref b96), .val (.int (3 : Int32)), .unset] [(.int x4), (.int x3), (.int x0), (.ref b96)]))
    refine own_go (fun _ ww => XS.iload X101.here hx rfl (hb hby at_126) rfl  ww) ?_
    show own_Goes _ _ _ _ _ _ _ (T101.setTop (mkF m 128 #[.val (.int x0), .val (.int x1), .val (.int x2), .val (.int x3), .val (.int x4), .val (.int x5), .val (.ref b96), .val (.int (3 : Int32)), .unset] [(.int x5), (.int x4), (.int x3), (.int x0), (.ref b96)]))
    refine own_go (fun _ ww => XS.iconst X101.here hx rfl (hb hby at_128) ww) ?_
    show own_Goes _ _ _ _ _ _ _ (T101.setTop (mkF m 129 #[.val (.int x0), .val (.int x1), .val (.int x2), .val (.int x3), .val (.int x4), .val (.int x5), .val (.ref b96), .val (.int (3 : Int32)), .unset] [(.int (2 : Int32)), (.int x5), (.int x4), (.int x3), (.int x0), (.ref b96)]))
    refine own_go (fun _ ww => XT.iushr X101.here hx rfl (hb hby at_129) rfl ww) ?_
    show own_Goes _ _ _ _ _ _ _ (T101.setTop (mkF m 130 #[.val (.int x0), .val (.int x1), .val (.int x2), .val (.int x3), .val (.int x4), .val (.int x5), .val (.ref b96), .val (.int (3 : Int32)), .unset] [(.int (XT.ushr x5 (2 : Int32))), (.int x4), (.int x3), (.int x0), (.ref b96)]))
    obtain ⟨_, _, ⟨T120, L120, k120, n120⟩, -, X120, ⟨Lc120, hQ120, l120, y120, z120⟩, st120⟩ := Jvm.LawKit.callS X101 hx (y := (⟨"com/example/role_rights/rolerights/decision/NearestMayCountPinLaw", "pick", "(I)Lcom/example/role_rights/rolerights/policy/Effect;"⟩ : MethodName)) hown (mvT hZ (hw _ (List.mem_of_getElem? (i := 16) rfl))) (mvT hZ (hw _ (List.mem_of_getElem? (i := 17) rfl))) (mvT hZ (hw _ (List.mem_of_getElem? (i := 18) rfl))) (mvT hZ (hw _ (List.mem_of_getElem? (i := 19) rfl))) (by decide) (backOf (W := 4) (rm_pick l Z a0 hw [] (XT.ushr x5 (2 : Int32)) aGRANT aDENY aFORBID T101.heap n0 O101 SGRANT SDENY SFORBID) hZ (hw _ (List.mem_of_getElem? (i := 19) rfl)) (hw _ (List.mem_of_getElem? (i := 18) rfl)) (by decide) (by decide)) (g := (mkF m 130 #[.val (.int x0), .val (.int x1), .val (.int x2), .val (.int x3), .val (.int x4), .val (.int x5), .val (.ref b96), .val (.int (3 : Int32)), .unset] [(.int (XT.ushr x5 (2 : Int32))), (.int x4), (.int x3), (.int x0), (.ref b96)])) rfl (by rw [hml]; rfl) (argsL := [(.int (XT.ushr x5 (2 : Int32)))]) (rest := [(.int x4), (.int x3), (.int x0), (.ref b96)]) (lenOf pd_5 rfl) rfl (by show 2 * 0 + _ ≤ _; exact Nat.le_of_eq rfl) (hb hby at_130) (fun _ _ => ⟨rfl, rfl, (by decide : 1 + 0 ≤ _), (by decide : 4 + 0 ≤ _)⟩)
    dsimp only [Pt.U, Pt.locs, Pt.cells, Pt.slots] at X120 l120 y120 z120 st120 hQ120
    subst l120 y120 z120
    obtain ⟨p120, rfl, N120q, e120⟩ := hQ120
    have N120 := Fr.app N101 N120q
    refine own_go st120 ?_
    show own_Goes _ _ _ _ _ _ _ (T120.setTop (mkF m 133 #[.val (.int x0), .val (.int x1), .val (.int x2), .val (.int x3), .val (.int x4), .val (.int x5), .val (.ref b96), .val (.int (3 : Int32)), .unset] [(.ref p120), (.int x4), (.int x3), (.int x0), (.ref b96)]))
    obtain ⟨cq121, kq121, q121a, q121b, q121c⟩ := isOf hZ e120 f102
    obtain ⟨_, _, ⟨T121, L121, k121, n121⟩, -, X121, ⟨Lc121, hQ121, l121, y121, z121⟩, st121⟩ := X120.virtualBack hx (y := (⟨"com/example/role_rights/rolerights/decision/Nearest", "add", "(IIILcom/example/role_rights/rolerights/policy/Effect;)V"⟩ : MethodName)) (z := (⟨"com/example/role_rights/rolerights/decision/Nearest", "add", "(IIILcom/example/role_rights/rolerights/policy/Effect;)V"⟩ : MethodName)) hown (mvT hZ (hw _ (List.mem_of_getElem? (i := 23) rfl))) (mvT hZ (hw _ (List.mem_of_getElem? (i := 24) rfl))) (notFace_of_selects (args := #[]) (mvT hZ (hw _ (List.mem_of_getElem? (i := 26) rfl)))) (mvT hZ (hw _ (List.mem_of_getElem? (i := 26) rfl))) (mvT hZ (hw _ (List.mem_of_getElem? (i := 25) rfl))) (by decide) (backOf (W := 0) (rm_add l Z a0 hw [] b96 x0 x3 x4 p120 (2147483647 : Int32) (2147483647 : Int32) (2147483647 : Int32) .null aDENY x0 T101.heap n0 O101 P101 Q101 R101 U101 f102 g_b96 rfl SDENY (fun _ => rfl) own_mx) hZ (hw _ (List.mem_of_getElem? (i := 27) rfl)) (hw _ (List.mem_of_getElem? (i := 2) rfl)) (by decide) (by decide)) q121a q121c (g := (mkF m 133 #[.val (.int x0), .val (.int x1), .val (.int x2), .val (.int x3), .val (.int x4), .val (.int x5), .val (.ref b96), .val (.int (3 : Int32)), .unset] [(.ref p120), (.int x4), (.int x3), (.int x0), (.ref b96)])) rfl (by rw [hml]; rfl) (Steps.refl _) (argsL := [(.int x0), (.int x3), (.int x4), (.ref p120)]) (rest := []) (lenOf pd_6 rfl) rfl (by show 2 * 0 + _ ≤ _; exact Nat.le_of_eq rfl) (hb hby at_133) (fun _ _ => ⟨rfl, e120, (by decide : 1 + 0 ≤ _), (by decide : 4 + 0 ≤ _)⟩)
    dsimp only [Pt.U, Pt.locs, Pt.cells, Pt.slots] at X121 l121 y121 z121 st121 hQ121
    subst l121 y121 z121
    obtain ⟨s121a, s121b, t121, rfl, N121q, i121, K121q, P121, Q121, R121, U121⟩ := hQ121
    have N121 := Fr.app N120 N121q
    have f122 : Exa Z T121.heap b96 "com/example/role_rights/rolerights/decision/Nearest" := (f102.keep K121q)
    have O121 := O101.keep K121q (allS g_b96 all0)
    refine own_go (fun _ ww => Steps.trans st121 ww) ?_
    show own_Goes _ _ _ _ _ _ _ (T121.setTop (mkF m 136 #[.val (.int x0), .val (.int x1), .val (.int x2), .val (.int x3), .val (.int x4), .val (.int x5), .val (.ref b96), .val (.int (3 : Int32)), .unset] []))
    refine own_go (fun _ ww => XS.aload X121.here hx rfl (hb hby at_136) rfl rfl ww) ?_
    show own_Goes _ _ _ _ _ _ _ (T121.setTop (mkF m 138 #[.val (.int x0), .val (.int x1), .val (.int x2), .val (.int x3), .val (.int x4), .val (.int x5), .val (.ref b96), .val (.int (3 : Int32)), .unset] [(.ref b96)]))
    refine own_go (fun _ ww => XS.iloadN X121.here hx rfl (hb hby at_138) rfl  ww) ?_
    show own_Goes _ _ _ _ _ _ _ (T121.setTop (mkF m 139 #[.val (.int x0), .val (.int x1), .val (.int x2), .val (.int x3), .val (.int x4), .val (.int x5), .val (.ref b96), .val (.int (3 : Int32)), .unset] [(.int x0), (.ref b96)]))
    refine own_go (fun _ ww => XS.iload X121.here hx rfl (hb hby at_139) rfl  ww) ?_
    show own_Goes _ _ _ _ _ _ _ (T121.setTop (mkF m 141 #[.val (.int x0), .val (.int x1), .val (.int x2), .val (.int x3), .val (.int x4), .val (.int x5), .val (.ref b96), .val (.int (3 : Int32)), .unset] [(.int x4), (.int x0), (.ref b96)]))
    refine own_go (fun _ ww => XS.iloadN X121.here hx rfl (hb hby at_141) rfl  ww) ?_
    show own_Goes _ _ _ _ _ _ _ (T121.setTop (mkF m 142 #[.val (.int x0), .val (.int x1), .val (.int x2), .val (.int x3), .val (.int x4), .val (.int x5), .val (.ref b96), .val (.int (3 : Int32)), .unset] [(.int x3), (.int x4), (.int x0), (.ref b96)]))
    refine own_go (fun _ ww => XS.iload X121.here hx rfl (hb hby at_142) rfl  ww) ?_
    show own_Goes _ _ _ _ _ _ _ (T121.setTop (mkF m 144 #[.val (.int x0), .val (.int x1), .val (.int x2), .val (.int x3), .val (.int x4), .val (.int x5), .val (.ref b96), .val (.int (3 : Int32)), .unset] [(.int x5), (.int x3), (.int x4), (.int x0), (.ref b96)]))
    refine own_go (fun _ ww => XS.iconst X121.here hx rfl (hb hby at_144) ww) ?_
    show own_Goes _ _ _ _ _ _ _ (T121.setTop (mkF m 145 #[.val (.int x0), .val (.int x1), .val (.int x2), .val (.int x3), .val (.int x4), .val (.int x5), .val (.ref b96), .val (.int (3 : Int32)), .unset] [(.int (4 : Int32)), (.int x5), (.int x3), (.int x4), (.int x0), (.ref b96)]))
    refine own_go (fun _ ww => XT.iushr X121.here hx rfl (hb hby at_145) rfl ww) ?_
    show own_Goes _ _ _ _ _ _ _ (T121.setTop (mkF m 146 #[.val (.int x0), .val (.int x1), .val (.int x2), .val (.int x3), .val (.int x4), .val (.int x5), .val (.ref b96), .val (.int (3 : Int32)), .unset] [(.int (XT.ushr x5 (4 : Int32))), (.int x3), (.int x4), (.int x0), (.ref b96)]))
    obtain ⟨_, _, ⟨T123, L123, k123, n123⟩, -, X123, ⟨Lc123, hQ123, l123, y123, z123⟩, st123⟩ := Jvm.LawKit.callS X121 hx (y := (⟨"com/example/role_rights/rolerights/decision/NearestMayCountPinLaw", "pick", "(I)Lcom/example/role_rights/rolerights/policy/Effect;"⟩ : MethodName)) hown (mvT hZ (hw _ (List.mem_of_getElem? (i := 16) rfl))) (mvT hZ (hw _ (List.mem_of_getElem? (i := 17) rfl))) (mvT hZ (hw _ (List.mem_of_getElem? (i := 18) rfl))) (mvT hZ (hw _ (List.mem_of_getElem? (i := 19) rfl))) (by decide) (backOf (W := 4) (rm_pick l Z a0 hw [] (XT.ushr x5 (4 : Int32)) aGRANT aDENY aFORBID T121.heap n0 O121 SGRANT SDENY SFORBID) hZ (hw _ (List.mem_of_getElem? (i := 19) rfl)) (hw _ (List.mem_of_getElem? (i := 18) rfl)) (by decide) (by decide)) (g := (mkF m 146 #[.val (.int x0), .val (.int x1), .val (.int x2), .val (.int x3), .val (.int x4), .val (.int x5), .val (.ref b96), .val (.int (3 : Int32)), .unset] [(.int (XT.ushr x5 (4 : Int32))), (.int x3), (.int x4), (.int x0), (.ref b96)])) rfl (by rw [hml]; rfl) (argsL := [(.int (XT.ushr x5 (4 : Int32)))]) (rest := [(.int x3), (.int x4), (.int x0), (.ref b96)]) (lenOf pd_5 rfl) rfl (by show 2 * 0 + _ ≤ _; exact Nat.le_of_eq rfl) (hb hby at_146) (fun _ _ => ⟨rfl, rfl, (by decide : 1 + 0 ≤ _), (by decide : 4 + 0 ≤ _)⟩)
    dsimp only [Pt.U, Pt.locs, Pt.cells, Pt.slots] at X123 l123 y123 z123 st123 hQ123
    subst l123 y123 z123
    obtain ⟨p123, rfl, N123q, e123⟩ := hQ123
    have N123 := Fr.app N121 N123q
    refine own_go st123 ?_
    show own_Goes _ _ _ _ _ _ _ (T123.setTop (mkF m 149 #[.val (.int x0), .val (.int x1), .val (.int x2), .val (.int x3), .val (.int x4), .val (.int x5), .val (.ref b96), .val (.int (3 : Int32)), .unset] [(.ref p123), (.int x3), (.int x4), (.int x0), (.ref b96)]))
    obtain ⟨cq124, kq124, q124a, q124b, q124c⟩ := isOf hZ e123 f122
    obtain ⟨_, _, ⟨T124, L124, k124, n124⟩, -, X124, ⟨Lc124, hQ124, l124, y124, z124⟩, st124⟩ := X123.virtualBack hx (y := (⟨"com/example/role_rights/rolerights/decision/Nearest", "add", "(IIILcom/example/role_rights/rolerights/policy/Effect;)V"⟩ : MethodName)) (z := (⟨"com/example/role_rights/rolerights/decision/Nearest", "add", "(IIILcom/example/role_rights/rolerights/policy/Effect;)V"⟩ : MethodName)) hown (mvT hZ (hw _ (List.mem_of_getElem? (i := 23) rfl))) (mvT hZ (hw _ (List.mem_of_getElem? (i := 24) rfl))) (notFace_of_selects (args := #[]) (mvT hZ (hw _ (List.mem_of_getElem? (i := 26) rfl)))) (mvT hZ (hw _ (List.mem_of_getElem? (i := 26) rfl))) (mvT hZ (hw _ (List.mem_of_getElem? (i := 25) rfl))) (by decide) (backOf (W := 0) (rm_add l Z a0 hw [] b96 x0 x4 x3 p123 x0 s121a s121b t121 aDENY x0 T121.heap n0 O121 P121 Q121 R121 U121 f122 g_b96 i121 SDENY (fun _ => rfl) (fun _ => rfl)) hZ (hw _ (List.mem_of_getElem? (i := 27) rfl)) (hw _ (List.mem_of_getElem? (i := 2) rfl)) (by decide) (by decide)) q124a q124c (g := (mkF m 149 #[.val (.int x0), .val (.int x1), .val (.int x2), .val (.int x3), .val (.int x4), .val (.int x5), .val (.ref b96), .val (.int (3 : Int32)), .unset] [(.ref p123), (.int x3), (.int x4), (.int x0), (.ref b96)])) rfl (by rw [hml]; rfl) (Steps.refl _) (argsL := [(.int x0), (.int x4), (.int x3), (.ref p123)]) (rest := []) (lenOf pd_6 rfl) rfl (by show 2 * 0 + _ ≤ _; exact Nat.le_of_eq rfl) (hb hby at_149) (fun _ _ => ⟨rfl, e123, (by decide : 1 + 0 ≤ _), (by decide : 4 + 0 ≤ _)⟩)
    dsimp only [Pt.U, Pt.locs, Pt.cells, Pt.slots] at X124 l124 y124 z124 st124 hQ124
    subst l124 y124 z124
    obtain ⟨s124a, s124b, t124, rfl, N124q, i124, K124q, P124, Q124, R124, U124⟩ := hQ124
    have N124 := Fr.app N123 N124q
    have f125 : Exa Z T124.heap b96 "com/example/role_rights/rolerights/decision/Nearest" := (f122.keep K124q)
    have O124 := O121.keep K124q (allS g_b96 all0)
    refine own_go (fun _ ww => Steps.trans st124 ww) ?_
    show own_Goes _ _ _ _ _ _ _ (T124.setTop (mkF m 152 #[.val (.int x0), .val (.int x1), .val (.int x2), .val (.int x3), .val (.int x4), .val (.int x5), .val (.ref b96), .val (.int (3 : Int32)), .unset] []))
    refine own_go (fun _ ww => XS.iloadN X124.here hx rfl (hb hby at_152) rfl  ww) ?_
    show own_Goes _ _ _ _ _ _ _ (T124.setTop (mkF m 153 #[.val (.int x0), .val (.int x1), .val (.int x2), .val (.int x3), .val (.int x4), .val (.int x5), .val (.ref b96), .val (.int (3 : Int32)), .unset] [(.int x2)]))
    refine own_go (fun _ ww => XS.iloadN X124.here hx rfl (hb hby at_153) rfl  ww) ?_
    show own_Goes _ _ _ _ _ _ _ (T124.setTop (mkF m 154 #[.val (.int x0), .val (.int x1), .val (.int x2), .val (.int x3), .val (.int x4), .val (.int x5), .val (.ref b96), .val (.int (3 : Int32)), .unset] [(.int x0), (.int x2)]))
    by_cases hc126 : x0 < x2
    ·
      refine own_go (fun _ ww => XS.icmpYes X124.here hx rfl (pc0 := 154) (pc' := 161) rfl (hb hby at_154) rfl (tlt hc126).2.2.1 (by decide) (by decide) ww) ?_
      show own_Goes _ _ _ _ _ _ _ (T124.setTop (mkF m 161 #[.val (.int x0), .val (.int x1), .val (.int x2), .val (.int x3), .val (.int x4), .val (.int x5), .val (.ref b96), .val (.int (3 : Int32)), .unset] []))
      refine own_go (fun _ ww => XS.iconst X124.here hx rfl (hb hby at_161) ww) ?_
      show own_Goes _ _ _ _ _ _ _ (T124.setTop (mkF m 162 #[.val (.int x0), .val (.int x1), .val (.int x2), .val (.int x3), .val (.int x4), .val (.int x5), .val (.ref b96), .val (.int (3 : Int32)), .unset] [(.int (0 : Int32))]))
      refine own_go (fun _ ww => XS.istore X124.here hx rfl (hb hby at_162) rfl (l' := #[.val (.int x0), .val (.int x1), .val (.int x2), .val (.int x3), .val (.int x4), .val (.int x5), .val (.ref b96), .val (.int (3 : Int32)), .val (.int (0 : Int32))]) rfl ww) ?_
      show own_Goes _ _ _ _ _ _ _ (T124.setTop (mkF m 164 #[.val (.int x0), .val (.int x1), .val (.int x2), .val (.int x3), .val (.int x4), .val (.int x5), .val (.ref b96), .val (.int (3 : Int32)), .val (.int (0 : Int32))] []))
      refine own_go (fun _ ww => XS.aload X124.here hx rfl (hb hby at_164) rfl rfl ww) ?_
      show own_Goes _ _ _ _ _ _ _ (T124.setTop (mkF m 166 #[.val (.int x0), .val (.int x1), .val (.int x2), .val (.int x3), .val (.int x4), .val (.int x5), .val (.ref b96), .val (.int (3 : Int32)), .val (.int (0 : Int32))] [(.ref b96)]))
      refine own_go (fun _ ww => XS.iloadN X124.here hx rfl (hb hby at_166) rfl  ww) ?_
      show own_Goes _ _ _ _ _ _ _ (T124.setTop (mkF m 167 #[.val (.int x0), .val (.int x1), .val (.int x2), .val (.int x3), .val (.int x4), .val (.int x5), .val (.ref b96), .val (.int (3 : Int32)), .val (.int (0 : Int32))] [(.int x2), (.ref b96)]))
      obtain ⟨cq127, kq127, q127a, q127b, q127c⟩ := isOf hZ rfl f125
      obtain ⟨_, _, ⟨T127, L127, k127, n127⟩, -, X127, ⟨Lc127, hQ127, l127, y127, z127⟩, st127⟩ := X124.virtualBack hx (y := (⟨"com/example/role_rights/rolerights/decision/Nearest", "mayCount", "(I)Z"⟩ : MethodName)) (z := (⟨"com/example/role_rights/rolerights/decision/Nearest", "mayCount", "(I)Z"⟩ : MethodName)) hown (mvT hZ (hw _ (List.mem_of_getElem? (i := 38) rfl))) (mvT hZ (hw _ (List.mem_of_getElem? (i := 39) rfl))) (notFace_of_selects (args := #[]) (mvT hZ (hw _ (List.mem_of_getElem? (i := 41) rfl)))) (mvT hZ (hw _ (List.mem_of_getElem? (i := 41) rfl))) (mvT hZ (hw _ (List.mem_of_getElem? (i := 40) rfl))) (by decide) (backOf (W := 0) (rm_may l Z a0 hw [] b96 x2 x0 (0 : Int32) T124.heap n0 O124 Q124 (fun _ => rfl) (fun q => absurd hc126 q)) hZ (hw _ (List.mem_of_getElem? (i := 42) rfl)) (hw _ (List.mem_of_getElem? (i := 2) rfl)) (by decide) (by decide)) q127a q127c (g := (mkF m 167 #[.val (.int x0), .val (.int x1), .val (.int x2), .val (.int x3), .val (.int x4), .val (.int x5), .val (.ref b96), .val (.int (3 : Int32)), .val (.int (0 : Int32))] [(.int x2), (.ref b96)])) rfl (by rw [hml]; rfl) (Steps.refl _) (argsL := [(.int x2)]) (rest := []) (lenOf pd_4 rfl) rfl (by show 2 * 0 + _ ≤ _; exact Nat.le_of_eq rfl) (hb hby at_167) (fun _ _ => ⟨rfl, rfl, (by decide : 1 + 0 ≤ _), (by decide : 4 + 0 ≤ _)⟩)
      dsimp only [Pt.U, Pt.locs, Pt.cells, Pt.slots] at X127 l127 y127 z127 st127 hQ127
      subst l127 y127 z127
      obtain ⟨rfl, N127q, e127⟩ := hQ127
      have N127 := Fr.app N124 N127q
      refine own_go (fun _ ww => Steps.trans st127 ww) ?_
      show own_Goes _ _ _ _ _ _ _ (T127.setTop (mkF m 170 #[.val (.int x0), .val (.int x1), .val (.int x2), .val (.int x3), .val (.int x4), .val (.int x5), .val (.ref b96), .val (.int (3 : Int32)), .val (.int (0 : Int32))] [(.int (0 : Int32))]))
      refine own_go (fun _ ww => XS.iload X127.here hx rfl (hb hby at_170) rfl  ww) ?_
      show own_Goes _ _ _ _ _ _ _ (T127.setTop (mkF m 172 #[.val (.int x0), .val (.int x1), .val (.int x2), .val (.int x3), .val (.int x4), .val (.int x5), .val (.ref b96), .val (.int (3 : Int32)), .val (.int (0 : Int32))] [(.int (0 : Int32)), (.int (0 : Int32))]))
      refine own_go (fun _ ww => XS.icmpNo X127.here hx rfl (hb hby at_172) rfl (teq (by decide : (0 : Int32) = (0 : Int32))).2 ww) ?_
      show own_Goes _ _ _ _ _ _ _ (T127.setTop (mkF m 175 #[.val (.int x0), .val (.int x1), .val (.int x2), .val (.int x3), .val (.int x4), .val (.int x5), .val (.ref b96), .val (.int (3 : Int32)), .val (.int (0 : Int32))] []))
      refine own_go (fun _ ww => XS.iconst X127.here hx rfl (hb hby at_175) ww) ?_
      show own_Goes _ _ _ _ _ _ _ (T127.setTop (mkF m 176 #[.val (.int x0), .val (.int x1), .val (.int x2), .val (.int x3), .val (.int x4), .val (.int x5), .val (.ref b96), .val (.int (3 : Int32)), .val (.int (0 : Int32))] [(.int (1 : Int32))]))
      refine own_go (fun _ ww => XS.goto X127.here hx rfl (pc0 := 176) (pc' := 180) rfl (hb hby at_176) (by decide) (by decide) ww) ?_
      show own_Goes _ _ _ _ _ _ _ (T127.setTop (mkF m 180 #[.val (.int x0), .val (.int x1), .val (.int x2), .val (.int x3), .val (.int x4), .val (.int x5), .val (.ref b96), .val (.int (3 : Int32)), .val (.int (0 : Int32))] [(.int (1 : Int32))]))
      exact own_out X127 hlk (v := some (.int (1 : Int32))) (fun h => by rw [hret] at h; cases h) (fun fs hr => retOut X127 hx (t := .boolean) hret (by decide) (Or.inl ⟨rfl, by simp, _, rfl⟩) (hb hby at_180) hr) e127 ⟨rfl, N127⟩ (by decide) (by decide)
    ·
      refine own_go (fun _ ww => XS.icmpNo X124.here hx rfl (hb hby at_154) rfl (flt hc126).2.2.1 ww) ?_
      show own_Goes _ _ _ _ _ _ _ (T124.setTop (mkF m 157 #[.val (.int x0), .val (.int x1), .val (.int x2), .val (.int x3), .val (.int x4), .val (.int x5), .val (.ref b96), .val (.int (3 : Int32)), .unset] []))
      refine own_go (fun _ ww => XS.iconst X124.here hx rfl (hb hby at_157) ww) ?_
      show own_Goes _ _ _ _ _ _ _ (T124.setTop (mkF m 158 #[.val (.int x0), .val (.int x1), .val (.int x2), .val (.int x3), .val (.int x4), .val (.int x5), .val (.ref b96), .val (.int (3 : Int32)), .unset] [(.int (1 : Int32))]))
      refine own_go (fun _ ww => XS.goto X124.here hx rfl (pc0 := 158) (pc' := 162) rfl (hb hby at_158) (by decide) (by decide) ww) ?_
      show own_Goes _ _ _ _ _ _ _ (T124.setTop (mkF m 162 #[.val (.int x0), .val (.int x1), .val (.int x2), .val (.int x3), .val (.int x4), .val (.int x5), .val (.ref b96), .val (.int (3 : Int32)), .unset] [(.int (1 : Int32))]))
      refine own_go (fun _ ww => XS.istore X124.here hx rfl (hb hby at_162) rfl (l' := #[.val (.int x0), .val (.int x1), .val (.int x2), .val (.int x3), .val (.int x4), .val (.int x5), .val (.ref b96), .val (.int (3 : Int32)), .val (.int (1 : Int32))]) rfl ww) ?_
      show own_Goes _ _ _ _ _ _ _ (T124.setTop (mkF m 164 #[.val (.int x0), .val (.int x1), .val (.int x2), .val (.int x3), .val (.int x4), .val (.int x5), .val (.ref b96), .val (.int (3 : Int32)), .val (.int (1 : Int32))] []))
      refine own_go (fun _ ww => XS.aload X124.here hx rfl (hb hby at_164) rfl rfl ww) ?_
      show own_Goes _ _ _ _ _ _ _ (T124.setTop (mkF m 166 #[.val (.int x0), .val (.int x1), .val (.int x2), .val (.int x3), .val (.int x4), .val (.int x5), .val (.ref b96), .val (.int (3 : Int32)), .val (.int (1 : Int32))] [(.ref b96)]))
      refine own_go (fun _ ww => XS.iloadN X124.here hx rfl (hb hby at_166) rfl  ww) ?_
      show own_Goes _ _ _ _ _ _ _ (T124.setTop (mkF m 167 #[.val (.int x0), .val (.int x1), .val (.int x2), .val (.int x3), .val (.int x4), .val (.int x5), .val (.ref b96), .val (.int (3 : Int32)), .val (.int (1 : Int32))] [(.int x2), (.ref b96)]))
      obtain ⟨cq128, kq128, q128a, q128b, q128c⟩ := isOf hZ rfl f125
      obtain ⟨_, _, ⟨T128, L128, k128, n128⟩, -, X128, ⟨Lc128, hQ128, l128, y128, z128⟩, st128⟩ := X124.virtualBack hx (y := (⟨"com/example/role_rights/rolerights/decision/Nearest", "mayCount", "(I)Z"⟩ : MethodName)) (z := (⟨"com/example/role_rights/rolerights/decision/Nearest", "mayCount", "(I)Z"⟩ : MethodName)) hown (mvT hZ (hw _ (List.mem_of_getElem? (i := 38) rfl))) (mvT hZ (hw _ (List.mem_of_getElem? (i := 39) rfl))) (notFace_of_selects (args := #[]) (mvT hZ (hw _ (List.mem_of_getElem? (i := 41) rfl)))) (mvT hZ (hw _ (List.mem_of_getElem? (i := 41) rfl))) (mvT hZ (hw _ (List.mem_of_getElem? (i := 40) rfl))) (by decide) (backOf (W := 0) (rm_may l Z a0 hw [] b96 x2 x0 (1 : Int32) T124.heap n0 O124 Q124 (fun q => absurd q hc126) (fun _ => rfl)) hZ (hw _ (List.mem_of_getElem? (i := 42) rfl)) (hw _ (List.mem_of_getElem? (i := 2) rfl)) (by decide) (by decide)) q128a q128c (g := (mkF m 167 #[.val (.int x0), .val (.int x1), .val (.int x2), .val (.int x3), .val (.int x4), .val (.int x5), .val (.ref b96), .val (.int (3 : Int32)), .val (.int (1 : Int32))] [(.int x2), (.ref b96)])) rfl (by rw [hml]; rfl) (Steps.refl _) (argsL := [(.int x2)]) (rest := []) (lenOf pd_4 rfl) rfl (by show 2 * 0 + _ ≤ _; exact Nat.le_of_eq rfl) (hb hby at_167) (fun _ _ => ⟨rfl, rfl, (by decide : 1 + 0 ≤ _), (by decide : 4 + 0 ≤ _)⟩)
      dsimp only [Pt.U, Pt.locs, Pt.cells, Pt.slots] at X128 l128 y128 z128 st128 hQ128
      subst l128 y128 z128
      obtain ⟨rfl, N128q, e128⟩ := hQ128
      have N128 := Fr.app N124 N128q
      refine own_go (fun _ ww => Steps.trans st128 ww) ?_
      show own_Goes _ _ _ _ _ _ _ (T128.setTop (mkF m 170 #[.val (.int x0), .val (.int x1), .val (.int x2), .val (.int x3), .val (.int x4), .val (.int x5), .val (.ref b96), .val (.int (3 : Int32)), .val (.int (1 : Int32))] [(.int (1 : Int32))]))
      refine own_go (fun _ ww => XS.iload X128.here hx rfl (hb hby at_170) rfl  ww) ?_
      show own_Goes _ _ _ _ _ _ _ (T128.setTop (mkF m 172 #[.val (.int x0), .val (.int x1), .val (.int x2), .val (.int x3), .val (.int x4), .val (.int x5), .val (.ref b96), .val (.int (3 : Int32)), .val (.int (1 : Int32))] [(.int (1 : Int32)), (.int (1 : Int32))]))
      refine own_go (fun _ ww => XS.icmpNo X128.here hx rfl (hb hby at_172) rfl (teq (by decide : (1 : Int32) = (1 : Int32))).2 ww) ?_
      show own_Goes _ _ _ _ _ _ _ (T128.setTop (mkF m 175 #[.val (.int x0), .val (.int x1), .val (.int x2), .val (.int x3), .val (.int x4), .val (.int x5), .val (.ref b96), .val (.int (3 : Int32)), .val (.int (1 : Int32))] []))
      refine own_go (fun _ ww => XS.iconst X128.here hx rfl (hb hby at_175) ww) ?_
      show own_Goes _ _ _ _ _ _ _ (T128.setTop (mkF m 176 #[.val (.int x0), .val (.int x1), .val (.int x2), .val (.int x3), .val (.int x4), .val (.int x5), .val (.ref b96), .val (.int (3 : Int32)), .val (.int (1 : Int32))] [(.int (1 : Int32))]))
      refine own_go (fun _ ww => XS.goto X128.here hx rfl (pc0 := 176) (pc' := 180) rfl (hb hby at_176) (by decide) (by decide) ww) ?_
      show own_Goes _ _ _ _ _ _ _ (T128.setTop (mkF m 180 #[.val (.int x0), .val (.int x1), .val (.int x2), .val (.int x3), .val (.int x4), .val (.int x5), .val (.ref b96), .val (.int (3 : Int32)), .val (.int (1 : Int32))] [(.int (1 : Int32))]))
      exact own_out X128 hlk (v := some (.int (1 : Int32))) (fun h => by rw [hret] at h; cases h) (fun fs hr => retOut X128 hx (t := .boolean) hret (by decide) (Or.inl ⟨rfl, by simp, _, rfl⟩) (hb hby at_180) hr) e128 ⟨rfl, N128⟩ (by decide) (by decide)
set_option maxRecDepth 65536 in
set_option maxHeartbeats 40000000 in
theorem comes_1 {Post : Tables → Env → Array Value → State → Outcome → State → Prop} (hpost : ∀ tb e args s v u, (limb_1_1.after args s (.returned v) u = true ∧ limb_1_2.after args s (.returned v) u = true ∧ True) → FrameEnd s (.returned v) u (Jvm.fieldLocs frame_1_writes args s ++ Jvm.arrayLocs frame_1_arrays args s ++ Jvm.staticLocs frame_1_statics s) 16 128 → Post tb e args s (.returned v) u) :
    ArmFor flags0 classFile x code maxLocals ret World_1 tables_1 room_1 Calls_1 rest_1 Pre_1 Post := by
  intro l hfl _ _ p e ha hc hk s m args below hf hA hF happ hP
  obtain ⟨hcalls, hrest, hpre⟩ := hP
  obtain ⟨-, -, -, hnamed, -, -, -, hat⟩ := (Spec.applies_iff hf).mp happ
  obtain ⟨hg, hn⟩ := and_e (Cond.before_iff.mp (show (Jvm.Cond.and given_1 narrow_1).before args s = true from hpre))
  obtain ⟨q1, q2⟩ := and_e hg
  obtain ⟨q3, q4⟩ := and_e q2
  obtain ⟨q5, q6⟩ := and_e q4
  obtain ⟨q7, q8⟩ := and_e q6
  obtain ⟨q9, q10⟩ := and_e q8
  obtain ⟨q11, q12⟩ := and_e q10
  obtain ⟨q13, q14⟩ := and_e hn
  obtain ⟨q15, q16⟩ := and_e q14
  obtain ⟨q17, q18⟩ := and_e q16
  obtain ⟨q19, q20⟩ := and_e q18
  obtain ⟨q21, q22⟩ := and_e q20
  obtain ⟨w0, w1, w2, w3, w4, w5, rfl⟩ : ∃ w0 w1 w2 w3 w4 w5 : Value, args = #[w0, w1, w2, w3, w4, w5] := by
    have hs : args.size = 6 := by simpa [Cond.value, given_1] using q1
    obtain ⟨L⟩ := args
    match L, hs with
    | [w0, w1, w2, w3, w4, w5], _ => exact ⟨w0, w1, w2, w3, w4, w5, rfl⟩
  have hw := fun d (hd : d ∈ tables_1) => atoms_spec (ws := Jvm.Cond.code x code maxLocals ret :: tables_1) hat d (List.mem_cons_of_mem _ hd)
  have hfit : Fit s := fun {y c} hc i hi => by
    obtain ⟨ha, rfl⟩ := Array.getElem?_eq_some_iff.mp hc
    have q := List.all_eq_true.mp ((Array.all_eq_true_iff_forall_mem.mp hF) _ (Array.getElem_mem ha)) i (List.mem_range.mpr hi)
    simpa [Array.getElem?_eq_getElem hi] using q
  obtain ⟨i0, ei0⟩ := is_v q3
  obtain rfl : w0 = (.int i0) := Option.some.inj ei0
  obtain ⟨i1, ei1⟩ := is_v q5
  obtain rfl : w1 = (.int i1) := Option.some.inj ei1
  obtain ⟨i2, ei2⟩ := is_v q7
  obtain rfl : w2 = (.int i2) := Option.some.inj ei2
  obtain ⟨i3, ei3⟩ := is_v q9
  obtain rfl : w3 = (.int i3) := Option.some.inj ei3
  obtain ⟨i4, ei4⟩ := is_v q11
  obtain rfl : w4 = (.int i4) := Option.some.inj ei4
  obtain ⟨i5, ei5⟩ := is_v q12
  obtain rfl : w5 = (.int i5) := Option.some.inj ei5
  obtain ⟨a_Effect_GRANT, ev_Effect_GRANT⟩ := exa_v q13
  have E_Effect_GRANT : Exa s s.heap a_Effect_GRANT "com/example/role_rights/rolerights/policy/Effect" := Exa.start ev_Effect_GRANT q13
  have S_Effect_GRANT : Sta s s.heap "com/example/role_rights/rolerights/policy/Effect" "GRANT" "Lcom/example/role_rights/rolerights/policy/Effect;" (.ref a_Effect_GRANT) := Sta.start ev_Effect_GRANT (Or.inr ⟨(hw _ (List.mem_of_getElem? (i := 21) rfl)), (hw _ (List.mem_of_getElem? (i := 22) rfl))⟩)
  obtain ⟨a_Effect_FORBID, ev_Effect_FORBID⟩ := exa_v q15
  have E_Effect_FORBID : Exa s s.heap a_Effect_FORBID "com/example/role_rights/rolerights/policy/Effect" := Exa.start ev_Effect_FORBID q15
  have S_Effect_FORBID : Sta s s.heap "com/example/role_rights/rolerights/policy/Effect" "FORBID" "Lcom/example/role_rights/rolerights/policy/Effect;" (.ref a_Effect_FORBID) := Sta.start ev_Effect_FORBID (Or.inr ⟨(hw _ (List.mem_of_getElem? (i := 21) rfl)), (hw _ (List.mem_of_getElem? (i := 48) rfl))⟩)
  obtain ⟨a_Effect_DENY, ev_Effect_DENY⟩ := exa_v q17
  have E_Effect_DENY : Exa s s.heap a_Effect_DENY "com/example/role_rights/rolerights/policy/Effect" := Exa.start ev_Effect_DENY q17
  have S_Effect_DENY : Sta s s.heap "com/example/role_rights/rolerights/policy/Effect" "DENY" "Lcom/example/role_rights/rolerights/policy/Effect;" (.ref a_Effect_DENY) := Sta.start ev_Effect_DENY (Or.inr ⟨(hw _ (List.mem_of_getElem? (i := 21) rfl)), (hw _ (List.mem_of_getElem? (i := 50) rfl))⟩)
  have F_Effect_GRANT_ordinal := own_fI ev_Effect_GRANT q19
  have F_Effect_DENY_ordinal := own_fI ev_Effect_DENY q21
  have F_Effect_FORBID_ordinal := own_fI ev_Effect_FORBID q22
  obtain ⟨n, o, h1, h2, h3, _, L, rfl, ⟨rfl, N⟩, hq⟩ := rm_law l s _ hw tables_1 i0 i1 i2 i3 i4 i5 a_Effect_GRANT a_Effect_DENY a_Effect_FORBID s.heap s.heap.size (Old.start s) S_Effect_GRANT S_Effect_DENY S_Effect_FORBID p e ha hc hk s m _ below hf ((Spec.applies_iff_loose hf).mp happ).1 ⟨rfl, State.Warmed39.refl s, rfl⟩ trivial
  refine ⟨n, _, h1, h2, h3, hpost _ _ _ _ _ _ ⟨Cond.after_iff.mpr rfl, Cond.after_iff.mpr (eq_i res_at (Term.int_eval (1)) rfl), trivial⟩ ⟨hq.1, hq.2.1, (hq.2.2.sift fun y hy => Or.inr (N y hy)).mono (by decide) (by decide)⟩⟩
theorem main_1_1 : Claimed_1_1 := comes_1 fun _ _ _ _ _ _ h hF => ⟨h.1, hF⟩
theorem main_1_2 : Claimed_1_2 := comes_1 fun _ _ _ _ _ _ h hF => ⟨h.2.1, hF⟩
end Jvm.Pilot.@@N@@
namespace Jvm.Pilot.@@N@@
open Jvm Jvm.ClassFile Sem Op Lib Jvm.Free Jvm.Stand Jvm.Pilot.@@N@@.Jvm.D
/-! MADE BY PROGRAM (witnessworld.py) out of the Statement's table words and the real class files: 17 classes; the members and pool entries that the words name. The judged class is class 1, her method 2. -/
namespace start1
open Jvm.ClassFile
def u (s : String) : CpInfo := .utf8 (stringToUtf16 s)
/-- a pool by its gaps: so many unusable entries, then the entry; so many at the end -/
def gap : Nat → List CpInfo → List CpInfo
  | 0, r => r
  | n + 1, r => .unusable :: gap n r
def poolList (es : List (Nat × CpInfo)) (last : Nat) : List CpInfo := es.foldr (fun e r => gap e.1 (e.2 :: r)) (gap last [])
def pool (es : List (Nat × CpInfo)) (last : Nat) : Array CpInfo := ⟨poolList es last⟩
def fileOf (pool : Array CpInfo) (this : Nat) (attrs : Array Attribute := #[]) (ms : Array MethodInfo := #[]) (fl : Nat := 33) (sup : Nat := 0) (ifs : Array Nat := #[]) (fds : Array FieldInfo := #[]) : ClassFile where
  minorVersion := 0
  majorVersion := 65
  constantPool := pool
  accessFlags := fl
  thisClass := this
  superClass := sup
  interfaces := ifs
  fields := fds
  methods := ms
  attributes := attrs
def plain (name : String) (sup : Option ClassId) : Class where
  name := name
  kind := .ordinary
  loader := none
  accessFlags := 33
  super := sup
  interfaces := #[]
  cf := none
  fields := #[]
  methods := #[]
  instanceTypes := #[]
  staticTypes := #[]
  resolved := #[]
  callSites := []
  init := .initialized
  statics := none
  mirror := none

def pool0 : Array CpInfo := pool [(5, u "<init>"), (0, u "()V"), (1, .class_ 10), (1, u "java/lang/Object")] 113

def k0c0 : Code := { maxStack := 0, maxLocals := 1, code := object_method_1_code, exceptionTable := #[], attributes := #[] }
def k0m0 : Method := { name := "<init>", desc := "()V", sig := { parameters := [], returnType := none }, accessFlags := 1, code := some k0c0 }
/-- java/lang/Object -/
def k0 : Class := { plain "java/lang/Object" none with
  accessFlags := 33
  interfaces := #[]
  cf := some (fileOf pool0 8 #[] #[{ accessFlags := 1, nameIndex := 5, descriptorIndex := 6, attributes := #[] }] 33 0 #[] #[])
  fields := #[]
  methods := #[k0m0]
  instanceTypes := #[]
  staticTypes := #[]
  resolved := Array.replicate 124 none
  statics := none }

def pool1 : Array CpInfo := pool [(2, .class_ 4), (0, .nameAndType 5 6), (0, u "java/lang/Object"), (0, u "<init>"), (0, u "()V"), (0, .fieldref 8 9), (0, .class_ 10), (0, .nameAndType 11 12), (0, u "com/example/role_rights/rolerights/policy/Effect"), (0, u "GRANT"), (0, u "Lcom/example/role_rights/rolerights/policy/Effect;"), (0, .fieldref 8 14), (0, .nameAndType 15 12), (0, u "DENY"), (0, .fieldref 8 17), (0, .nameAndType 18 12), (0, u "FORBID"), (0, .class_ 20), (0, u "com/example/role_rights/rolerights/decision/Nearest"), (0, .methodref 19 3), (0, .methodref 23 24), (0, .class_ 25), (0, .nameAndType 26 27), (0, u "com/example/role_rights/rolerights/decision/NearestMayCountPinLaw"), (0, u "pick"), (0, u "(I)Lcom/example/role_rights/rolerights/policy/Effect;"), (0, .methodref 19 29), (0, .nameAndType 30 31), (0, u "add"), (0, u "(IIILcom/example/role_rights/rolerights/policy/Effect;)V"), (0, .methodref 33 34), (0, .class_ 35), (0, .nameAndType 36 37), (0, u "java/lang/Math"), (0, u "min"), (0, u "(II)I"), (0, .methodref 19 39), (0, .nameAndType 40 41), (0, u "mayCount"), (0, u "(I)Z"), (3, u "law"), (0, u "(IIIIII)Z")] 2

def k1m0 : Method := { name := "<init>", desc := "()V", sig := { parameters := [], returnType := none }, accessFlags := 1, code := none }
def k1c1 : Code := { maxStack := 2, maxLocals := 2, code := method_2_code, exceptionTable := #[], attributes := #[] }
def k1m1 : Method := { name := "pick", desc := "(I)Lcom/example/role_rights/rolerights/policy/Effect;", sig := { parameters := [.int], returnType := some (.object "com/example/role_rights/rolerights/policy/Effect") }, accessFlags := 10, code := some k1c1 }
def k1c2 : Code := { maxStack := 6, maxLocals := 9, code := code, exceptionTable := #[], attributes := #[] }
def k1m2 : Method := { name := "law", desc := "(IIIIII)Z", sig := { parameters := [.int, .int, .int, .int, .int, .int], returnType := some .boolean }, accessFlags := 9, code := some k1c2 }
/-- com/example/role_rights/rolerights/decision/NearestMayCountPinLaw -/
def k1 : Class := { plain "com/example/role_rights/rolerights/decision/NearestMayCountPinLaw" (some 0) with
  accessFlags := 49
  interfaces := #[]
  cf := some (fileOf pool1 23 #[] #[{ accessFlags := 1, nameIndex := 5, descriptorIndex := 6, attributes := #[] }, { accessFlags := 10, nameIndex := 26, descriptorIndex := 27, attributes := #[] }, { accessFlags := 9, nameIndex := 45, descriptorIndex := 46, attributes := #[] }] 49 2 #[] #[])
  fields := #[]
  methods := #[k1m0, k1m1, k1m2]
  instanceTypes := #[]
  staticTypes := #[]
  resolved := Array.replicate 49 none
  statics := none }

def pool2 : Array CpInfo := pool [(1, .methodref 2 3), (0, .class_ 4), (0, .nameAndType 5 6), (0, u "java/lang/Object"), (0, u "<init>"), (0, u "()V"), (0, .class_ 8), (0, u "java/lang/Integer"), (0, .integer 2147483647), (0, .fieldref 11 12), (0, .class_ 13), (0, .nameAndType 14 15), (0, u "com/example/role_rights/rolerights/decision/Nearest"), (0, u "objectDistance"), (0, u "I"), (0, .fieldref 11 17), (0, .nameAndType 18 15), (0, u "subjectDistance"), (0, .fieldref 11 20), (0, .nameAndType 21 15), (0, u "rightDistance"), (0, .methodref 11 23), (0, .nameAndType 24 25), (0, u "compare"), (0, u "(III)I"), (0, .fieldref 11 27), (0, .nameAndType 28 29), (0, u "effect"), (0, u "Lcom/example/role_rights/rolerights/policy/Effect;"), (0, .methodref 11 31), (0, .nameAndType 32 33), (0, u "tie"), (0, u "(Lcom/example/role_rights/rolerights/policy/Effect;Lcom/example/role_rights/rolerights/policy/Effect;)Lcom/example/role_rights/rolerights/policy/Effect;"), (0, .methodref 7 35), (0, .nameAndType 24 36), (0, u "(II)I"), (0, .fieldref 38 39), (0, .class_ 40), (0, .nameAndType 41 29), (0, u "com/example/role_rights/rolerights/policy/Effect"), (0, u "DENY"), (2, u "add"), (0, u "(IIILcom/example/role_rights/rolerights/policy/Effect;)V"), (2, u "mayCount"), (0, u "(I)Z")] 4

def k2c0 : Code := { maxStack := 2, maxLocals := 1, code := prog_23_method_1_code, exceptionTable := #[], attributes := #[] }
def k2m0 : Method := { name := "<init>", desc := "()V", sig := { parameters := [], returnType := none }, accessFlags := 0, code := some k2c0 }
def k2c1 : Code := { maxStack := 4, maxLocals := 6, code := prog_23_method_2_code, exceptionTable := #[], attributes := #[] }
def k2m1 : Method := { name := "add", desc := "(IIILcom/example/role_rights/rolerights/policy/Effect;)V", sig := { parameters := [.int, .int, .int, (.object "com/example/role_rights/rolerights/policy/Effect")], returnType := none }, accessFlags := 0, code := some k2c1 }
def k2c2 : Code := { maxStack := 2, maxLocals := 2, code := prog_23_method_4_code, exceptionTable := #[], attributes := #[] }
def k2m2 : Method := { name := "mayCount", desc := "(I)Z", sig := { parameters := [.int], returnType := some .boolean }, accessFlags := 0, code := some k2c2 }
def k2c3 : Code := { maxStack := 2, maxLocals := 5, code := prog_23_method_6_code, exceptionTable := #[], attributes := #[] }
def k2m3 : Method := { name := "compare", desc := "(III)I", sig := { parameters := [.int, .int, .int], returnType := some .int }, accessFlags := 2, code := some k2c3 }
def k2c4 : Code := { maxStack := 2, maxLocals := 2, code := prog_23_method_7_code, exceptionTable := #[], attributes := #[] }
def k2m4 : Method := { name := "tie", desc := "(Lcom/example/role_rights/rolerights/policy/Effect;Lcom/example/role_rights/rolerights/policy/Effect;)Lcom/example/role_rights/rolerights/policy/Effect;", sig := { parameters := [(.object "com/example/role_rights/rolerights/policy/Effect"), (.object "com/example/role_rights/rolerights/policy/Effect")], returnType := some (.object "com/example/role_rights/rolerights/policy/Effect") }, accessFlags := 10, code := some k2c4 }
/-- com/example/role_rights/rolerights/decision/Nearest -/
def k2 : Class := { plain "com/example/role_rights/rolerights/decision/Nearest" (some 0) with
  accessFlags := 32
  interfaces := #[]
  cf := some (fileOf pool2 11 #[] #[{ accessFlags := 0, nameIndex := 5, descriptorIndex := 6, attributes := #[] }, { accessFlags := 0, nameIndex := 44, descriptorIndex := 45, attributes := #[] }, { accessFlags := 0, nameIndex := 48, descriptorIndex := 49, attributes := #[] }, { accessFlags := 2, nameIndex := 24, descriptorIndex := 25, attributes := #[] }, { accessFlags := 10, nameIndex := 32, descriptorIndex := 33, attributes := #[] }] 32 2 #[] #[{ accessFlags := 2, nameIndex := 28, descriptorIndex := 29, attributes := #[] }, { accessFlags := 2, nameIndex := 14, descriptorIndex := 15, attributes := #[] }, { accessFlags := 2, nameIndex := 18, descriptorIndex := 15, attributes := #[] }, { accessFlags := 2, nameIndex := 21, descriptorIndex := 15, attributes := #[] }])
  fields := #[{ name := "effect", type := (.object "com/example/role_rights/rolerights/policy/Effect"), accessFlags := 2, slot := 0, constantValue := 0 }, { name := "objectDistance", type := .int, accessFlags := 2, slot := 1, constantValue := 0 }, { name := "subjectDistance", type := .int, accessFlags := 2, slot := 2, constantValue := 0 }, { name := "rightDistance", type := .int, accessFlags := 2, slot := 3, constantValue := 0 }]
  methods := #[k2m0, k2m1, k2m2, k2m3, k2m4]
  instanceTypes := #[(.object "com/example/role_rights/rolerights/policy/Effect"), .int, .int, .int]
  staticTypes := #[]
  resolved := Array.replicate 54 none
  statics := none }

def pool3 : Array CpInfo := pool [(1, .class_ 2), (0, u "java/lang/constant/Constable"), (0, .class_ 4), (0, u "java/lang/Object")] 6

/-- java/lang/constant/Constable -/
def k3 : Class := { plain "java/lang/constant/Constable" (some 0) with
  accessFlags := 1537
  interfaces := #[]
  cf := some (fileOf pool3 1 #[] #[] 1537 3 #[] #[])
  fields := #[]
  methods := #[]
  instanceTypes := #[]
  staticTypes := #[]
  resolved := Array.replicate 11 none
  statics := none }

def pool4 : Array CpInfo := pool [(1, .class_ 2), (0, u "java/lang/Comparable"), (0, .class_ 4), (0, u "java/lang/Object")] 7

/-- java/lang/Comparable -/
def k4 : Class := { plain "java/lang/Comparable" (some 0) with
  accessFlags := 1537
  interfaces := #[]
  cf := some (fileOf pool4 1 #[] #[] 1537 3 #[] #[])
  fields := #[]
  methods := #[]
  instanceTypes := #[]
  staticTypes := #[]
  resolved := Array.replicate 12 none
  statics := none }

def pool5 : Array CpInfo := pool [(1, .class_ 2), (0, u "java/io/Serializable"), (0, .class_ 4), (0, u "java/lang/Object")] 2

/-- java/io/Serializable -/
def k5 : Class := { plain "java/io/Serializable" (some 0) with
  accessFlags := 1537
  interfaces := #[]
  cf := some (fileOf pool5 1 #[] #[] 1537 3 #[] #[])
  fields := #[]
  methods := #[]
  instanceTypes := #[]
  staticTypes := #[]
  resolved := Array.replicate 7 none
  statics := none }

def pool6 : Array CpInfo := pool [(2, .class_ 4), (1, u "java/lang/Enum"), (0, u "name"), (0, u "Ljava/lang/String;"), (2, u "ordinal"), (0, u "I"), (1, .class_ 14), (1, u "java/lang/Object"), (4, u "hash"), (86, .class_ 108), (1, u "java/lang/Enum$EnumDesc"), (2, .class_ 112), (0, u "java/lang/constant/Constable"), (0, .class_ 114), (0, u "java/lang/Comparable"), (0, .class_ 116), (0, u "java/io/Serializable")] 87

/-- java/lang/Enum -/
def k6 : Class := { plain "java/lang/Enum" (some 0) with
  accessFlags := 1057
  interfaces := #[3, 4, 5]
  cf := some (fileOf pool6 2 #[.nestMembers #[106]] #[] 1057 12 #[111, 113, 115] #[{ accessFlags := 18, nameIndex := 5, descriptorIndex := 6, attributes := #[] }, { accessFlags := 18, nameIndex := 9, descriptorIndex := 10, attributes := #[] }, { accessFlags := 2, nameIndex := 19, descriptorIndex := 10, attributes := #[] }])
  fields := #[{ name := "name", type := (.object "java/lang/String"), accessFlags := 18, slot := 0, constantValue := 0 }, { name := "ordinal", type := .int, accessFlags := 18, slot := 1, constantValue := 0 }, { name := "hash", type := .int, accessFlags := 2, slot := 2, constantValue := 0 }]
  methods := #[]
  instanceTypes := #[(.object "java/lang/String"), .int, .int]
  staticTypes := #[]
  resolved := Array.replicate 204 none
  statics := none }

def pool7 : Array CpInfo := pool [(1, .class_ 2), (0, u "com/example/role_rights/rolerights/policy/Effect"), (2, u "GRANT"), (0, u "Lcom/example/role_rights/rolerights/policy/Effect;"), (2, u "DENY"), (2, u "FORBID"), (2, u "$VALUES"), (0, u "[Lcom/example/role_rights/rolerights/policy/Effect;"), (6, .class_ 25), (1, u "java/lang/Enum"), (8, u "word"), (0, u "Ljava/lang/String;")] 39

/-- com/example/role_rights/rolerights/policy/Effect -/
def k7 : Class := { plain "com/example/role_rights/rolerights/policy/Effect" (some 6) with
  accessFlags := 16433
  interfaces := #[]
  cf := some (fileOf pool7 1 #[] #[] 16433 23 #[] #[{ accessFlags := 16409, nameIndex := 5, descriptorIndex := 6, attributes := #[] }, { accessFlags := 16409, nameIndex := 9, descriptorIndex := 6, attributes := #[] }, { accessFlags := 16409, nameIndex := 12, descriptorIndex := 6, attributes := #[] }, { accessFlags := 18, nameIndex := 34, descriptorIndex := 35, attributes := #[] }, { accessFlags := 4122, nameIndex := 15, descriptorIndex := 16, attributes := #[] }])
  fields := #[{ name := "GRANT", type := (.object "com/example/role_rights/rolerights/policy/Effect"), accessFlags := 16409, slot := 0, constantValue := 0 }, { name := "DENY", type := (.object "com/example/role_rights/rolerights/policy/Effect"), accessFlags := 16409, slot := 1, constantValue := 0 }, { name := "FORBID", type := (.object "com/example/role_rights/rolerights/policy/Effect"), accessFlags := 16409, slot := 2, constantValue := 0 }, { name := "word", type := (.object "java/lang/String"), accessFlags := 18, slot := 3, constantValue := 0 }, { name := "$VALUES", type := (.array (.object "com/example/role_rights/rolerights/policy/Effect")), accessFlags := 4122, slot := 3, constantValue := 0 }]
  methods := #[]
  instanceTypes := #[(.object "java/lang/String"), .int, .int, (.object "java/lang/String")]
  staticTypes := #[(.object "com/example/role_rights/rolerights/policy/Effect"), (.object "com/example/role_rights/rolerights/policy/Effect"), (.object "com/example/role_rights/rolerights/policy/Effect"), (.array (.object "com/example/role_rights/rolerights/policy/Effect"))]
  resolved := Array.replicate 75 none
  statics := some 0 }

def pool8 : Array CpInfo := pool [(2, .class_ 4), (1, u "java/lang/Object"), (0, u "<init>"), (0, u "()V"), (1, .class_ 10), (1, u "java/lang/Number"), (2, .class_ 14), (0, u "java/io/Serializable"), (0, u "serialVersionUID"), (0, u "J")] 20

def k8m0 : Method := { name := "<init>", desc := "()V", sig := { parameters := [], returnType := none }, accessFlags := 1, code := none }
/-- java/lang/Number -/
def k8 : Class := { plain "java/lang/Number" (some 0) with
  accessFlags := 1057
  interfaces := #[5]
  cf := some (fileOf pool8 8 #[] #[{ accessFlags := 1, nameIndex := 5, descriptorIndex := 6, attributes := #[] }] 1057 2 #[13] #[{ accessFlags := 26, nameIndex := 15, descriptorIndex := 16, attributes := #[] }])
  fields := #[{ name := "serialVersionUID", type := .long, accessFlags := 26, slot := 0, constantValue := 0 }]
  methods := #[k8m0]
  instanceTypes := #[]
  staticTypes := #[.long]
  resolved := Array.replicate 37 none
  statics := none }

def pool9 : Array CpInfo := pool [(1, .class_ 2), (0, u "java/lang/constant/ConstantDesc"), (0, .class_ 4), (0, u "java/lang/Object")] 32

/-- java/lang/constant/ConstantDesc -/
def k9 : Class := { plain "java/lang/constant/ConstantDesc" (some 0) with
  accessFlags := 1537
  interfaces := #[]
  cf := some (fileOf pool9 1 #[] #[] 1537 3 #[] #[])
  fields := #[]
  methods := #[]
  instanceTypes := #[]
  staticTypes := #[]
  resolved := Array.replicate 37 none
  statics := none }

def pool10 : Array CpInfo := pool [(1, .class_ 2), (0, u "java/lang/Integer"), (16, u "digits"), (0, u "[C"), (39, u "(II)I"), (24, u "DigitOnes"), (0, u "[B"), (2, u "DigitTens"), (99, .class_ 190), (0, u "java/lang/Integer$IntegerCache"), (3, u "I"), (8, .class_ 204), (0, u "java/lang/Number"), (2, u "value"), (53, u "compare"), (40, u "TYPE"), (0, u "Ljava/lang/Class;"), (0, .class_ 305), (0, u "java/lang/Comparable"), (0, .class_ 307), (0, u "java/lang/constant/Constable"), (0, .class_ 309), (0, u "java/lang/constant/ConstantDesc"), (0, u "MIN_VALUE"), (1, u "MAX_VALUE"), (3, u "SIZE"), (1, u "BYTES"), (1, u "serialVersionUID"), (0, u "J")] 131

def k10c0 : Code := { maxStack := 2, maxLocals := 2, code := jdk_33_method_40_code, exceptionTable := #[], attributes := #[] }
def k10m0 : Method := { name := "compare", desc := "(II)I", sig := { parameters := [.int, .int], returnType := some .int }, accessFlags := 9, code := some k10c0 }
/-- java/lang/Integer -/
def k10 : Class := { plain "java/lang/Integer" (some 8) with
  accessFlags := 49
  interfaces := #[4, 3, 9]
  cf := some (fileOf pool10 1 #[.nestMembers #[189]] #[{ accessFlags := 9, nameIndex := 261, descriptorIndex := 60, attributes := #[] }] 49 203 #[304, 306, 308] #[{ accessFlags := 25, nameIndex := 310, descriptorIndex := 194, attributes := #[] }, { accessFlags := 25, nameIndex := 312, descriptorIndex := 194, attributes := #[] }, { accessFlags := 25, nameIndex := 302, descriptorIndex := 303, attributes := #[] }, { accessFlags := 24, nameIndex := 19, descriptorIndex := 20, attributes := #[] }, { accessFlags := 24, nameIndex := 89, descriptorIndex := 86, attributes := #[] }, { accessFlags := 24, nameIndex := 85, descriptorIndex := 86, attributes := #[] }, { accessFlags := 18, nameIndex := 207, descriptorIndex := 194, attributes := #[] }, { accessFlags := 25, nameIndex := 316, descriptorIndex := 194, attributes := #[] }, { accessFlags := 25, nameIndex := 318, descriptorIndex := 194, attributes := #[] }, { accessFlags := 26, nameIndex := 320, descriptorIndex := 321, attributes := #[] }])
  fields := #[{ name := "MIN_VALUE", type := .int, accessFlags := 25, slot := 0, constantValue := 0 }, { name := "MAX_VALUE", type := .int, accessFlags := 25, slot := 1, constantValue := 0 }, { name := "TYPE", type := (.object "java/lang/Class"), accessFlags := 25, slot := 2, constantValue := 0 }, { name := "digits", type := (.array .char), accessFlags := 24, slot := 3, constantValue := 0 }, { name := "DigitTens", type := (.array .byte), accessFlags := 24, slot := 4, constantValue := 0 }, { name := "DigitOnes", type := (.array .byte), accessFlags := 24, slot := 5, constantValue := 0 }, { name := "value", type := .int, accessFlags := 18, slot := 0, constantValue := 0 }, { name := "SIZE", type := .int, accessFlags := 25, slot := 6, constantValue := 0 }, { name := "BYTES", type := .int, accessFlags := 25, slot := 7, constantValue := 0 }, { name := "serialVersionUID", type := .long, accessFlags := 26, slot := 8, constantValue := 0 }]
  methods := #[k10m0]
  instanceTypes := #[.int]
  staticTypes := #[.int, .int, (.object "java/lang/Class"), (.array .char), (.array .byte), (.array .byte), .int, .int, .long]
  resolved := Array.replicate 453 none
  statics := none }

def pool11 : Array CpInfo := pool [(1, .class_ 2), (0, u "java/lang/Math"), (1, .class_ 6), (1, u "java/lang/Object"), (0, u "<init>"), (0, u "()V"), (89, .class_ 100), (1, u "java/lang/Math$RandomNumberGeneratorHolder"), (71, u "negativeZeroFloatBits"), (0, u "J"), (2, u "negativeZeroDoubleBits"), (24, u "min"), (43, u "$assertionsDisabled"), (0, u "Z"), (88, u "(II)I"), (2, u "twoToTheDoubleScaleDown"), (0, u "D"), (4, u "twoToTheDoubleScaleUp"), (9, u "E"), (3, u "PI"), (2, u "TAU"), (2, u "DEGREES_TO_RADIANS"), (0, u "RADIANS_TO_DEGREES")] 94

def k11m0 : Method := { name := "<init>", desc := "()V", sig := { parameters := [], returnType := none }, accessFlags := 2, code := none }
def k11c1 : Code := { maxStack := 2, maxLocals := 2, code := jdk_29_method_69_code, exceptionTable := #[], attributes := #[] }
def k11m1 : Method := { name := "min", desc := "(II)I", sig := { parameters := [.int, .int], returnType := some .int }, accessFlags := 9, code := some k11c1 }
/-- java/lang/Math -/
def k11 : Class := { plain "java/lang/Math" (some 0) with
  accessFlags := 49
  interfaces := #[]
  cf := some (fileOf pool11 1 #[.nestMembers #[98]] #[{ accessFlags := 2, nameIndex := 7, descriptorIndex := 8, attributes := #[] }, { accessFlags := 9, nameIndex := 201, descriptorIndex := 335, attributes := #[] }] 49 4 #[] #[{ accessFlags := 25, nameIndex := 354, descriptorIndex := 339, attributes := #[] }, { accessFlags := 25, nameIndex := 358, descriptorIndex := 339, attributes := #[] }, { accessFlags := 25, nameIndex := 361, descriptorIndex := 339, attributes := #[] }, { accessFlags := 26, nameIndex := 364, descriptorIndex := 339, attributes := #[] }, { accessFlags := 26, nameIndex := 365, descriptorIndex := 339, attributes := #[] }, { accessFlags := 26, nameIndex := 172, descriptorIndex := 173, attributes := #[] }, { accessFlags := 26, nameIndex := 176, descriptorIndex := 173, attributes := #[] }, { accessFlags := 8, nameIndex := 344, descriptorIndex := 339, attributes := #[] }, { accessFlags := 8, nameIndex := 338, descriptorIndex := 339, attributes := #[] }, { accessFlags := 4120, nameIndex := 245, descriptorIndex := 246, attributes := #[] }])
  fields := #[{ name := "E", type := .double, accessFlags := 25, slot := 0, constantValue := 0 }, { name := "PI", type := .double, accessFlags := 25, slot := 1, constantValue := 0 }, { name := "TAU", type := .double, accessFlags := 25, slot := 2, constantValue := 0 }, { name := "DEGREES_TO_RADIANS", type := .double, accessFlags := 26, slot := 3, constantValue := 0 }, { name := "RADIANS_TO_DEGREES", type := .double, accessFlags := 26, slot := 4, constantValue := 0 }, { name := "negativeZeroFloatBits", type := .long, accessFlags := 26, slot := 5, constantValue := 0 }, { name := "negativeZeroDoubleBits", type := .long, accessFlags := 26, slot := 6, constantValue := 0 }, { name := "twoToTheDoubleScaleUp", type := .double, accessFlags := 8, slot := 7, constantValue := 0 }, { name := "twoToTheDoubleScaleDown", type := .double, accessFlags := 8, slot := 8, constantValue := 0 }, { name := "$assertionsDisabled", type := .boolean, accessFlags := 4120, slot := 9, constantValue := 0 }]
  methods := #[k11m0, k11m1]
  instanceTypes := #[]
  staticTypes := #[.double, .double, .double, .double, .double, .long, .long, .double, .double, .boolean]
  resolved := Array.replicate 460 none
  statics := none }

def pool12 : Array CpInfo := pool [(1, u "java/lang/Cloneable"), (0, .class_ 1), (0, u "java/lang/Object"), (0, .class_ 3)] 3

/-- java/lang/Cloneable -/
def k12 : Class := { plain "java/lang/Cloneable" (some 0) with
  accessFlags := 1537
  interfaces := #[]
  cf := some (fileOf pool12 2 #[] #[] 1537 4 #[] #[])
  fields := #[]
  methods := #[]
  instanceTypes := #[]
  staticTypes := #[]
  resolved := Array.replicate 8 none
  statics := none }

/-- the primitive byte -/
def k13 : Class := { plain "byte" none with kind := .primitive 'B', accessFlags := 0x411 }
/-- [B -/
def k14 : Class := { plain "[B" (some 0) with kind := .array 13 .byte, interfaces := #[12, 5], accessFlags := 1041 }

/-- the primitive int -/
def k15 : Class := { plain "int" none with kind := .primitive 'I', accessFlags := 0x411 }
/-- [I -/
def k16 : Class := { plain "[I" (some 0) with kind := .array 15 .int, interfaces := #[12, 5], accessFlags := 1041 }

def heap : Heap := #[{ cls := 7, slots := #[.ref 1, .ref 2, .ref 3, .null], vm := .statics 7 },
  { cls := 7, slots := #[.null, .int 0, .int 0, .null], vm := .none },
  { cls := 7, slots := #[.null, .int 1, .int 0, .null], vm := .none },
  { cls := 7, slots := #[.null, .int 2, .int 0, .null], vm := .none }]
def classes : Array Class := #[k0, k1, k2, k3, k4, k5, k6, k7, k8, k9, k10, k11, k12, k13, k14, k15, k16]
def interned : List (Array UInt16 × Addr) := []
def slotsUsed : Nat := 16
def theMethod : MethodId := ⟨1, 2⟩
def args0 : Array Value := #[.int 1, .int 2, .int 3, .int 4, .int 5, .int 6]
def aboutOver (below : List Frame) : State where
  vm := { classes := classes, interned := interned.toArray }
  heap := heap
  slotsUsed := slotsUsed
  threads := #[{ frames := .invoking theMethod args0 :: below }]
def below0 : List Frame := [.native { method := ⟨0, 0⟩, args := #[] }]
def about1 : State := aboutOver below0
def p0 : Program := .bare "" "" ""
def e0 : Env := launch0.env 0 0 0
theorem w_frames : about1.frames = Frame.invoking theMethod args0 :: below0 := rfl
set_option maxRecDepth 65536 in
theorem w_args : argsFit about1.vm theMethod args0 = true := by decide +kernel
set_option maxRecDepth 65536 in
theorem w_heap : heapFits about1 = true := by decide +kernel
set_option maxRecDepth 65536 in
theorem w_runnable : about1.curStatus? = some .runnable := by decide +kernel
set_option maxRecDepth 65536 in
theorem w_alone : about1.alone = true := by decide +kernel
set_option maxRecDepth 65536 in
theorem w_named : about1.methodNamed? x = some theMethod := by decide +kernel
set_option maxRecDepth 65536 in
theorem w_hears : about1.hears theMethod below0 = true := by decide +kernel
set_option maxRecDepth 65536 in
theorem w_ripe : about1.ripe theMethod args0 below0 = true := by decide +kernel
theorem w_running : about1.status = .running := rfl
set_option maxRecDepth 65536 in
theorem w_room : about1.hasRoom e0.platform room_1 = true :=
  launch0.hasRoom_least _ room_1 (by decide +kernel) (by decide +kernel) (by decide +kernel) (by decide +kernel) (by decide +kernel) (by decide +kernel)
theorem allAtoms_all (ts : List Jvm.Cond) (a : Array Jvm.Value) (st : Jvm.State) : (allAtoms ts).before a st = ts.all (fun c => c.before a st) := by
  induction ts with
  | nil => rfl
  | cons c t ih =>
    show (Jvm.Cond.and c (allAtoms t)).before a st = _
    rw [Jvm.Cond.before_and, ih, List.all_cons]
def words1 : List Jvm.Cond := Jvm.Cond.code x code maxLocals ret :: tables_1
/-- a 'code' word, met by the world's own term for the bytes: nothing is compared byte by byte -/
theorem code_word {y : MethodName} {bytes : ByteArray} {mx : Nat} {rt : Option FieldType} {a : Array Value} {s : State} {m : MethodId} {meth : Method} {c : Code} (h1 : s.methodNamed? y = some m) (h2 : s.vm.method? m = some meth) (h3 : meth.code = some c) (h4 : c.code = bytes)
    (h5 : (c.maxLocals == mx && c.exceptionTable.isEmpty && decide (c.maxStack ≤ mostOperands) && decide (meth.sig.returnType = rt) && !meth.locks && decide (parseMethodDescriptor y.desc = some meth.sig)) = true) : (Jvm.Cond.code y bytes mx rt).before a s = true := by
  simp only [Bool.and_eq_true, beq_iff_eq, Bool.not_eq_true', decide_eq_true_eq] at h5
  obtain ⟨⟨⟨⟨⟨g1, g2⟩, g3⟩, g4⟩, g5⟩, g6⟩ := h5
  simp [Cond.before, Cond.holds, Cond.value, h1, h2, h3, h4, g1, g2, g3, g4, g5, g6]
def isCode : Jvm.Cond → Bool
  | .code _ _ _ _ => true
  | _ => false
theorem all_split {L : List Jvm.Cond} {P : Jvm.Cond → Bool} (h1 : L.all (fun c => isCode c || P c) = true) (h2 : ∀ c ∈ L.filter isCode, P c = true) : L.all P = true := by
  refine List.all_eq_true.mpr fun c hc => ?_
  have h := List.all_eq_true.mp h1 c hc
  rcases Bool.eq_false_or_eq_true (isCode c) with hi | hi
  · exact h2 c (List.mem_filter.mpr ⟨hc, hi⟩)
  · simpa [hi] using h
set_option maxRecDepth 65536 in
theorem w_c0 : (Jvm.Cond.code x code maxLocals ret).before args0 about1 = true := code_word (m := ⟨1, 2⟩) (meth := k1m2) (c := k1c2) (by decide +kernel) rfl rfl rfl (by decide +kernel)
set_option maxRecDepth 65536 in
theorem w_c1 : (Jvm.Cond.code ({ cls := "com/example/role_rights/rolerights/decision/Nearest", name := "<init>", desc := "()V" } : Jvm.MethodName) prog_23_method_1_code (1 : Nat) (Option.none : Option Jvm.ClassFile.FieldType)).before args0 about1 = true := code_word (m := ⟨2, 0⟩) (meth := k2m0) (c := k2c0) (by decide +kernel) rfl rfl rfl (by decide +kernel)
set_option maxRecDepth 65536 in
theorem w_c2 : (Jvm.Cond.code ({ cls := "java/lang/Object", name := "<init>", desc := "()V" } : Jvm.MethodName) object_method_1_code (1 : Nat) (Option.none : Option Jvm.ClassFile.FieldType)).before args0 about1 = true := code_word (m := ⟨0, 0⟩) (meth := k0m0) (c := k0c0) (by decide +kernel) rfl rfl rfl (by decide +kernel)
set_option maxRecDepth 65536 in
theorem w_c3 : (Jvm.Cond.code ({ cls := "com/example/role_rights/rolerights/decision/NearestMayCountPinLaw", name := "pick", desc := "(I)Lcom/example/role_rights/rolerights/policy/Effect;" } : Jvm.MethodName) method_2_code (2 : Nat) (Option.some (Jvm.ClassFile.FieldType.object "com/example/role_rights/rolerights/policy/Effect"))).before args0 about1 = true := code_word (m := ⟨1, 1⟩) (meth := k1m1) (c := k1c1) (by decide +kernel) rfl rfl rfl (by decide +kernel)
set_option maxRecDepth 65536 in
theorem w_c4 : (Jvm.Cond.code ({ cls := "com/example/role_rights/rolerights/decision/Nearest", name := "add", desc := "(IIILcom/example/role_rights/rolerights/policy/Effect;)V" } : Jvm.MethodName) prog_23_method_2_code (6 : Nat) (Option.none : Option Jvm.ClassFile.FieldType)).before args0 about1 = true := code_word (m := ⟨2, 1⟩) (meth := k2m1) (c := k2c1) (by decide +kernel) rfl rfl rfl (by decide +kernel)
set_option maxRecDepth 65536 in
theorem w_c5 : (Jvm.Cond.code ({ cls := "com/example/role_rights/rolerights/decision/Nearest", name := "compare", desc := "(III)I" } : Jvm.MethodName) prog_23_method_6_code (5 : Nat) (Option.some Jvm.ClassFile.FieldType.int)).before args0 about1 = true := code_word (m := ⟨2, 3⟩) (meth := k2m3) (c := k2c3) (by decide +kernel) rfl rfl rfl (by decide +kernel)
set_option maxRecDepth 65536 in
theorem w_c6 : (Jvm.Cond.code ({ cls := "java/lang/Integer", name := "compare", desc := "(II)I" } : Jvm.MethodName) jdk_33_method_40_code (2 : Nat) (Option.some Jvm.ClassFile.FieldType.int)).before args0 about1 = true := code_word (m := ⟨10, 0⟩) (meth := k10m0) (c := k10c0) (by decide +kernel) rfl rfl rfl (by decide +kernel)
set_option maxRecDepth 65536 in
theorem w_c7 : (Jvm.Cond.code ({ cls := "com/example/role_rights/rolerights/decision/Nearest", name := "mayCount", desc := "(I)Z" } : Jvm.MethodName) prog_23_method_4_code (2 : Nat) (Option.some Jvm.ClassFile.FieldType.boolean)).before args0 about1 = true := code_word (m := ⟨2, 2⟩) (meth := k2m2) (c := k2c2) (by decide +kernel) rfl rfl rfl (by decide +kernel)
set_option maxRecDepth 65536 in
theorem w_c8 : (Jvm.Cond.code ({ cls := "java/lang/Math", name := "min", desc := "(II)I" } : Jvm.MethodName) jdk_29_method_69_code (2 : Nat) (Option.some Jvm.ClassFile.FieldType.int)).before args0 about1 = true := code_word (m := ⟨11, 1⟩) (meth := k11m1) (c := k11c1) (by decide +kernel) rfl rfl rfl (by decide +kernel)
set_option maxRecDepth 65536 in
theorem w_c9 : (Jvm.Cond.code ({ cls := "com/example/role_rights/rolerights/decision/Nearest", name := "tie", desc := "(Lcom/example/role_rights/rolerights/policy/Effect;Lcom/example/role_rights/rolerights/policy/Effect;)Lcom/example/role_rights/rolerights/policy/Effect;" } : Jvm.MethodName) prog_23_method_7_code (2 : Nat) (Option.some (Jvm.ClassFile.FieldType.object "com/example/role_rights/rolerights/policy/Effect"))).before args0 about1 = true := code_word (m := ⟨2, 4⟩) (meth := k2m4) (c := k2c4) (by decide +kernel) rfl rfl rfl (by decide +kernel)
def codes1 : List Jvm.Cond := [Jvm.Cond.code x code maxLocals ret, Jvm.Cond.code ({ cls := "com/example/role_rights/rolerights/decision/Nearest", name := "<init>", desc := "()V" } : Jvm.MethodName) prog_23_method_1_code (1 : Nat) (Option.none : Option Jvm.ClassFile.FieldType), Jvm.Cond.code ({ cls := "java/lang/Object", name := "<init>", desc := "()V" } : Jvm.MethodName) object_method_1_code (1 : Nat) (Option.none : Option Jvm.ClassFile.FieldType), Jvm.Cond.code ({ cls := "com/example/role_rights/rolerights/decision/NearestMayCountPinLaw", name := "pick", desc := "(I)Lcom/example/role_rights/rolerights/policy/Effect;" } : Jvm.MethodName) method_2_code (2 : Nat) (Option.some (Jvm.ClassFile.FieldType.object "com/example/role_rights/rolerights/policy/Effect")), Jvm.Cond.code ({ cls := "com/example/role_rights/rolerights/decision/Nearest", name := "add", desc := "(IIILcom/example/role_rights/rolerights/policy/Effect;)V" } : Jvm.MethodName) prog_23_method_2_code (6 : Nat) (Option.none : Option Jvm.ClassFile.FieldType), Jvm.Cond.code ({ cls := "com/example/role_rights/rolerights/decision/Nearest", name := "compare", desc := "(III)I" } : Jvm.MethodName) prog_23_method_6_code (5 : Nat) (Option.some Jvm.ClassFile.FieldType.int), Jvm.Cond.code ({ cls := "java/lang/Integer", name := "compare", desc := "(II)I" } : Jvm.MethodName) jdk_33_method_40_code (2 : Nat) (Option.some Jvm.ClassFile.FieldType.int), Jvm.Cond.code ({ cls := "com/example/role_rights/rolerights/decision/Nearest", name := "mayCount", desc := "(I)Z" } : Jvm.MethodName) prog_23_method_4_code (2 : Nat) (Option.some Jvm.ClassFile.FieldType.boolean), Jvm.Cond.code ({ cls := "java/lang/Math", name := "min", desc := "(II)I" } : Jvm.MethodName) jdk_29_method_69_code (2 : Nat) (Option.some Jvm.ClassFile.FieldType.int), Jvm.Cond.code ({ cls := "com/example/role_rights/rolerights/decision/Nearest", name := "tie", desc := "(Lcom/example/role_rights/rolerights/policy/Effect;Lcom/example/role_rights/rolerights/policy/Effect;)Lcom/example/role_rights/rolerights/policy/Effect;" } : Jvm.MethodName) prog_23_method_7_code (2 : Nat) (Option.some (Jvm.ClassFile.FieldType.object "com/example/role_rights/rolerights/policy/Effect"))]
set_option maxRecDepth 65536 in
theorem codes_eq : words1.filter isCode = codes1 := rfl
theorem w_codes : ∀ c ∈ words1.filter isCode, c.before args0 about1 = true := by
  rw [codes_eq]
  intro c hc
  simp only [codes1, List.mem_cons, List.not_mem_nil, or_false] at hc
  rcases hc with rfl | rfl | rfl | rfl | rfl | rfl | rfl | rfl | rfl | rfl
  · exact w_c0
  · exact w_c1
  · exact w_c2
  · exact w_c3
  · exact w_c4
  · exact w_c5
  · exact w_c6
  · exact w_c7
  · exact w_c8
  · exact w_c9
set_option maxRecDepth 65536 in
theorem w_t1 : (words1.take 24).all (fun c => isCode c || c.before args0 about1) = true := by decide +kernel
set_option maxRecDepth 65536 in
theorem w_t2 : ((words1.drop 24).take 24).all (fun c => isCode c || c.before args0 about1) = true := by decide +kernel
set_option maxRecDepth 65536 in
theorem w_t3 : ((words1.drop 24).drop 24).all (fun c => isCode c || c.before args0 about1) = true := by decide +kernel
theorem w_tables : (allAtoms (Jvm.Cond.code x code maxLocals ret :: tables_1)).before args0 about1 = true := by
  rw [allAtoms_all]
  show words1.all (fun c => c.before args0 about1) = true
  refine all_split ?_ w_codes
  rw [← List.take_append_drop 24 words1, List.all_append, w_t1, ← List.take_append_drop 24 (words1.drop 24), List.all_append, w_t2, w_t3]
  rfl
set_option maxRecDepth 65536 in
theorem w_case : (Jvm.Cond.and given_1 narrow_1).before args0 about1 = true := by decide +kernel
theorem w_applies : (headSpec (Jvm.Cond.code x code maxLocals ret :: tables_1) room_1).applies x e0.platform about1 = true :=
  (Spec.applies_iff w_frames).mpr ⟨w_running, w_runnable, w_alone, w_named, w_hears, w_ripe, w_room, w_tables⟩
theorem atStart : AtStart classFile x code maxLocals ret World_1 tables_1 room_1 Calls_1 rest_1 Pre_1 launch0 p0 e0 about1 theMethod args0 below0 :=
  ⟨lists_1, trivial, launch0.admits_env _ _ _, launch0.least_env, fairChoices_fair.cas, fairChoices_fair.clock, w_frames, w_args, w_heap, w_applies, trivial, trivial, w_case⟩
end start1
theorem witness_1 : WitnessClaimed_1 := ⟨start1.p0, start1.e0, start1.about1, start1.theMethod, start1.args0, start1.below0, start1.atStart⟩
end Jvm.Pilot.@@N@@
