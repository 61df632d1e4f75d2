import JvmDerived
import JvmDerived.Pilot.@@N@@Statement
import JvmDerived.Pilot.@@N@@Code
set_option linter.unusedVariables false
set_option linter.unusedSimpArgs false
namespace Jvm.Pilot.@@N@@
open Jvm Jvm.ClassFile Sem Op Lib Jvm.Free Jvm.Stand Jvm.LawKit Jvm.RoadKit Bundle Jvm.Pilot.@@N@@.Jvm.D
theorem own_lt {x y : Int32} (h : x < y) : if_icmp.holds .lt x y = true ∧ if_icmp.holds .ge x y = false := by simp [if_icmp.holds, h, Int32.not_le.mpr h]
def own_Goes (p : Program) (e : Env) (below : List Frame) (s : State) (Q : Option Value → Heap → List Loc → Prop) (kc ks : Nat) (U : State) : Prop :=
  ∃ t o, Steps p.tables e below U t ∧ t.status = .running ∧ Ended t below o ∧ ∃ v L, o = .returned v ∧ Q v t.heap L ∧ FrameEnd s o t L kc ks
theorem own_go {p : Program} {e : Env} {below : List Frame} {s : State} {Q : Option Value → Heap → List Loc → Prop} {kc ks : Nat} {U V : State} (h : ∀ t, Steps p.tables e below V t → Steps p.tables e below U t) (g : own_Goes p e below s Q kc ks V) : own_Goes p e below s Q kc ks U := by
  obtain ⟨t, o, h1, r⟩ := g
  exact ⟨t, o, h t h1, r⟩
theorem own_out {p : Program} {l : Launch} {e : Env} {R : Room} {s : State} {m : MethodId} {args : Array Value} {below : List Frame} {meth : Method} {c : Code} {T : State} {locs : List Loc} {cells slots : Nat} {h : Heap} {Q : Option Value → Heap → List Loc → Prop} {kc ks : Nat} {U : State} {v : Option Value}
    (X : Stand p l e R s m args below meth c T locs cells slots) (hlk : meth.locks = false) (hv : meth.sig.returnType = none → v = none)
    (hs : ∀ fs, (∀ (f : JFrame) (acts : List Action), f.method = m → f.locked = none → f.entered = [] → (doReturn e (T.setTop f) acts v).1 = T.setFrames fs) → Steps p.tables e below U (T.setFrames fs))
    (eT : T.heap = h) (hQ : Q v h locs) (hc : cells ≤ kc) (hsl : slots ≤ ks) : own_Goes p e below s Q kc ks U := by
  obtain ⟨fs, hr, hrun, hended, hW, hsame⟩ := X.leave hv hlk
  subst eT
  exact ⟨_, _, hs fs hr, hrun, hended, _, _, rfl, hQ, ⟨_, rfl⟩, hW, hsame.mono hc hsl⟩
theorem own_ks {h0 h : Heap} {ws : List Addr} (K : Keep h0 h ws) : h0.size ≤ h.size := K.1
theorem own_cmpL (x : Int64) : XT.cmpL x x = 0 := by simp [XT.cmpL]
theorem own_vne {a b : Int32} (h : a ≠ b) : Value.int a ≠ .int b := fun q => h (Value.int.inj q)
theorem own_nn (x : Int32) : ¬ (x &&& 2147483647) < 0 := fun h => absurd ((XT.and_neg32 x 2147483647).mp h).2 (by decide)
theorem own_lk {p : Program} {l : Launch} {x : MethodName} {S : Spec} {code : ByteArray} {maxLocals : Nat} {ret : Option FieldType} {e : Env} {s : State} {m : MethodId} {args : Array Value} {below : List Frame} {meth : Method} {c : Code} {s₁ : State} (B : BodyLoose p l x S code maxLocals ret e s m args below meth c s₁) : meth.locks = false := B.notSynchronized
theorem own_if (cd : ClassFile.Cond) {x : Int32} {b : Bool} (h : if_icmp.holds cd x 0 = b) : ifCond.holds cd x = b := by rw [if0]; exact h
theorem own_aeq {a b : Addr} (h : a = b) : XT.acmp .eq (.ref a) (.ref b) = true ∧ XT.acmp .ne (.ref a) (.ref b) = false := by subst h; exact ⟨XT.aa_eq_t rfl, XT.aa_ne_f rfl⟩
theorem own_ane {a b : Addr} (h : ¬ a = b) : XT.acmp .eq (.ref a) (.ref b) = false ∧ XT.acmp .ne (.ref a) (.ref b) = true := ⟨XT.aa_eq_f (fun q => h (Value.ref.inj q)), XT.aa_ne_t (fun q => h (Value.ref.inj q))⟩
theorem own_eqI {args : Array Value} {s : State} {u : Term} {k : Int32} (h : (Jvm.Cond.eq u (.int k)).value args s none s [] = some true) : u.eval args s none [] s = some (.int k) := by
  simp only [Jvm.Cond.value] at h
  cases hf : u.eval args s none [] s with
  | none => simp [hf] at h
  | some v => cases v <;> simp [hf, Term.eval] at h; subst h; rfl
theorem own_eqJ {args : Array Value} {s : State} {u : Term} {k : Int64} (h : (Jvm.Cond.eq u (.long k)).value args s none s [] = some true) : u.eval args s none [] s = some (.long k) := by
  simp only [Jvm.Cond.value] at h
  cases hf : u.eval args s none [] s with
  | none => simp [hf] at h
  | some v => cases v <;> simp [hf, Term.eval] at h; subst h; rfl
theorem own_cl_gt (x y : Int64) : 0 < XT.cmpL x y ↔ y < x := by
  unfold XT.cmpL
  by_cases h : y < x
  · simp [h]
  · by_cases g : x = y
    · subst g; simp [h]
    · simp [h, g]
theorem own_cl_lt (x y : Int64) : XT.cmpL x y < 0 ↔ x < y := by
  unfold XT.cmpL
  by_cases h : y < x
  · have : ¬ x < y := fun q => by rw [Int64.lt_iff_toInt_lt] at h q; omega
    simp [h, this]
  · by_cases g : x = y
    · subst g; simp [h]
    · have : x < y := by
        rw [Int64.lt_iff_toInt_lt] at h ⊢
        have ne : x.toInt ≠ y.toInt := fun q => g (Int64.toInt_inj.mp q)
        omega
      simp [h, g, this]
theorem own_privateBack {p : Program} {l : Launch} {e : Env} {R : Room} {s : State} {m : MethodId} {args : Array Value} {below : List Frame} {meth : Method} {c : Code} {T : State} {locs : List Loc} {cells slots : Nat}
    (X : Stand p l e R s m args below meth c T locs cells slots) (hexec : p.tables.exec = Jvm.exec) {own : String} {index k : Nat} {y : MethodName} {bytes : ByteArray} {maxL : Nat} {ret : Option FieldType}
    (hown : s.vm.findClass own = some m.cls) (hlink : (Jvm.Cond.methodLink own index y).before args s = true) (hinst : (Jvm.Cond.instanceMethod y).before args s = true) (hmk : (Jvm.Cond.instantiable y.cls k).before args s = true)
    (hpriv : s.PrivateAt y) (hcode : (Jvm.Cond.code y bytes maxL ret).before args s = true) (hy : y.cls ≠ "java/lang/invoke/MethodHandle" ∧ y.cls ≠ "java/lang/invoke/VarHandle")
    {W : Nat} {Pre : Free.Pt → Array Value → Prop} {Post : Free.Pt → Array Value → Option Value → Free.Pt → Prop} (hK : Free.Back l R p e below s args y 3 W Pre Post)
    {g : JFrame} (hg : g.method = m) (hsize : g.locals.size = c.maxLocals) {s₀ : State} (hcome : Steps p.tables e below s₀ (T.setTop g)) {a : Addr} {cell : Cell} (hcell : T.heap[a]? = some cell) (hobj : ∀ q, cell.vm ≠ .statics q)
    {argsL rest : List Value} (hlen : ∀ sig, parseMethodDescriptor y.desc = some sig → argsL.length = sig.parameters.length)
    (hstack : g.stack = argsL.reverse ++ .ref a :: rest) (hW : 2 * g.monitorRoom + (rest.map fun v => v.category).sum ≤ W) (hdg : decode c.code g.pc = .ok (.invokevirtual index, 3))
    (hpre : ∀ vm₁, s.WarmedH vm₁ → Pre ⟨T.setVm vm₁, locs, cells, slots⟩ (.ref a :: argsL).toArray) :
    ∃ (v : Option Value) (vm₁ : Vm) (B : Free.Pt), s.WarmedH vm₁ ∧ Stand p l e R s m args below meth c B.U B.locs B.cells B.slots ∧ Post ⟨T.setVm vm₁, locs, cells, slots⟩ (.ref a :: argsL).toArray v B ∧
      Steps p.tables e below s₀ (B.U.setTop { g with pc := g.pc + 3, stack := v.toList ++ rest }) := by
  obtain ⟨mk, r, named, found, inst, abs⟩ := Cond.instanceMethod_spec hinst
  obtain ⟨r', cM, found', -, -, -, -, -, -, sig⟩ := Cond.code_spec named hcode
  cases found.symm.trans found'
  obtain ⟨cC, kC, k1, k2, -, k4, -⟩ := Cond.instantiable_spec hmk
  cases (findClass_of_methodNamed named).symm.trans k1
  have face : kC.isInterface = false := (Bool.or_eq_false_iff.mp k4).1
  have sel : selectMethod e.platform s.vm cell.cls mk = .method mk := selectMethod_private found (hpriv mk r named found)
  obtain ⟨vm₁, X₁, go⟩ := X.invokevirtual hexec hown hlink named found inst k2 face hy (a := a) (cell := cell) hcell hobj sel found abs k2 face (g := g) hg (argsL := argsL) (rest := rest) (hlen _ sig) hstack hdg
  obtain ⟨v, B, X', post, back⟩ := hK m meth c ⟨T.setVm vm₁, locs, cells, slots⟩ { g with stack := rest } (.invokevirtual index) mk (.ref a :: argsL).toArray X₁ hg hsize hdg hW (X₁.named named) (hpre vm₁ X₁.warmed)
  exact ⟨v, vm₁, B, X₁.warmed, X', post, (hcome.trans (go _ fun acts => by rw [doInvoke_state]; exact Steps.refl _)).trans back⟩
theorem own_fitR {C : String} {v : Value} (h : v.isRef = true) : fits (.object C) v = true := by rcases ref_cases h with rfl | ⟨a, rfl⟩ <;> rfl
theorem own_fI {args : Array Value} {s : State} {t : Term} {a : Addr} {O n d : String} {k : Int32} (ev : t.eval args s none [] s = some (.ref a)) (h : (Jvm.Cond.eq (.field t O n d) (.int k)).value args s none s [] = some true) : Fld s s.heap a O n d (.int k) := by
  refine Fld.start ?_
  simp only [Jvm.Cond.value, fld_at ev] at h
  cases hf : s.fieldOf? a O n d with
  | none => simp [hf] at h
  | some v => cases v <;> simp [hf, Term.eval] at h; subst h; rfl
theorem own_fJ {args : Array Value} {s : State} {t : Term} {a : Addr} {O n d : String} {k : Int64} (ev : t.eval args s none [] s = some (.ref a)) (h : (Jvm.Cond.eq (.field t O n d) (.long k)).value args s none s [] = some true) : Fld s s.heap a O n d (.long k) := by
  refine Fld.start ?_
  simp only [Jvm.Cond.value, fld_at ev] at h
  cases hf : s.fieldOf? a O n d with
  | none => simp [hf] at h
  | some v => cases v <;> simp [hf, Term.eval] at h; subst h; rfl
theorem own_fN {args : Array Value} {s : State} {t : Term} {a : Addr} {O n d : String} (ev : t.eval args s none [] s = some (.ref a)) (h : (Jvm.Cond.eq (.field t O n d) .null).value args s none s [] = some true) : Fld s s.heap a O n d .null := Fld.start ((fld_at ev).symm.trans (null_v h))
theorem pn_0 : plainName "java/lang/Enum" = true := by first | (simp [plainName, overriddenIn]; done) | decide +kernel
theorem pn_1 : plainName "com/example/esfahan/esfahan/model/Comparison" = true := by first | (simp [plainName, overriddenIn]; done) | decide +kernel
theorem pn_2 : plainName "com/example/esfahan/esfahan/model/ComparisonIsOrderingPinLaw" = true := by first | (simp [plainName, overriddenIn]; done) | decide +kernel
theorem pd_0 : parseMethodDescriptor "()I" = some ⟨[], some .int⟩ := by decide +kernel
theorem pd_1 : parseMethodDescriptor "(I)Lcom/example/esfahan/esfahan/model/Comparison;" = some ⟨[.int], some (.object "com/example/esfahan/esfahan/model/Comparison")⟩ := by decide +kernel
theorem pd_2 : parseMethodDescriptor "()Z" = some ⟨[], some .boolean⟩ := by decide +kernel
theorem pd_3 : parseMethodDescriptor "(I)Z" = some ⟨[.int], some .boolean⟩ := by decide +kernel
theorem own_mod6 (x : Int32) : (x &&& 2147483647) % 6 = 0 ∨ (x &&& 2147483647) % 6 = 1 ∨ (x &&& 2147483647) % 6 = 2 ∨ (x &&& 2147483647) % 6 = 3 ∨ (x &&& 2147483647) % 6 = 4 ∨ (x &&& 2147483647) % 6 = 5 := by
  have h := own_nn x
  generalize x &&& 2147483647 = y at h
  rw [XT.negI32] at h
  have e : (y % 6).toInt = y.toInt.tmod 6 := Int32.toInt_mod y 6
  have b1 : 0 ≤ y.toInt.tmod 6 := Int.tmod_nonneg 6 (by omega)
  have b2 : y.toInt.tmod 6 < 6 := Int.tmod_lt_of_pos _ (by omega)
  generalize y.toInt.tmod 6 = t at e b1 b2
  have hh : t = 0 ∨ t = 1 ∨ t = 2 ∨ t = 3 ∨ t = 4 ∨ t = 5 := by omega
  rcases hh with rfl | rfl | rfl | rfl | rfl | rfl
  · exact Or.inl (Int32.toInt_inj.mp e)
  · exact Or.inr (Or.inl (Int32.toInt_inj.mp e))
  · exact Or.inr (Or.inr (Or.inl (Int32.toInt_inj.mp e)))
  · exact Or.inr (Or.inr (Or.inr (Or.inl (Int32.toInt_inj.mp e))))
  · exact Or.inr (Or.inr (Or.inr (Or.inr (Or.inl (Int32.toInt_inj.mp e)))))
  · exact Or.inr (Or.inr (Or.inr (Or.inr (Or.inr (Int32.toInt_inj.mp e)))))
theorem d4_0 : decode jdk_37_method_2_code 0 = .ok (.aload_n 0, 1) := by decide +kernel
theorem d4_1 : decode jdk_37_method_2_code 1 = .ok (.getfield 7, 3) := by decide +kernel
theorem d4_4 : decode jdk_37_method_2_code 4 = .ok (.ireturn, 1) := by decide +kernel
theorem ef_ord0 (m : MethodId) (k : Addr) : entryFrame m #[(.ref k)] 1 = mkF m 0 #[.val (.ref k)] [] := by first | (simp [entryFrame, mkF, argsToLocals, Value.category]; done) | rfl
def Q_ord0 (Z : State) (k : Addr) (h0 : Heap) (n0 : Nat) (v : Option Value) (h : Heap) (L : List Loc) : Prop := v = some (.int (0 : Int32)) ∧ Fr n0 L ∧ h = h0
set_option maxRecDepth 65536 in
set_option maxHeartbeats 40000000 in
theorem rm_ord0 (l : Launch) (Z : State) (a0 : Array Value) (hw : ∀ d ∈ tables_1, d.before a0 Z = true) (ws : List Jvm.Cond) (k : Addr) (h0 : Heap) (n0 : Nat) (O0 : Old Z n0 h0) (Fk : Fld Z h0 k "java/lang/Enum" "ordinal" "I" (.int (0 : Int32))) :
    MetFree l (⟨"java/lang/Enum", "ordinal", "()I"⟩ : MethodName) (head1 (Jvm.Cond.code (⟨"java/lang/Enum", "ordinal", "()I"⟩ : MethodName) jdk_37_method_2_code 1 (some .int) :: ws) ({ frames := 0, cells := 0, slots := 0, locals := 0 } : Room)) (fun av_ U => av_ = #[(.ref k)] ∧ Z.Warmed39 U.vm ∧ U.heap = h0) (fun _ _ _ _ _ => True) (fun _ U o_ U' => ∃ v L, o_ = .returned v ∧ Q_ord0 Z k h0 n0 v U'.heap L ∧ FrameEnd U o_ U' L ({ frames := 0, cells := 0, slots := 0, locals := 0 } : Room).cells ({ frames := 0, cells := 0, slots := 0, locals := 0 } : Room).slots) := by
  refine MetFree.of_bodySF (plainFor_of_name pn_0) hisR ?_
  intro p e s m args below meth c s₁ Bd hml0 hP hK
  obtain ⟨rfl, hZ, hh⟩ := hP
  have hx := Bd.exec
  have hby := Bd.bytes
  have hml : c.maxLocals = 1 := hml0
  have hown : s.vm.findClass "java/lang/Enum" = some m.cls := findClass_of_methodNamed Bd.named
  have hnm := (name_of_methodNamed Bd.named Bd.method).1
  have hlk := own_lk Bd
  have hret := Bd.returns
  have X0 : Stand p l e ({ frames := 0, cells := 0, slots := 0, locals := 0 } : Room) s m #[(.ref k)] below meth c s₁ [] 0 0 := Stand.of_body Bd
  have e0 : s₁.heap = h0 := by rw [← hh, Bd.state]; rfl
  have N0 := Fr.nil n0
  show own_Goes p e below s (Q_ord0 Z k h0 n0) ({ frames := 0, cells := 0, slots := 0, locals := 0 } : Room).cells ({ frames := 0, cells := 0, slots := 0, locals := 0 } : Room).slots (s₁.setTop (entryFrame m #[(.ref k)] 1))
  refine own_go (fun _ ww => castTop (ef_ord0 m k) ww) ?_
  show own_Goes _ _ _ _ _ _ _ (s₁.setTop (mkF m 0 #[.val (.ref k)] []))
  refine own_go (fun _ ww => XS.aloadN X0.here hx rfl (hb hby d4_0) rfl rfl ww) ?_
  show own_Goes _ _ _ _ _ _ _ (s₁.setTop (mkF m 1 #[.val (.ref k)] [(.ref k)]))
  obtain ⟨T1, X1, e1, st1⟩ := getF X0 hx hZ hown (host := "") (Or.inl (hw _ (List.mem_of_getElem? (i := 26) rfl))) Via.refl e0 Fk (g := (mkF m 1 #[.val (.ref k)] [(.ref k)])) rfl rfl (hb hby d4_1)
  refine own_go st1 ?_
  show own_Goes _ _ _ _ _ _ _ (T1.setTop (mkF m 4 #[.val (.ref k)] [(.int (0 : Int32))]))
  exact own_out X1 hlk (v := some (.int (0 : Int32))) (fun h => by rw [hret] at h; cases h) (fun fs hr => retOut X1 hx (t := .int) hret rfl (Or.inl ⟨rfl, by simp, _, rfl⟩) (hb hby d4_4) hr) e1 ⟨rfl, N0, rfl⟩ (by decide) (by decide)
theorem d3_0 : decode prog_47_method_10_code 0 = .ok (.aload_n 0, 1) := by decide +kernel
theorem d3_1 : decode prog_47_method_10_code 1 = .ok (.invokevirtual 101, 3) := by decide +kernel
theorem d3_4 : decode prog_47_method_10_code 4 = .ok (.tableswitch 40 0 5 #[50, 62, 74, 86, 98, 110], 40) := by decide +kernel
theorem d3_54 : decode prog_47_method_10_code 54 = .ok (.iload_n 1, 1) := by decide +kernel
theorem d3_55 : decode prog_47_method_10_code 55 = .ok (.ifCond .ne 7, 3) := by decide +kernel
theorem d3_58 : decode prog_47_method_10_code 58 = .ok (.iconst 1, 1) := by decide +kernel
theorem d3_59 : decode prog_47_method_10_code 59 = .ok (.goto 64, 3) := by decide +kernel
theorem d3_123 : decode prog_47_method_10_code 123 = .ok (.ireturn, 1) := by decide +kernel
theorem d3_62 : decode prog_47_method_10_code 62 = .ok (.iconst 0, 1) := by decide +kernel
theorem d3_63 : decode prog_47_method_10_code 63 = .ok (.goto 60, 3) := by decide +kernel
theorem ef_hold0 (m : MethodId) (k : Addr) (x1 : Int32) (r : Int32) : entryFrame m #[(.ref k), (.int x1)] 2 = mkF m 0 #[.val (.ref k), .val (.int x1)] [] := by first | (simp [entryFrame, mkF, argsToLocals, Value.category]; done) | rfl
def Q_hold0 (Z : State) (k : Addr) (x1 : Int32) (r : Int32) (h0 : Heap) (n0 : Nat) (v : Option Value) (h : Heap) (L : List Loc) : Prop := v = some (.int r) ∧ Fr n0 L ∧ h = h0
set_option maxRecDepth 65536 in
set_option maxHeartbeats 40000000 in
theorem rm_hold0 (l : Launch) (Z : State) (a0 : Array Value) (hw : ∀ d ∈ tables_1, d.before a0 Z = true) (ws : List Jvm.Cond) (k : Addr) (x1 : Int32) (r : Int32) (h0 : Heap) (n0 : Nat) (O0 : Old Z n0 h0) (Fk : Fld Z h0 k "java/lang/Enum" "ordinal" "I" (.int (0 : Int32))) (Ek : Exa Z h0 k "com/example/esfahan/esfahan/model/Comparison") (hr1 : x1 = (0 : Int32) → r = 1) (hr0 : ¬ (x1 = (0 : Int32)) → r = 0) :
    MetFree l (⟨"com/example/esfahan/esfahan/model/Comparison", "holdsForSign", "(I)Z"⟩ : MethodName) (head1 (Jvm.Cond.code (⟨"com/example/esfahan/esfahan/model/Comparison", "holdsForSign", "(I)Z"⟩ : MethodName) prog_47_method_10_code 2 (some .boolean) :: ws) ({ frames := 1, cells := 0, slots := 0, locals := 12 } : Room)) (fun av_ U => av_ = #[(.ref k), (.int x1)] ∧ Z.Warmed39 U.vm ∧ U.heap = h0) (fun _ _ _ _ _ => True) (fun _ U o_ U' => ∃ v L, o_ = .returned v ∧ Q_hold0 Z k x1 r h0 n0 v U'.heap L ∧ FrameEnd U o_ U' L ({ frames := 1, cells := 0, slots := 0, locals := 12 } : Room).cells ({ frames := 1, cells := 0, slots := 0, locals := 12 } : Room).slots) := by
  refine MetFree.of_bodySF (plainFor_of_name pn_1) hisR ?_
  intro p e s m args below meth c s₁ Bd hml0 hP hK
  obtain ⟨rfl, hZ, hh⟩ := hP
  have hx := Bd.exec
  have hby := Bd.bytes
  have hml : c.maxLocals = 2 := hml0
  have hown : s.vm.findClass "com/example/esfahan/esfahan/model/Comparison" = some m.cls := findClass_of_methodNamed Bd.named
  have hnm := (name_of_methodNamed Bd.named Bd.method).1
  have hlk := own_lk Bd
  have hret := Bd.returns
  have X0 : Stand p l e ({ frames := 1, cells := 0, slots := 0, locals := 12 } : Room) s m #[(.ref k), (.int x1)] below meth c s₁ [] 0 0 := Stand.of_body Bd
  have e0 : s₁.heap = h0 := by rw [← hh, Bd.state]; rfl
  have N0 := Fr.nil n0
  show own_Goes p e below s (Q_hold0 Z k x1 r h0 n0) ({ frames := 1, cells := 0, slots := 0, locals := 12 } : Room).cells ({ frames := 1, cells := 0, slots := 0, locals := 12 } : Room).slots (s₁.setTop (entryFrame m #[(.ref k), (.int x1)] 2))
  refine own_go (fun _ ww => castTop (ef_hold0 m k x1 r) ww) ?_
  show own_Goes _ _ _ _ _ _ _ (s₁.setTop (mkF m 0 #[.val (.ref k), .val (.int x1)] []))
  refine own_go (fun _ ww => XS.aloadN X0.here hx rfl (hb hby d3_0) rfl rfl ww) ?_
  show own_Goes _ _ _ _ _ _ _ (s₁.setTop (mkF m 1 #[.val (.ref k), .val (.int x1)] [(.ref k)]))
  obtain ⟨cq2, kq2, q2a, q2b, q2c⟩ := isOf hZ e0 Ek
  obtain ⟨_, _, ⟨T2, L2, k2, n2⟩, -, X2, ⟨Lc2, hQ2, l2, y2, z2⟩, st2⟩ := X0.virtualBackUp hx (x := (⟨"com/example/esfahan/esfahan/model/Comparison", "ordinal", "()I"⟩ : MethodName)) (y := (⟨"java/lang/Enum", "ordinal", "()I"⟩ : MethodName)) hown (mvT hZ (hw _ (List.mem_of_getElem? (i := 19) rfl))) (mvT hZ (hw _ (List.mem_of_getElem? (i := 20) rfl))) (mvT hZ (hw _ (List.mem_of_getElem? (i := 21) rfl))) (by decide) (mvT hZ (hw _ (List.mem_of_getElem? (i := 23) rfl))) (mvT hZ (hw _ (List.mem_of_getElem? (i := 22) rfl))) (backOf (W := 0) (rm_ord0 l Z a0 hw [] k h0 n0 O0 Fk) hZ (hw _ (List.mem_of_getElem? (i := 25) rfl)) (hw _ (List.mem_of_getElem? (i := 24) rfl)) (by decide) (by decide)) q2a q2c (g := (mkF m 1 #[.val (.ref k), .val (.int x1)] [(.ref k)])) rfl (by rw [hml]; rfl) (Steps.refl _) (argsL := []) (rest := []) (lenOf pd_0 rfl) rfl (by show 2 * 0 + _ ≤ _; exact Nat.le_of_eq rfl) (hb hby d3_1) (fun _ _ => ⟨rfl, e0, (by decide : 0 + 0 ≤ _), (by decide : 0 + 0 ≤ _)⟩)
  dsimp only [Pt.U, Pt.locs, Pt.cells, Pt.slots] at X2 l2 y2 z2 st2 hQ2
  subst l2 y2 z2
  obtain ⟨rfl, N2q, e2⟩ := hQ2
  have N2 := Fr.app N0 N2q
  refine own_go (fun _ ww => Steps.trans st2 ww) ?_
  show own_Goes _ _ _ _ _ _ _ (T2.setTop (mkF m 4 #[.val (.ref k), .val (.int x1)] [(.int (0 : Int32))]))
  refine own_go (fun _ ww => XS.tswIn X2.here hx rfl (pc0 := 4) (pc' := 54) (o := 50) rfl (hb hby d3_4) rfl (by decide) (by decide) (by decide) (by decide) ww) ?_
  show own_Goes _ _ _ _ _ _ _ (T2.setTop (mkF m 54 #[.val (.ref k), .val (.int x1)] []))
  refine own_go (fun _ ww => XS.iloadN X2.here hx rfl (hb hby d3_54) rfl  ww) ?_
  show own_Goes _ _ _ _ _ _ _ (T2.setTop (mkF m 55 #[.val (.ref k), .val (.int x1)] [(.int x1)]))
  by_cases hc3 : x1 = (0 : Int32)
  ·
    refine own_go (fun _ ww => XS.ifNo X2.here hx rfl (hb hby d3_55) rfl (own_if .ne (teq hc3).2) ww) ?_
    show own_Goes _ _ _ _ _ _ _ (T2.setTop (mkF m 58 #[.val (.ref k), .val (.int x1)] []))
    refine own_go (fun _ ww => XS.iconst X2.here hx rfl (hb hby d3_58) ww) ?_
    show own_Goes _ _ _ _ _ _ _ (T2.setTop (mkF m 59 #[.val (.ref k), .val (.int x1)] [(.int (1 : Int32))]))
    refine own_go (fun _ ww => XS.goto X2.here hx rfl (pc0 := 59) (pc' := 123) rfl (hb hby d3_59) (by decide) (by decide) ww) ?_
    show own_Goes _ _ _ _ _ _ _ (T2.setTop (mkF m 123 #[.val (.ref k), .val (.int x1)] [(.int (1 : Int32))]))
    exact own_out X2 hlk (v := some (.int (1 : Int32))) (fun h => by rw [hret] at h; cases h) (fun fs hr => retOut X2 hx (t := .boolean) hret (by decide) (Or.inl ⟨rfl, by simp, _, rfl⟩) (hb hby d3_123) hr) e2 ⟨by rw [hr1 hc3], N2, rfl⟩ (by decide) (by decide)
  ·
    refine own_go (fun _ ww => XS.ifYes X2.here hx rfl (pc0 := 55) (pc' := 62) rfl (hb hby d3_55) rfl (own_if .ne (feq hc3).2) (by decide) (by decide) ww) ?_
    show own_Goes _ _ _ _ _ _ _ (T2.setTop (mkF m 62 #[.val (.ref k), .val (.int x1)] []))
    refine own_go (fun _ ww => XS.iconst X2.here hx rfl (hb hby d3_62) ww) ?_
    show own_Goes _ _ _ _ _ _ _ (T2.setTop (mkF m 63 #[.val (.ref k), .val (.int x1)] [(.int (0 : Int32))]))
    refine own_go (fun _ ww => XS.goto X2.here hx rfl (pc0 := 63) (pc' := 123) rfl (hb hby d3_63) (by decide) (by decide) ww) ?_
    show own_Goes _ _ _ _ _ _ _ (T2.setTop (mkF m 123 #[.val (.ref k), .val (.int x1)] [(.int (0 : Int32))]))
    exact own_out X2 hlk (v := some (.int (0 : Int32))) (fun h => by rw [hret] at h; cases h) (fun fs hr => retOut X2 hx (t := .boolean) hret (by decide) (Or.inl ⟨rfl, by simp, _, rfl⟩) (hb hby d3_123) hr) e2 ⟨by rw [hr0 hc3], N2, rfl⟩ (by decide) (by decide)
theorem ef_ord1 (m : MethodId) (k : Addr) : entryFrame m #[(.ref k)] 1 = mkF m 0 #[.val (.ref k)] [] := by first | (simp [entryFrame, mkF, argsToLocals, Value.category]; done) | rfl
def Q_ord1 (Z : State) (k : Addr) (h0 : Heap) (n0 : Nat) (v : Option Value) (h : Heap) (L : List Loc) : Prop := v = some (.int (1 : Int32)) ∧ Fr n0 L ∧ h = h0
set_option maxRecDepth 65536 in
set_option maxHeartbeats 40000000 in
theorem rm_ord1 (l : Launch) (Z : State) (a0 : Array Value) (hw : ∀ d ∈ tables_1, d.before a0 Z = true) (ws : List Jvm.Cond) (k : Addr) (h0 : Heap) (n0 : Nat) (O0 : Old Z n0 h0) (Fk : Fld Z h0 k "java/lang/Enum" "ordinal" "I" (.int (1 : Int32))) :
    MetFree l (⟨"java/lang/Enum", "ordinal", "()I"⟩ : MethodName) (head1 (Jvm.Cond.code (⟨"java/lang/Enum", "ordinal", "()I"⟩ : MethodName) jdk_37_method_2_code 1 (some .int) :: ws) ({ frames := 0, cells := 0, slots := 0, locals := 0 } : Room)) (fun av_ U => av_ = #[(.ref k)] ∧ Z.Warmed39 U.vm ∧ U.heap = h0) (fun _ _ _ _ _ => True) (fun _ U o_ U' => ∃ v L, o_ = .returned v ∧ Q_ord1 Z k h0 n0 v U'.heap L ∧ FrameEnd U o_ U' L ({ frames := 0, cells := 0, slots := 0, locals := 0 } : Room).cells ({ frames := 0, cells := 0, slots := 0, locals := 0 } : Room).slots) := by
  refine MetFree.of_bodySF (plainFor_of_name pn_0) hisR ?_
  intro p e s m args below meth c s₁ Bd hml0 hP hK
  obtain ⟨rfl, hZ, hh⟩ := hP
  have hx := Bd.exec
  have hby := Bd.bytes
  have hml : c.maxLocals = 1 := hml0
  have hown : s.vm.findClass "java/lang/Enum" = some m.cls := findClass_of_methodNamed Bd.named
  have hnm := (name_of_methodNamed Bd.named Bd.method).1
  have hlk := own_lk Bd
  have hret := Bd.returns
  have X0 : Stand p l e ({ frames := 0, cells := 0, slots := 0, locals := 0 } : Room) s m #[(.ref k)] below meth c s₁ [] 0 0 := Stand.of_body Bd
  have e0 : s₁.heap = h0 := by rw [← hh, Bd.state]; rfl
  have N0 := Fr.nil n0
  show own_Goes p e below s (Q_ord1 Z k h0 n0) ({ frames := 0, cells := 0, slots := 0, locals := 0 } : Room).cells ({ frames := 0, cells := 0, slots := 0, locals := 0 } : Room).slots (s₁.setTop (entryFrame m #[(.ref k)] 1))
  refine own_go (fun _ ww => castTop (ef_ord1 m k) ww) ?_
  show own_Goes _ _ _ _ _ _ _ (s₁.setTop (mkF m 0 #[.val (.ref k)] []))
  refine own_go (fun _ ww => XS.aloadN X0.here hx rfl (hb hby d4_0) rfl rfl ww) ?_
  show own_Goes _ _ _ _ _ _ _ (s₁.setTop (mkF m 1 #[.val (.ref k)] [(.ref k)]))
  obtain ⟨T4, X4, e4, st4⟩ := getF X0 hx hZ hown (host := "") (Or.inl (hw _ (List.mem_of_getElem? (i := 26) rfl))) Via.refl e0 Fk (g := (mkF m 1 #[.val (.ref k)] [(.ref k)])) rfl rfl (hb hby d4_1)
  refine own_go st4 ?_
  show own_Goes _ _ _ _ _ _ _ (T4.setTop (mkF m 4 #[.val (.ref k)] [(.int (1 : Int32))]))
  exact own_out X4 hlk (v := some (.int (1 : Int32))) (fun h => by rw [hret] at h; cases h) (fun fs hr => retOut X4 hx (t := .int) hret rfl (Or.inl ⟨rfl, by simp, _, rfl⟩) (hb hby d4_4) hr) e4 ⟨rfl, N0, rfl⟩ (by decide) (by decide)
theorem d3_66 : decode prog_47_method_10_code 66 = .ok (.iload_n 1, 1) := by decide +kernel
theorem d3_67 : decode prog_47_method_10_code 67 = .ok (.ifCond .eq 7, 3) := by decide +kernel
theorem d3_74 : decode prog_47_method_10_code 74 = .ok (.iconst 0, 1) := by decide +kernel
theorem d3_75 : decode prog_47_method_10_code 75 = .ok (.goto 48, 3) := by decide +kernel
theorem d3_70 : decode prog_47_method_10_code 70 = .ok (.iconst 1, 1) := by decide +kernel
theorem d3_71 : decode prog_47_method_10_code 71 = .ok (.goto 52, 3) := by decide +kernel
theorem ef_hold1 (m : MethodId) (k : Addr) (x1 : Int32) (r : Int32) : entryFrame m #[(.ref k), (.int x1)] 2 = mkF m 0 #[.val (.ref k), .val (.int x1)] [] := by first | (simp [entryFrame, mkF, argsToLocals, Value.category]; done) | rfl
def Q_hold1 (Z : State) (k : Addr) (x1 : Int32) (r : Int32) (h0 : Heap) (n0 : Nat) (v : Option Value) (h : Heap) (L : List Loc) : Prop := v = some (.int r) ∧ Fr n0 L ∧ h = h0
set_option maxRecDepth 65536 in
set_option maxHeartbeats 40000000 in
theorem rm_hold1 (l : Launch) (Z : State) (a0 : Array Value) (hw : ∀ d ∈ tables_1, d.before a0 Z = true) (ws : List Jvm.Cond) (k : Addr) (x1 : Int32) (r : Int32) (h0 : Heap) (n0 : Nat) (O0 : Old Z n0 h0) (Fk : Fld Z h0 k "java/lang/Enum" "ordinal" "I" (.int (1 : Int32))) (Ek : Exa Z h0 k "com/example/esfahan/esfahan/model/Comparison") (hr1 : x1 = (0 : Int32) → r = 0) (hr0 : ¬ (x1 = (0 : Int32)) → r = 1) :
    MetFree l (⟨"com/example/esfahan/esfahan/model/Comparison", "holdsForSign", "(I)Z"⟩ : MethodName) (head1 (Jvm.Cond.code (⟨"com/example/esfahan/esfahan/model/Comparison", "holdsForSign", "(I)Z"⟩ : MethodName) prog_47_method_10_code 2 (some .boolean) :: ws) ({ frames := 1, cells := 0, slots := 0, locals := 12 } : Room)) (fun av_ U => av_ = #[(.ref k), (.int x1)] ∧ Z.Warmed39 U.vm ∧ U.heap = h0) (fun _ _ _ _ _ => True) (fun _ U o_ U' => ∃ v L, o_ = .returned v ∧ Q_hold1 Z k x1 r h0 n0 v U'.heap L ∧ FrameEnd U o_ U' L ({ frames := 1, cells := 0, slots := 0, locals := 12 } : Room).cells ({ frames := 1, cells := 0, slots := 0, locals := 12 } : Room).slots) := by
  refine MetFree.of_bodySF (plainFor_of_name pn_1) hisR ?_
  intro p e s m args below meth c s₁ Bd hml0 hP hK
  obtain ⟨rfl, hZ, hh⟩ := hP
  have hx := Bd.exec
  have hby := Bd.bytes
  have hml : c.maxLocals = 2 := hml0
  have hown : s.vm.findClass "com/example/esfahan/esfahan/model/Comparison" = some m.cls := findClass_of_methodNamed Bd.named
  have hnm := (name_of_methodNamed Bd.named Bd.method).1
  have hlk := own_lk Bd
  have hret := Bd.returns
  have X0 : Stand p l e ({ frames := 1, cells := 0, slots := 0, locals := 12 } : Room) s m #[(.ref k), (.int x1)] below meth c s₁ [] 0 0 := Stand.of_body Bd
  have e0 : s₁.heap = h0 := by rw [← hh, Bd.state]; rfl
  have N0 := Fr.nil n0
  show own_Goes p e below s (Q_hold1 Z k x1 r h0 n0) ({ frames := 1, cells := 0, slots := 0, locals := 12 } : Room).cells ({ frames := 1, cells := 0, slots := 0, locals := 12 } : Room).slots (s₁.setTop (entryFrame m #[(.ref k), (.int x1)] 2))
  refine own_go (fun _ ww => castTop (ef_hold1 m k x1 r) ww) ?_
  show own_Goes _ _ _ _ _ _ _ (s₁.setTop (mkF m 0 #[.val (.ref k), .val (.int x1)] []))
  refine own_go (fun _ ww => XS.aloadN X0.here hx rfl (hb hby d3_0) rfl rfl ww) ?_
  show own_Goes _ _ _ _ _ _ _ (s₁.setTop (mkF m 1 #[.val (.ref k), .val (.int x1)] [(.ref k)]))
  obtain ⟨cq5, kq5, q5a, q5b, q5c⟩ := isOf hZ e0 Ek
  obtain ⟨_, _, ⟨T5, L5, k5, n5⟩, -, X5, ⟨Lc5, hQ5, l5, y5, z5⟩, st5⟩ := X0.virtualBackUp hx (x := (⟨"com/example/esfahan/esfahan/model/Comparison", "ordinal", "()I"⟩ : MethodName)) (y := (⟨"java/lang/Enum", "ordinal", "()I"⟩ : MethodName)) hown (mvT hZ (hw _ (List.mem_of_getElem? (i := 19) rfl))) (mvT hZ (hw _ (List.mem_of_getElem? (i := 20) rfl))) (mvT hZ (hw _ (List.mem_of_getElem? (i := 21) rfl))) (by decide) (mvT hZ (hw _ (List.mem_of_getElem? (i := 23) rfl))) (mvT hZ (hw _ (List.mem_of_getElem? (i := 22) rfl))) (backOf (W := 0) (rm_ord1 l Z a0 hw [] k h0 n0 O0 Fk) hZ (hw _ (List.mem_of_getElem? (i := 25) rfl)) (hw _ (List.mem_of_getElem? (i := 24) rfl)) (by decide) (by decide)) q5a q5c (g := (mkF m 1 #[.val (.ref k), .val (.int x1)] [(.ref k)])) rfl (by rw [hml]; rfl) (Steps.refl _) (argsL := []) (rest := []) (lenOf pd_0 rfl) rfl (by show 2 * 0 + _ ≤ _; exact Nat.le_of_eq rfl) (hb hby d3_1) (fun _ _ => ⟨rfl, e0, (by decide : 0 + 0 ≤ _), (by decide : 0 + 0 ≤ _)⟩)
  dsimp only [Pt.U, Pt.locs, Pt.cells, Pt.slots] at X5 l5 y5 z5 st5 hQ5
  subst l5 y5 z5
  obtain ⟨rfl, N5q, e5⟩ := hQ5
  have N5 := Fr.app N0 N5q
  refine own_go (fun _ ww => Steps.trans st5 ww) ?_
  show own_Goes _ _ _ _ _ _ _ (T5.setTop (mkF m 4 #[.val (.ref k), .val (.int x1)] [(.int (1 : Int32))]))
  refine own_go (fun _ ww => XS.tswIn X5.here hx rfl (pc0 := 4) (pc' := 66) (o := 62) rfl (hb hby d3_4) rfl (by decide) (by decide) (by decide) (by decide) ww) ?_
  show own_Goes _ _ _ _ _ _ _ (T5.setTop (mkF m 66 #[.val (.ref k), .val (.int x1)] []))
  refine own_go (fun _ ww => XS.iloadN X5.here hx rfl (hb hby d3_66) rfl  ww) ?_
  show own_Goes _ _ _ _ _ _ _ (T5.setTop (mkF m 67 #[.val (.ref k), .val (.int x1)] [(.int x1)]))
  by_cases hc6 : x1 = (0 : Int32)
  ·
    refine own_go (fun _ ww => XS.ifYes X5.here hx rfl (pc0 := 67) (pc' := 74) rfl (hb hby d3_67) rfl (own_if .eq (teq hc6).1) (by decide) (by decide) ww) ?_
    show own_Goes _ _ _ _ _ _ _ (T5.setTop (mkF m 74 #[.val (.ref k), .val (.int x1)] []))
    refine own_go (fun _ ww => XS.iconst X5.here hx rfl (hb hby d3_74) ww) ?_
    show own_Goes _ _ _ _ _ _ _ (T5.setTop (mkF m 75 #[.val (.ref k), .val (.int x1)] [(.int (0 : Int32))]))
    refine own_go (fun _ ww => XS.goto X5.here hx rfl (pc0 := 75) (pc' := 123) rfl (hb hby d3_75) (by decide) (by decide) ww) ?_
    show own_Goes _ _ _ _ _ _ _ (T5.setTop (mkF m 123 #[.val (.ref k), .val (.int x1)] [(.int (0 : Int32))]))
    exact own_out X5 hlk (v := some (.int (0 : Int32))) (fun h => by rw [hret] at h; cases h) (fun fs hr => retOut X5 hx (t := .boolean) hret (by decide) (Or.inl ⟨rfl, by simp, _, rfl⟩) (hb hby d3_123) hr) e5 ⟨by rw [hr1 hc6], N5, rfl⟩ (by decide) (by decide)
  ·
    refine own_go (fun _ ww => XS.ifNo X5.here hx rfl (hb hby d3_67) rfl (own_if .eq (feq hc6).1) ww) ?_
    show own_Goes _ _ _ _ _ _ _ (T5.setTop (mkF m 70 #[.val (.ref k), .val (.int x1)] []))
    refine own_go (fun _ ww => XS.iconst X5.here hx rfl (hb hby d3_70) ww) ?_
    show own_Goes _ _ _ _ _ _ _ (T5.setTop (mkF m 71 #[.val (.ref k), .val (.int x1)] [(.int (1 : Int32))]))
    refine own_go (fun _ ww => XS.goto X5.here hx rfl (pc0 := 71) (pc' := 123) rfl (hb hby d3_71) (by decide) (by decide) ww) ?_
    show own_Goes _ _ _ _ _ _ _ (T5.setTop (mkF m 123 #[.val (.ref k), .val (.int x1)] [(.int (1 : Int32))]))
    exact own_out X5 hlk (v := some (.int (1 : Int32))) (fun h => by rw [hret] at h; cases h) (fun fs hr => retOut X5 hx (t := .boolean) hret (by decide) (Or.inl ⟨rfl, by simp, _, rfl⟩) (hb hby d3_123) hr) e5 ⟨by rw [hr0 hc6], N5, rfl⟩ (by decide) (by decide)
theorem ef_ord2 (m : MethodId) (k : Addr) : entryFrame m #[(.ref k)] 1 = mkF m 0 #[.val (.ref k)] [] := by first | (simp [entryFrame, mkF, argsToLocals, Value.category]; done) | rfl
def Q_ord2 (Z : State) (k : Addr) (h0 : Heap) (n0 : Nat) (v : Option Value) (h : Heap) (L : List Loc) : Prop := v = some (.int (2 : Int32)) ∧ Fr n0 L ∧ h = h0
set_option maxRecDepth 65536 in
set_option maxHeartbeats 40000000 in
theorem rm_ord2 (l : Launch) (Z : State) (a0 : Array Value) (hw : ∀ d ∈ tables_1, d.before a0 Z = true) (ws : List Jvm.Cond) (k : Addr) (h0 : Heap) (n0 : Nat) (O0 : Old Z n0 h0) (Fk : Fld Z h0 k "java/lang/Enum" "ordinal" "I" (.int (2 : Int32))) :
    MetFree l (⟨"java/lang/Enum", "ordinal", "()I"⟩ : MethodName) (head1 (Jvm.Cond.code (⟨"java/lang/Enum", "ordinal", "()I"⟩ : MethodName) jdk_37_method_2_code 1 (some .int) :: ws) ({ frames := 0, cells := 0, slots := 0, locals := 0 } : Room)) (fun av_ U => av_ = #[(.ref k)] ∧ Z.Warmed39 U.vm ∧ U.heap = h0) (fun _ _ _ _ _ => True) (fun _ U o_ U' => ∃ v L, o_ = .returned v ∧ Q_ord2 Z k h0 n0 v U'.heap L ∧ FrameEnd U o_ U' L ({ frames := 0, cells := 0, slots := 0, locals := 0 } : Room).cells ({ frames := 0, cells := 0, slots := 0, locals := 0 } : Room).slots) := by
  refine MetFree.of_bodySF (plainFor_of_name pn_0) hisR ?_
  intro p e s m args below meth c s₁ Bd hml0 hP hK
  obtain ⟨rfl, hZ, hh⟩ := hP
  have hx := Bd.exec
  have hby := Bd.bytes
  have hml : c.maxLocals = 1 := hml0
  have hown : s.vm.findClass "java/lang/Enum" = some m.cls := findClass_of_methodNamed Bd.named
  have hnm := (name_of_methodNamed Bd.named Bd.method).1
  have hlk := own_lk Bd
  have hret := Bd.returns
  have X0 : Stand p l e ({ frames := 0, cells := 0, slots := 0, locals := 0 } : Room) s m #[(.ref k)] below meth c s₁ [] 0 0 := Stand.of_body Bd
  have e0 : s₁.heap = h0 := by rw [← hh, Bd.state]; rfl
  have N0 := Fr.nil n0
  show own_Goes p e below s (Q_ord2 Z k h0 n0) ({ frames := 0, cells := 0, slots := 0, locals := 0 } : Room).cells ({ frames := 0, cells := 0, slots := 0, locals := 0 } : Room).slots (s₁.setTop (entryFrame m #[(.ref k)] 1))
  refine own_go (fun _ ww => castTop (ef_ord2 m k) ww) ?_
  show own_Goes _ _ _ _ _ _ _ (s₁.setTop (mkF m 0 #[.val (.ref k)] []))
  refine own_go (fun _ ww => XS.aloadN X0.here hx rfl (hb hby d4_0) rfl rfl ww) ?_
  show own_Goes _ _ _ _ _ _ _ (s₁.setTop (mkF m 1 #[.val (.ref k)] [(.ref k)]))
  obtain ⟨T7, X7, e7, st7⟩ := getF X0 hx hZ hown (host := "") (Or.inl (hw _ (List.mem_of_getElem? (i := 26) rfl))) Via.refl e0 Fk (g := (mkF m 1 #[.val (.ref k)] [(.ref k)])) rfl rfl (hb hby d4_1)
  refine own_go st7 ?_
  show own_Goes _ _ _ _ _ _ _ (T7.setTop (mkF m 4 #[.val (.ref k)] [(.int (2 : Int32))]))
  exact own_out X7 hlk (v := some (.int (2 : Int32))) (fun h => by rw [hret] at h; cases h) (fun fs hr => retOut X7 hx (t := .int) hret rfl (Or.inl ⟨rfl, by simp, _, rfl⟩) (hb hby d4_4) hr) e7 ⟨rfl, N0, rfl⟩ (by decide) (by decide)
theorem d3_78 : decode prog_47_method_10_code 78 = .ok (.iload_n 1, 1) := by decide +kernel
theorem d3_79 : decode prog_47_method_10_code 79 = .ok (.ifCond .ge 7, 3) := by decide +kernel
theorem d3_82 : decode prog_47_method_10_code 82 = .ok (.iconst 1, 1) := by decide +kernel
theorem d3_83 : decode prog_47_method_10_code 83 = .ok (.goto 40, 3) := by decide +kernel
theorem d3_86 : decode prog_47_method_10_code 86 = .ok (.iconst 0, 1) := by decide +kernel
theorem d3_87 : decode prog_47_method_10_code 87 = .ok (.goto 36, 3) := by decide +kernel
theorem ef_hold2 (m : MethodId) (k : Addr) (x1 : Int32) (r : Int32) : entryFrame m #[(.ref k), (.int x1)] 2 = mkF m 0 #[.val (.ref k), .val (.int x1)] [] := by first | (simp [entryFrame, mkF, argsToLocals, Value.category]; done) | rfl
def Q_hold2 (Z : State) (k : Addr) (x1 : Int32) (r : Int32) (h0 : Heap) (n0 : Nat) (v : Option Value) (h : Heap) (L : List Loc) : Prop := v = some (.int r) ∧ Fr n0 L ∧ h = h0
set_option maxRecDepth 65536 in
set_option maxHeartbeats 40000000 in
theorem rm_hold2 (l : Launch) (Z : State) (a0 : Array Value) (hw : ∀ d ∈ tables_1, d.before a0 Z = true) (ws : List Jvm.Cond) (k : Addr) (x1 : Int32) (r : Int32) (h0 : Heap) (n0 : Nat) (O0 : Old Z n0 h0) (Fk : Fld Z h0 k "java/lang/Enum" "ordinal" "I" (.int (2 : Int32))) (Ek : Exa Z h0 k "com/example/esfahan/esfahan/model/Comparison") (hr1 : x1 < (0 : Int32) → r = 1) (hr0 : ¬ (x1 < (0 : Int32)) → r = 0) :
    MetFree l (⟨"com/example/esfahan/esfahan/model/Comparison", "holdsForSign", "(I)Z"⟩ : MethodName) (head1 (Jvm.Cond.code (⟨"com/example/esfahan/esfahan/model/Comparison", "holdsForSign", "(I)Z"⟩ : MethodName) prog_47_method_10_code 2 (some .boolean) :: ws) ({ frames := 1, cells := 0, slots := 0, locals := 12 } : Room)) (fun av_ U => av_ = #[(.ref k), (.int x1)] ∧ Z.Warmed39 U.vm ∧ U.heap = h0) (fun _ _ _ _ _ => True) (fun _ U o_ U' => ∃ v L, o_ = .returned v ∧ Q_hold2 Z k x1 r h0 n0 v U'.heap L ∧ FrameEnd U o_ U' L ({ frames := 1, cells := 0, slots := 0, locals := 12 } : Room).cells ({ frames := 1, cells := 0, slots := 0, locals := 12 } : Room).slots) := by
  refine MetFree.of_bodySF (plainFor_of_name pn_1) hisR ?_
  intro p e s m args below meth c s₁ Bd hml0 hP hK
  obtain ⟨rfl, hZ, hh⟩ := hP
  have hx := Bd.exec
  have hby := Bd.bytes
  have hml : c.maxLocals = 2 := hml0
  have hown : s.vm.findClass "com/example/esfahan/esfahan/model/Comparison" = some m.cls := findClass_of_methodNamed Bd.named
  have hnm := (name_of_methodNamed Bd.named Bd.method).1
  have hlk := own_lk Bd
  have hret := Bd.returns
  have X0 : Stand p l e ({ frames := 1, cells := 0, slots := 0, locals := 12 } : Room) s m #[(.ref k), (.int x1)] below meth c s₁ [] 0 0 := Stand.of_body Bd
  have e0 : s₁.heap = h0 := by rw [← hh, Bd.state]; rfl
  have N0 := Fr.nil n0
  show own_Goes p e below s (Q_hold2 Z k x1 r h0 n0) ({ frames := 1, cells := 0, slots := 0, locals := 12 } : Room).cells ({ frames := 1, cells := 0, slots := 0, locals := 12 } : Room).slots (s₁.setTop (entryFrame m #[(.ref k), (.int x1)] 2))
  refine own_go (fun _ ww => castTop (ef_hold2 m k x1 r) ww) ?_
  show own_Goes _ _ _ _ _ _ _ (s₁.setTop (mkF m 0 #[.val (.ref k), .val (.int x1)] []))
  refine own_go (fun _ ww => XS.aloadN X0.here hx rfl (hb hby d3_0) rfl rfl ww) ?_
  show own_Goes _ _ _ _ _ _ _ (s₁.setTop (mkF m 1 #[.val (.ref k), .val (.int x1)] [(.ref k)]))
  obtain ⟨cq8, kq8, q8a, q8b, q8c⟩ := isOf hZ e0 Ek
  obtain ⟨_, _, ⟨T8, L8, k8, n8⟩, -, X8, ⟨Lc8, hQ8, l8, y8, z8⟩, st8⟩ := X0.virtualBackUp hx (x := (⟨"com/example/esfahan/esfahan/model/Comparison", "ordinal", "()I"⟩ : MethodName)) (y := (⟨"java/lang/Enum", "ordinal", "()I"⟩ : MethodName)) hown (mvT hZ (hw _ (List.mem_of_getElem? (i := 19) rfl))) (mvT hZ (hw _ (List.mem_of_getElem? (i := 20) rfl))) (mvT hZ (hw _ (List.mem_of_getElem? (i := 21) rfl))) (by decide) (mvT hZ (hw _ (List.mem_of_getElem? (i := 23) rfl))) (mvT hZ (hw _ (List.mem_of_getElem? (i := 22) rfl))) (backOf (W := 0) (rm_ord2 l Z a0 hw [] k h0 n0 O0 Fk) hZ (hw _ (List.mem_of_getElem? (i := 25) rfl)) (hw _ (List.mem_of_getElem? (i := 24) rfl)) (by decide) (by decide)) q8a q8c (g := (mkF m 1 #[.val (.ref k), .val (.int x1)] [(.ref k)])) rfl (by rw [hml]; rfl) (Steps.refl _) (argsL := []) (rest := []) (lenOf pd_0 rfl) rfl (by show 2 * 0 + _ ≤ _; exact Nat.le_of_eq rfl) (hb hby d3_1) (fun _ _ => ⟨rfl, e0, (by decide : 0 + 0 ≤ _), (by decide : 0 + 0 ≤ _)⟩)
  dsimp only [Pt.U, Pt.locs, Pt.cells, Pt.slots] at X8 l8 y8 z8 st8 hQ8
  subst l8 y8 z8
  obtain ⟨rfl, N8q, e8⟩ := hQ8
  have N8 := Fr.app N0 N8q
  refine own_go (fun _ ww => Steps.trans st8 ww) ?_
  show own_Goes _ _ _ _ _ _ _ (T8.setTop (mkF m 4 #[.val (.ref k), .val (.int x1)] [(.int (2 : Int32))]))
  refine own_go (fun _ ww => XS.tswIn X8.here hx rfl (pc0 := 4) (pc' := 78) (o := 74) rfl (hb hby d3_4) rfl (by decide) (by decide) (by decide) (by decide) ww) ?_
  show own_Goes _ _ _ _ _ _ _ (T8.setTop (mkF m 78 #[.val (.ref k), .val (.int x1)] []))
  refine own_go (fun _ ww => XS.iloadN X8.here hx rfl (hb hby d3_78) rfl  ww) ?_
  show own_Goes _ _ _ _ _ _ _ (T8.setTop (mkF m 79 #[.val (.ref k), .val (.int x1)] [(.int x1)]))
  by_cases hc9 : x1 < (0 : Int32)
  ·
    refine own_go (fun _ ww => XS.ifNo X8.here hx rfl (hb hby d3_79) rfl (own_if .ge (tlt hc9).2.1) ww) ?_
    show own_Goes _ _ _ _ _ _ _ (T8.setTop (mkF m 82 #[.val (.ref k), .val (.int x1)] []))
    refine own_go (fun _ ww => XS.iconst X8.here hx rfl (hb hby d3_82) ww) ?_
    show own_Goes _ _ _ _ _ _ _ (T8.setTop (mkF m 83 #[.val (.ref k), .val (.int x1)] [(.int (1 : Int32))]))
    refine own_go (fun _ ww => XS.goto X8.here hx rfl (pc0 := 83) (pc' := 123) rfl (hb hby d3_83) (by decide) (by decide) ww) ?_
    show own_Goes _ _ _ _ _ _ _ (T8.setTop (mkF m 123 #[.val (.ref k), .val (.int x1)] [(.int (1 : Int32))]))
    exact own_out X8 hlk (v := some (.int (1 : Int32))) (fun h => by rw [hret] at h; cases h) (fun fs hr => retOut X8 hx (t := .boolean) hret (by decide) (Or.inl ⟨rfl, by simp, _, rfl⟩) (hb hby d3_123) hr) e8 ⟨by rw [hr1 hc9], N8, rfl⟩ (by decide) (by decide)
  ·
    refine own_go (fun _ ww => XS.ifYes X8.here hx rfl (pc0 := 79) (pc' := 86) rfl (hb hby d3_79) rfl (own_if .ge (flt hc9).2.1) (by decide) (by decide) ww) ?_
    show own_Goes _ _ _ _ _ _ _ (T8.setTop (mkF m 86 #[.val (.ref k), .val (.int x1)] []))
    refine own_go (fun _ ww => XS.iconst X8.here hx rfl (hb hby d3_86) ww) ?_
    show own_Goes _ _ _ _ _ _ _ (T8.setTop (mkF m 87 #[.val (.ref k), .val (.int x1)] [(.int (0 : Int32))]))
    refine own_go (fun _ ww => XS.goto X8.here hx rfl (pc0 := 87) (pc' := 123) rfl (hb hby d3_87) (by decide) (by decide) ww) ?_
    show own_Goes _ _ _ _ _ _ _ (T8.setTop (mkF m 123 #[.val (.ref k), .val (.int x1)] [(.int (0 : Int32))]))
    exact own_out X8 hlk (v := some (.int (0 : Int32))) (fun h => by rw [hret] at h; cases h) (fun fs hr => retOut X8 hx (t := .boolean) hret (by decide) (Or.inl ⟨rfl, by simp, _, rfl⟩) (hb hby d3_123) hr) e8 ⟨by rw [hr0 hc9], N8, rfl⟩ (by decide) (by decide)
theorem ef_ord3 (m : MethodId) (k : Addr) : entryFrame m #[(.ref k)] 1 = mkF m 0 #[.val (.ref k)] [] := by first | (simp [entryFrame, mkF, argsToLocals, Value.category]; done) | rfl
def Q_ord3 (Z : State) (k : Addr) (h0 : Heap) (n0 : Nat) (v : Option Value) (h : Heap) (L : List Loc) : Prop := v = some (.int (3 : Int32)) ∧ Fr n0 L ∧ h = h0
set_option maxRecDepth 65536 in
set_option maxHeartbeats 40000000 in
theorem rm_ord3 (l : Launch) (Z : State) (a0 : Array Value) (hw : ∀ d ∈ tables_1, d.before a0 Z = true) (ws : List Jvm.Cond) (k : Addr) (h0 : Heap) (n0 : Nat) (O0 : Old Z n0 h0) (Fk : Fld Z h0 k "java/lang/Enum" "ordinal" "I" (.int (3 : Int32))) :
    MetFree l (⟨"java/lang/Enum", "ordinal", "()I"⟩ : MethodName) (head1 (Jvm.Cond.code (⟨"java/lang/Enum", "ordinal", "()I"⟩ : MethodName) jdk_37_method_2_code 1 (some .int) :: ws) ({ frames := 0, cells := 0, slots := 0, locals := 0 } : Room)) (fun av_ U => av_ = #[(.ref k)] ∧ Z.Warmed39 U.vm ∧ U.heap = h0) (fun _ _ _ _ _ => True) (fun _ U o_ U' => ∃ v L, o_ = .returned v ∧ Q_ord3 Z k h0 n0 v U'.heap L ∧ FrameEnd U o_ U' L ({ frames := 0, cells := 0, slots := 0, locals := 0 } : Room).cells ({ frames := 0, cells := 0, slots := 0, locals := 0 } : Room).slots) := by
  refine MetFree.of_bodySF (plainFor_of_name pn_0) hisR ?_
  intro p e s m args below meth c s₁ Bd hml0 hP hK
  obtain ⟨rfl, hZ, hh⟩ := hP
  have hx := Bd.exec
  have hby := Bd.bytes
  have hml : c.maxLocals = 1 := hml0
  have hown : s.vm.findClass "java/lang/Enum" = some m.cls := findClass_of_methodNamed Bd.named
  have hnm := (name_of_methodNamed Bd.named Bd.method).1
  have hlk := own_lk Bd
  have hret := Bd.returns
  have X0 : Stand p l e ({ frames := 0, cells := 0, slots := 0, locals := 0 } : Room) s m #[(.ref k)] below meth c s₁ [] 0 0 := Stand.of_body Bd
  have e0 : s₁.heap = h0 := by rw [← hh, Bd.state]; rfl
  have N0 := Fr.nil n0
  show own_Goes p e below s (Q_ord3 Z k h0 n0) ({ frames := 0, cells := 0, slots := 0, locals := 0 } : Room).cells ({ frames := 0, cells := 0, slots := 0, locals := 0 } : Room).slots (s₁.setTop (entryFrame m #[(.ref k)] 1))
  refine own_go (fun _ ww => castTop (ef_ord3 m k) ww) ?_
  show own_Goes _ _ _ _ _ _ _ (s₁.setTop (mkF m 0 #[.val (.ref k)] []))
  refine own_go (fun _ ww => XS.aloadN X0.here hx rfl (hb hby d4_0) rfl rfl ww) ?_
  show own_Goes _ _ _ _ _ _ _ (s₁.setTop (mkF m 1 #[.val (.ref k)] [(.ref k)]))
  obtain ⟨T10, X10, e10, st10⟩ := getF X0 hx hZ hown (host := "") (Or.inl (hw _ (List.mem_of_getElem? (i := 26) rfl))) Via.refl e0 Fk (g := (mkF m 1 #[.val (.ref k)] [(.ref k)])) rfl rfl (hb hby d4_1)
  refine own_go st10 ?_
  show own_Goes _ _ _ _ _ _ _ (T10.setTop (mkF m 4 #[.val (.ref k)] [(.int (3 : Int32))]))
  exact own_out X10 hlk (v := some (.int (3 : Int32))) (fun h => by rw [hret] at h; cases h) (fun fs hr => retOut X10 hx (t := .int) hret rfl (Or.inl ⟨rfl, by simp, _, rfl⟩) (hb hby d4_4) hr) e10 ⟨rfl, N0, rfl⟩ (by decide) (by decide)
theorem d3_90 : decode prog_47_method_10_code 90 = .ok (.iload_n 1, 1) := by decide +kernel
theorem d3_91 : decode prog_47_method_10_code 91 = .ok (.ifCond .gt 7, 3) := by decide +kernel
theorem d3_98 : decode prog_47_method_10_code 98 = .ok (.iconst 0, 1) := by decide +kernel
theorem d3_99 : decode prog_47_method_10_code 99 = .ok (.goto 24, 3) := by decide +kernel
theorem d3_94 : decode prog_47_method_10_code 94 = .ok (.iconst 1, 1) := by decide +kernel
theorem d3_95 : decode prog_47_method_10_code 95 = .ok (.goto 28, 3) := by decide +kernel
theorem ef_hold3 (m : MethodId) (k : Addr) (x1 : Int32) (r : Int32) : entryFrame m #[(.ref k), (.int x1)] 2 = mkF m 0 #[.val (.ref k), .val (.int x1)] [] := by first | (simp [entryFrame, mkF, argsToLocals, Value.category]; done) | rfl
def Q_hold3 (Z : State) (k : Addr) (x1 : Int32) (r : Int32) (h0 : Heap) (n0 : Nat) (v : Option Value) (h : Heap) (L : List Loc) : Prop := v = some (.int r) ∧ Fr n0 L ∧ h = h0
set_option maxRecDepth 65536 in
set_option maxHeartbeats 40000000 in
theorem rm_hold3 (l : Launch) (Z : State) (a0 : Array Value) (hw : ∀ d ∈ tables_1, d.before a0 Z = true) (ws : List Jvm.Cond) (k : Addr) (x1 : Int32) (r : Int32) (h0 : Heap) (n0 : Nat) (O0 : Old Z n0 h0) (Fk : Fld Z h0 k "java/lang/Enum" "ordinal" "I" (.int (3 : Int32))) (Ek : Exa Z h0 k "com/example/esfahan/esfahan/model/Comparison") (hr1 : (0 : Int32) < x1 → r = 0) (hr0 : ¬ ((0 : Int32) < x1) → r = 1) :
    MetFree l (⟨"com/example/esfahan/esfahan/model/Comparison", "holdsForSign", "(I)Z"⟩ : MethodName) (head1 (Jvm.Cond.code (⟨"com/example/esfahan/esfahan/model/Comparison", "holdsForSign", "(I)Z"⟩ : MethodName) prog_47_method_10_code 2 (some .boolean) :: ws) ({ frames := 1, cells := 0, slots := 0, locals := 12 } : Room)) (fun av_ U => av_ = #[(.ref k), (.int x1)] ∧ Z.Warmed39 U.vm ∧ U.heap = h0) (fun _ _ _ _ _ => True) (fun _ U o_ U' => ∃ v L, o_ = .returned v ∧ Q_hold3 Z k x1 r h0 n0 v U'.heap L ∧ FrameEnd U o_ U' L ({ frames := 1, cells := 0, slots := 0, locals := 12 } : Room).cells ({ frames := 1, cells := 0, slots := 0, locals := 12 } : Room).slots) := by
  refine MetFree.of_bodySF (plainFor_of_name pn_1) hisR ?_
  intro p e s m args below meth c s₁ Bd hml0 hP hK
  obtain ⟨rfl, hZ, hh⟩ := hP
  have hx := Bd.exec
  have hby := Bd.bytes
  have hml : c.maxLocals = 2 := hml0
  have hown : s.vm.findClass "com/example/esfahan/esfahan/model/Comparison" = some m.cls := findClass_of_methodNamed Bd.named
  have hnm := (name_of_methodNamed Bd.named Bd.method).1
  have hlk := own_lk Bd
  have hret := Bd.returns
  have X0 : Stand p l e ({ frames := 1, cells := 0, slots := 0, locals := 12 } : Room) s m #[(.ref k), (.int x1)] below meth c s₁ [] 0 0 := Stand.of_body Bd
  have e0 : s₁.heap = h0 := by rw [← hh, Bd.state]; rfl
  have N0 := Fr.nil n0
  show own_Goes p e below s (Q_hold3 Z k x1 r h0 n0) ({ frames := 1, cells := 0, slots := 0, locals := 12 } : Room).cells ({ frames := 1, cells := 0, slots := 0, locals := 12 } : Room).slots (s₁.setTop (entryFrame m #[(.ref k), (.int x1)] 2))
  refine own_go (fun _ ww => castTop (ef_hold3 m k x1 r) ww) ?_
  show own_Goes _ _ _ _ _ _ _ (s₁.setTop (mkF m 0 #[.val (.ref k), .val (.int x1)] []))
  refine own_go (fun _ ww => XS.aloadN X0.here hx rfl (hb hby d3_0) rfl rfl ww) ?_
  show own_Goes _ _ _ _ _ _ _ (s₁.setTop (mkF m 1 #[.val (.ref k), .val (.int x1)] [(.ref k)]))
  obtain ⟨cq11, kq11, q11a, q11b, q11c⟩ := isOf hZ e0 Ek
  obtain ⟨_, _, ⟨T11, L11, k11, n11⟩, -, X11, ⟨Lc11, hQ11, l11, y11, z11⟩, st11⟩ := X0.virtualBackUp hx (x := (⟨"com/example/esfahan/esfahan/model/Comparison", "ordinal", "()I"⟩ : MethodName)) (y := (⟨"java/lang/Enum", "ordinal", "()I"⟩ : MethodName)) hown (mvT hZ (hw _ (List.mem_of_getElem? (i := 19) rfl))) (mvT hZ (hw _ (List.mem_of_getElem? (i := 20) rfl))) (mvT hZ (hw _ (List.mem_of_getElem? (i := 21) rfl))) (by decide) (mvT hZ (hw _ (List.mem_of_getElem? (i := 23) rfl))) (mvT hZ (hw _ (List.mem_of_getElem? (i := 22) rfl))) (backOf (W := 0) (rm_ord3 l Z a0 hw [] k h0 n0 O0 Fk) hZ (hw _ (List.mem_of_getElem? (i := 25) rfl)) (hw _ (List.mem_of_getElem? (i := 24) rfl)) (by decide) (by decide)) q11a q11c (g := (mkF m 1 #[.val (.ref k), .val (.int x1)] [(.ref k)])) rfl (by rw [hml]; rfl) (Steps.refl _) (argsL := []) (rest := []) (lenOf pd_0 rfl) rfl (by show 2 * 0 + _ ≤ _; exact Nat.le_of_eq rfl) (hb hby d3_1) (fun _ _ => ⟨rfl, e0, (by decide : 0 + 0 ≤ _), (by decide : 0 + 0 ≤ _)⟩)
  dsimp only [Pt.U, Pt.locs, Pt.cells, Pt.slots] at X11 l11 y11 z11 st11 hQ11
  subst l11 y11 z11
  obtain ⟨rfl, N11q, e11⟩ := hQ11
  have N11 := Fr.app N0 N11q
  refine own_go (fun _ ww => Steps.trans st11 ww) ?_
  show own_Goes _ _ _ _ _ _ _ (T11.setTop (mkF m 4 #[.val (.ref k), .val (.int x1)] [(.int (3 : Int32))]))
  refine own_go (fun _ ww => XS.tswIn X11.here hx rfl (pc0 := 4) (pc' := 90) (o := 86) rfl (hb hby d3_4) rfl (by decide) (by decide) (by decide) (by decide) ww) ?_
  show own_Goes _ _ _ _ _ _ _ (T11.setTop (mkF m 90 #[.val (.ref k), .val (.int x1)] []))
  refine own_go (fun _ ww => XS.iloadN X11.here hx rfl (hb hby d3_90) rfl  ww) ?_
  show own_Goes _ _ _ _ _ _ _ (T11.setTop (mkF m 91 #[.val (.ref k), .val (.int x1)] [(.int x1)]))
  by_cases hc12 : (0 : Int32) < x1
  ·
    refine own_go (fun _ ww => XS.ifYes X11.here hx rfl (pc0 := 91) (pc' := 98) rfl (hb hby d3_91) rfl (own_if .gt (tlt hc12).2.2.1) (by decide) (by decide) ww) ?_
    show own_Goes _ _ _ _ _ _ _ (T11.setTop (mkF m 98 #[.val (.ref k), .val (.int x1)] []))
    refine own_go (fun _ ww => XS.iconst X11.here hx rfl (hb hby d3_98) ww) ?_
    show own_Goes _ _ _ _ _ _ _ (T11.setTop (mkF m 99 #[.val (.ref k), .val (.int x1)] [(.int (0 : Int32))]))
    refine own_go (fun _ ww => XS.goto X11.here hx rfl (pc0 := 99) (pc' := 123) rfl (hb hby d3_99) (by decide) (by decide) ww) ?_
    show own_Goes _ _ _ _ _ _ _ (T11.setTop (mkF m 123 #[.val (.ref k), .val (.int x1)] [(.int (0 : Int32))]))
    exact own_out X11 hlk (v := some (.int (0 : Int32))) (fun h => by rw [hret] at h; cases h) (fun fs hr => retOut X11 hx (t := .boolean) hret (by decide) (Or.inl ⟨rfl, by simp, _, rfl⟩) (hb hby d3_123) hr) e11 ⟨by rw [hr1 hc12], N11, rfl⟩ (by decide) (by decide)
  ·
    refine own_go (fun _ ww => XS.ifNo X11.here hx rfl (hb hby d3_91) rfl (own_if .gt (flt hc12).2.2.1) ww) ?_
    show own_Goes _ _ _ _ _ _ _ (T11.setTop (mkF m 94 #[.val (.ref k), .val (.int x1)] []))
    refine own_go (fun _ ww => XS.iconst X11.here hx rfl (hb hby d3_94) ww) ?_
    show own_Goes _ _ _ _ _ _ _ (T11.setTop (mkF m 95 #[.val (.ref k), .val (.int x1)] [(.int (1 : Int32))]))
    refine own_go (fun _ ww => XS.goto X11.here hx rfl (pc0 := 95) (pc' := 123) rfl (hb hby d3_95) (by decide) (by decide) ww) ?_
    show own_Goes _ _ _ _ _ _ _ (T11.setTop (mkF m 123 #[.val (.ref k), .val (.int x1)] [(.int (1 : Int32))]))
    exact own_out X11 hlk (v := some (.int (1 : Int32))) (fun h => by rw [hret] at h; cases h) (fun fs hr => retOut X11 hx (t := .boolean) hret (by decide) (Or.inl ⟨rfl, by simp, _, rfl⟩) (hb hby d3_123) hr) e11 ⟨by rw [hr0 hc12], N11, rfl⟩ (by decide) (by decide)
theorem ef_ord4 (m : MethodId) (k : Addr) : entryFrame m #[(.ref k)] 1 = mkF m 0 #[.val (.ref k)] [] := by first | (simp [entryFrame, mkF, argsToLocals, Value.category]; done) | rfl
def Q_ord4 (Z : State) (k : Addr) (h0 : Heap) (n0 : Nat) (v : Option Value) (h : Heap) (L : List Loc) : Prop := v = some (.int (4 : Int32)) ∧ Fr n0 L ∧ h = h0
set_option maxRecDepth 65536 in
set_option maxHeartbeats 40000000 in
theorem rm_ord4 (l : Launch) (Z : State) (a0 : Array Value) (hw : ∀ d ∈ tables_1, d.before a0 Z = true) (ws : List Jvm.Cond) (k : Addr) (h0 : Heap) (n0 : Nat) (O0 : Old Z n0 h0) (Fk : Fld Z h0 k "java/lang/Enum" "ordinal" "I" (.int (4 : Int32))) :
    MetFree l (⟨"java/lang/Enum", "ordinal", "()I"⟩ : MethodName) (head1 (Jvm.Cond.code (⟨"java/lang/Enum", "ordinal", "()I"⟩ : MethodName) jdk_37_method_2_code 1 (some .int) :: ws) ({ frames := 0, cells := 0, slots := 0, locals := 0 } : Room)) (fun av_ U => av_ = #[(.ref k)] ∧ Z.Warmed39 U.vm ∧ U.heap = h0) (fun _ _ _ _ _ => True) (fun _ U o_ U' => ∃ v L, o_ = .returned v ∧ Q_ord4 Z k h0 n0 v U'.heap L ∧ FrameEnd U o_ U' L ({ frames := 0, cells := 0, slots := 0, locals := 0 } : Room).cells ({ frames := 0, cells := 0, slots := 0, locals := 0 } : Room).slots) := by
  refine MetFree.of_bodySF (plainFor_of_name pn_0) hisR ?_
  intro p e s m args below meth c s₁ Bd hml0 hP hK
  obtain ⟨rfl, hZ, hh⟩ := hP
  have hx := Bd.exec
  have hby := Bd.bytes
  have hml : c.maxLocals = 1 := hml0
  have hown : s.vm.findClass "java/lang/Enum" = some m.cls := findClass_of_methodNamed Bd.named
  have hnm := (name_of_methodNamed Bd.named Bd.method).1
  have hlk := own_lk Bd
  have hret := Bd.returns
  have X0 : Stand p l e ({ frames := 0, cells := 0, slots := 0, locals := 0 } : Room) s m #[(.ref k)] below meth c s₁ [] 0 0 := Stand.of_body Bd
  have e0 : s₁.heap = h0 := by rw [← hh, Bd.state]; rfl
  have N0 := Fr.nil n0
  show own_Goes p e below s (Q_ord4 Z k h0 n0) ({ frames := 0, cells := 0, slots := 0, locals := 0 } : Room).cells ({ frames := 0, cells := 0, slots := 0, locals := 0 } : Room).slots (s₁.setTop (entryFrame m #[(.ref k)] 1))
  refine own_go (fun _ ww => castTop (ef_ord4 m k) ww) ?_
  show own_Goes _ _ _ _ _ _ _ (s₁.setTop (mkF m 0 #[.val (.ref k)] []))
  refine own_go (fun _ ww => XS.aloadN X0.here hx rfl (hb hby d4_0) rfl rfl ww) ?_
  show own_Goes _ _ _ _ _ _ _ (s₁.setTop (mkF m 1 #[.val (.ref k)] [(.ref k)]))
  obtain ⟨T13, X13, e13, st13⟩ := getF X0 hx hZ hown (host := "") (Or.inl (hw _ (List.mem_of_getElem? (i := 26) rfl))) Via.refl e0 Fk (g := (mkF m 1 #[.val (.ref k)] [(.ref k)])) rfl rfl (hb hby d4_1)
  refine own_go st13 ?_
  show own_Goes _ _ _ _ _ _ _ (T13.setTop (mkF m 4 #[.val (.ref k)] [(.int (4 : Int32))]))
  exact own_out X13 hlk (v := some (.int (4 : Int32))) (fun h => by rw [hret] at h; cases h) (fun fs hr => retOut X13 hx (t := .int) hret rfl (Or.inl ⟨rfl, by simp, _, rfl⟩) (hb hby d4_4) hr) e13 ⟨rfl, N0, rfl⟩ (by decide) (by decide)
theorem d3_102 : decode prog_47_method_10_code 102 = .ok (.iload_n 1, 1) := by decide +kernel
theorem d3_103 : decode prog_47_method_10_code 103 = .ok (.ifCond .le 7, 3) := by decide +kernel
theorem d3_106 : decode prog_47_method_10_code 106 = .ok (.iconst 1, 1) := by decide +kernel
theorem d3_107 : decode prog_47_method_10_code 107 = .ok (.goto 16, 3) := by decide +kernel
theorem d3_110 : decode prog_47_method_10_code 110 = .ok (.iconst 0, 1) := by decide +kernel
theorem d3_111 : decode prog_47_method_10_code 111 = .ok (.goto 12, 3) := by decide +kernel
theorem ef_hold4 (m : MethodId) (k : Addr) (x1 : Int32) (r : Int32) : entryFrame m #[(.ref k), (.int x1)] 2 = mkF m 0 #[.val (.ref k), .val (.int x1)] [] := by first | (simp [entryFrame, mkF, argsToLocals, Value.category]; done) | rfl
def Q_hold4 (Z : State) (k : Addr) (x1 : Int32) (r : Int32) (h0 : Heap) (n0 : Nat) (v : Option Value) (h : Heap) (L : List Loc) : Prop := v = some (.int r) ∧ Fr n0 L ∧ h = h0
set_option maxRecDepth 65536 in
set_option maxHeartbeats 40000000 in
theorem rm_hold4 (l : Launch) (Z : State) (a0 : Array Value) (hw : ∀ d ∈ tables_1, d.before a0 Z = true) (ws : List Jvm.Cond) (k : Addr) (x1 : Int32) (r : Int32) (h0 : Heap) (n0 : Nat) (O0 : Old Z n0 h0) (Fk : Fld Z h0 k "java/lang/Enum" "ordinal" "I" (.int (4 : Int32))) (Ek : Exa Z h0 k "com/example/esfahan/esfahan/model/Comparison") (hr1 : (0 : Int32) < x1 → r = 1) (hr0 : ¬ ((0 : Int32) < x1) → r = 0) :
    MetFree l (⟨"com/example/esfahan/esfahan/model/Comparison", "holdsForSign", "(I)Z"⟩ : MethodName) (head1 (Jvm.Cond.code (⟨"com/example/esfahan/esfahan/model/Comparison", "holdsForSign", "(I)Z"⟩ : MethodName) prog_47_method_10_code 2 (some .boolean) :: ws) ({ frames := 1, cells := 0, slots := 0, locals := 12 } : Room)) (fun av_ U => av_ = #[(.ref k), (.int x1)] ∧ Z.Warmed39 U.vm ∧ U.heap = h0) (fun _ _ _ _ _ => True) (fun _ U o_ U' => ∃ v L, o_ = .returned v ∧ Q_hold4 Z k x1 r h0 n0 v U'.heap L ∧ FrameEnd U o_ U' L ({ frames := 1, cells := 0, slots := 0, locals := 12 } : Room).cells ({ frames := 1, cells := 0, slots := 0, locals := 12 } : Room).slots) := by
  refine MetFree.of_bodySF (plainFor_of_name pn_1) hisR ?_
  intro p e s m args below meth c s₁ Bd hml0 hP hK
  obtain ⟨rfl, hZ, hh⟩ := hP
  have hx := Bd.exec
  have hby := Bd.bytes
  have hml : c.maxLocals = 2 := hml0
  have hown : s.vm.findClass "com/example/esfahan/esfahan/model/Comparison" = some m.cls := findClass_of_methodNamed Bd.named
  have hnm := (name_of_methodNamed Bd.named Bd.method).1
  have hlk := own_lk Bd
  have hret := Bd.returns
  have X0 : Stand p l e ({ frames := 1, cells := 0, slots := 0, locals := 12 } : Room) s m #[(.ref k), (.int x1)] below meth c s₁ [] 0 0 := Stand.of_body Bd
  have e0 : s₁.heap = h0 := by rw [← hh, Bd.state]; rfl
  have N0 := Fr.nil n0
  show own_Goes p e below s (Q_hold4 Z k x1 r h0 n0) ({ frames := 1, cells := 0, slots := 0, locals := 12 } : Room).cells ({ frames := 1, cells := 0, slots := 0, locals := 12 } : Room).slots (s₁.setTop (entryFrame m #[(.ref k), (.int x1)] 2))
  refine own_go (fun _ ww => castTop (ef_hold4 m k x1 r) ww) ?_
  show own_Goes _ _ _ _ _ _ _ (s₁.setTop (mkF m 0 #[.val (.ref k), .val (.int x1)] []))
  refine own_go (fun _ ww => XS.aloadN X0.here hx rfl (hb hby d3_0) rfl rfl ww) ?_
  show own_Goes _ _ _ _ _ _ _ (s₁.setTop (mkF m 1 #[.val (.ref k), .val (.int x1)] [(.ref k)]))
  obtain ⟨cq14, kq14, q14a, q14b, q14c⟩ := isOf hZ e0 Ek
  obtain ⟨_, _, ⟨T14, L14, k14, n14⟩, -, X14, ⟨Lc14, hQ14, l14, y14, z14⟩, st14⟩ := X0.virtualBackUp hx (x := (⟨"com/example/esfahan/esfahan/model/Comparison", "ordinal", "()I"⟩ : MethodName)) (y := (⟨"java/lang/Enum", "ordinal", "()I"⟩ : MethodName)) hown (mvT hZ (hw _ (List.mem_of_getElem? (i := 19) rfl))) (mvT hZ (hw _ (List.mem_of_getElem? (i := 20) rfl))) (mvT hZ (hw _ (List.mem_of_getElem? (i := 21) rfl))) (by decide) (mvT hZ (hw _ (List.mem_of_getElem? (i := 23) rfl))) (mvT hZ (hw _ (List.mem_of_getElem? (i := 22) rfl))) (backOf (W := 0) (rm_ord4 l Z a0 hw [] k h0 n0 O0 Fk) hZ (hw _ (List.mem_of_getElem? (i := 25) rfl)) (hw _ (List.mem_of_getElem? (i := 24) rfl)) (by decide) (by decide)) q14a q14c (g := (mkF m 1 #[.val (.ref k), .val (.int x1)] [(.ref k)])) rfl (by rw [hml]; rfl) (Steps.refl _) (argsL := []) (rest := []) (lenOf pd_0 rfl) rfl (by show 2 * 0 + _ ≤ _; exact Nat.le_of_eq rfl) (hb hby d3_1) (fun _ _ => ⟨rfl, e0, (by decide : 0 + 0 ≤ _), (by decide : 0 + 0 ≤ _)⟩)
  dsimp only [Pt.U, Pt.locs, Pt.cells, Pt.slots] at X14 l14 y14 z14 st14 hQ14
  subst l14 y14 z14
  obtain ⟨rfl, N14q, e14⟩ := hQ14
  have N14 := Fr.app N0 N14q
  refine own_go (fun _ ww => Steps.trans st14 ww) ?_
  show own_Goes _ _ _ _ _ _ _ (T14.setTop (mkF m 4 #[.val (.ref k), .val (.int x1)] [(.int (4 : Int32))]))
  refine own_go (fun _ ww => XS.tswIn X14.here hx rfl (pc0 := 4) (pc' := 102) (o := 98) rfl (hb hby d3_4) rfl (by decide) (by decide) (by decide) (by decide) ww) ?_
  show own_Goes _ _ _ _ _ _ _ (T14.setTop (mkF m 102 #[.val (.ref k), .val (.int x1)] []))
  refine own_go (fun _ ww => XS.iloadN X14.here hx rfl (hb hby d3_102) rfl  ww) ?_
  show own_Goes _ _ _ _ _ _ _ (T14.setTop (mkF m 103 #[.val (.ref k), .val (.int x1)] [(.int x1)]))
  by_cases hc15 : (0 : Int32) < x1
  ·
    refine own_go (fun _ ww => XS.ifNo X14.here hx rfl (hb hby d3_103) rfl (own_if .le (tlt hc15).2.2.2) ww) ?_
    show own_Goes _ _ _ _ _ _ _ (T14.setTop (mkF m 106 #[.val (.ref k), .val (.int x1)] []))
    refine own_go (fun _ ww => XS.iconst X14.here hx rfl (hb hby d3_106) ww) ?_
    show own_Goes _ _ _ _ _ _ _ (T14.setTop (mkF m 107 #[.val (.ref k), .val (.int x1)] [(.int (1 : Int32))]))
    refine own_go (fun _ ww => XS.goto X14.here hx rfl (pc0 := 107) (pc' := 123) rfl (hb hby d3_107) (by decide) (by decide) ww) ?_
    show own_Goes _ _ _ _ _ _ _ (T14.setTop (mkF m 123 #[.val (.ref k), .val (.int x1)] [(.int (1 : Int32))]))
    exact own_out X14 hlk (v := some (.int (1 : Int32))) (fun h => by rw [hret] at h; cases h) (fun fs hr => retOut X14 hx (t := .boolean) hret (by decide) (Or.inl ⟨rfl, by simp, _, rfl⟩) (hb hby d3_123) hr) e14 ⟨by rw [hr1 hc15], N14, rfl⟩ (by decide) (by decide)
  ·
    refine own_go (fun _ ww => XS.ifYes X14.here hx rfl (pc0 := 103) (pc' := 110) rfl (hb hby d3_103) rfl (own_if .le (flt hc15).2.2.2) (by decide) (by decide) ww) ?_
    show own_Goes _ _ _ _ _ _ _ (T14.setTop (mkF m 110 #[.val (.ref k), .val (.int x1)] []))
    refine own_go (fun _ ww => XS.iconst X14.here hx rfl (hb hby d3_110) ww) ?_
    show own_Goes _ _ _ _ _ _ _ (T14.setTop (mkF m 111 #[.val (.ref k), .val (.int x1)] [(.int (0 : Int32))]))
    refine own_go (fun _ ww => XS.goto X14.here hx rfl (pc0 := 111) (pc' := 123) rfl (hb hby d3_111) (by decide) (by decide) ww) ?_
    show own_Goes _ _ _ _ _ _ _ (T14.setTop (mkF m 123 #[.val (.ref k), .val (.int x1)] [(.int (0 : Int32))]))
    exact own_out X14 hlk (v := some (.int (0 : Int32))) (fun h => by rw [hret] at h; cases h) (fun fs hr => retOut X14 hx (t := .boolean) hret (by decide) (Or.inl ⟨rfl, by simp, _, rfl⟩) (hb hby d3_123) hr) e14 ⟨by rw [hr0 hc15], N14, rfl⟩ (by decide) (by decide)
theorem ef_ord5 (m : MethodId) (k : Addr) : entryFrame m #[(.ref k)] 1 = mkF m 0 #[.val (.ref k)] [] := by first | (simp [entryFrame, mkF, argsToLocals, Value.category]; done) | rfl
def Q_ord5 (Z : State) (k : Addr) (h0 : Heap) (n0 : Nat) (v : Option Value) (h : Heap) (L : List Loc) : Prop := v = some (.int (5 : Int32)) ∧ Fr n0 L ∧ h = h0
set_option maxRecDepth 65536 in
set_option maxHeartbeats 40000000 in
theorem rm_ord5 (l : Launch) (Z : State) (a0 : Array Value) (hw : ∀ d ∈ tables_1, d.before a0 Z = true) (ws : List Jvm.Cond) (k : Addr) (h0 : Heap) (n0 : Nat) (O0 : Old Z n0 h0) (Fk : Fld Z h0 k "java/lang/Enum" "ordinal" "I" (.int (5 : Int32))) :
    MetFree l (⟨"java/lang/Enum", "ordinal", "()I"⟩ : MethodName) (head1 (Jvm.Cond.code (⟨"java/lang/Enum", "ordinal", "()I"⟩ : MethodName) jdk_37_method_2_code 1 (some .int) :: ws) ({ frames := 0, cells := 0, slots := 0, locals := 0 } : Room)) (fun av_ U => av_ = #[(.ref k)] ∧ Z.Warmed39 U.vm ∧ U.heap = h0) (fun _ _ _ _ _ => True) (fun _ U o_ U' => ∃ v L, o_ = .returned v ∧ Q_ord5 Z k h0 n0 v U'.heap L ∧ FrameEnd U o_ U' L ({ frames := 0, cells := 0, slots := 0, locals := 0 } : Room).cells ({ frames := 0, cells := 0, slots := 0, locals := 0 } : Room).slots) := by
  refine MetFree.of_bodySF (plainFor_of_name pn_0) hisR ?_
  intro p e s m args below meth c s₁ Bd hml0 hP hK
  obtain ⟨rfl, hZ, hh⟩ := hP
  have hx := Bd.exec
  have hby := Bd.bytes
  have hml : c.maxLocals = 1 := hml0
  have hown : s.vm.findClass "java/lang/Enum" = some m.cls := findClass_of_methodNamed Bd.named
  have hnm := (name_of_methodNamed Bd.named Bd.method).1
  have hlk := own_lk Bd
  have hret := Bd.returns
  have X0 : Stand p l e ({ frames := 0, cells := 0, slots := 0, locals := 0 } : Room) s m #[(.ref k)] below meth c s₁ [] 0 0 := Stand.of_body Bd
  have e0 : s₁.heap = h0 := by rw [← hh, Bd.state]; rfl
  have N0 := Fr.nil n0
  show own_Goes p e below s (Q_ord5 Z k h0 n0) ({ frames := 0, cells := 0, slots := 0, locals := 0 } : Room).cells ({ frames := 0, cells := 0, slots := 0, locals := 0 } : Room).slots (s₁.setTop (entryFrame m #[(.ref k)] 1))
  refine own_go (fun _ ww => castTop (ef_ord5 m k) ww) ?_
  show own_Goes _ _ _ _ _ _ _ (s₁.setTop (mkF m 0 #[.val (.ref k)] []))
  refine own_go (fun _ ww => XS.aloadN X0.here hx rfl (hb hby d4_0) rfl rfl ww) ?_
  show own_Goes _ _ _ _ _ _ _ (s₁.setTop (mkF m 1 #[.val (.ref k)] [(.ref k)]))
  obtain ⟨T16, X16, e16, st16⟩ := getF X0 hx hZ hown (host := "") (Or.inl (hw _ (List.mem_of_getElem? (i := 26) rfl))) Via.refl e0 Fk (g := (mkF m 1 #[.val (.ref k)] [(.ref k)])) rfl rfl (hb hby d4_1)
  refine own_go st16 ?_
  show own_Goes _ _ _ _ _ _ _ (T16.setTop (mkF m 4 #[.val (.ref k)] [(.int (5 : Int32))]))
  exact own_out X16 hlk (v := some (.int (5 : Int32))) (fun h => by rw [hret] at h; cases h) (fun fs hr => retOut X16 hx (t := .int) hret rfl (Or.inl ⟨rfl, by simp, _, rfl⟩) (hb hby d4_4) hr) e16 ⟨rfl, N0, rfl⟩ (by decide) (by decide)
theorem d3_114 : decode prog_47_method_10_code 114 = .ok (.iload_n 1, 1) := by decide +kernel
theorem d3_115 : decode prog_47_method_10_code 115 = .ok (.ifCond .lt 7, 3) := by decide +kernel
theorem d3_122 : decode prog_47_method_10_code 122 = .ok (.iconst 0, 1) := by decide +kernel
theorem d3_118 : decode prog_47_method_10_code 118 = .ok (.iconst 1, 1) := by decide +kernel
theorem d3_119 : decode prog_47_method_10_code 119 = .ok (.goto 4, 3) := by decide +kernel
theorem ef_hold5 (m : MethodId) (k : Addr) (x1 : Int32) (r : Int32) : entryFrame m #[(.ref k), (.int x1)] 2 = mkF m 0 #[.val (.ref k), .val (.int x1)] [] := by first | (simp [entryFrame, mkF, argsToLocals, Value.category]; done) | rfl
def Q_hold5 (Z : State) (k : Addr) (x1 : Int32) (r : Int32) (h0 : Heap) (n0 : Nat) (v : Option Value) (h : Heap) (L : List Loc) : Prop := v = some (.int r) ∧ Fr n0 L ∧ h = h0
set_option maxRecDepth 65536 in
set_option maxHeartbeats 40000000 in
theorem rm_hold5 (l : Launch) (Z : State) (a0 : Array Value) (hw : ∀ d ∈ tables_1, d.before a0 Z = true) (ws : List Jvm.Cond) (k : Addr) (x1 : Int32) (r : Int32) (h0 : Heap) (n0 : Nat) (O0 : Old Z n0 h0) (Fk : Fld Z h0 k "java/lang/Enum" "ordinal" "I" (.int (5 : Int32))) (Ek : Exa Z h0 k "com/example/esfahan/esfahan/model/Comparison") (hr1 : x1 < (0 : Int32) → r = 0) (hr0 : ¬ (x1 < (0 : Int32)) → r = 1) :
    MetFree l (⟨"com/example/esfahan/esfahan/model/Comparison", "holdsForSign", "(I)Z"⟩ : MethodName) (head1 (Jvm.Cond.code (⟨"com/example/esfahan/esfahan/model/Comparison", "holdsForSign", "(I)Z"⟩ : MethodName) prog_47_method_10_code 2 (some .boolean) :: ws) ({ frames := 1, cells := 0, slots := 0, locals := 12 } : Room)) (fun av_ U => av_ = #[(.ref k), (.int x1)] ∧ Z.Warmed39 U.vm ∧ U.heap = h0) (fun _ _ _ _ _ => True) (fun _ U o_ U' => ∃ v L, o_ = .returned v ∧ Q_hold5 Z k x1 r h0 n0 v U'.heap L ∧ FrameEnd U o_ U' L ({ frames := 1, cells := 0, slots := 0, locals := 12 } : Room).cells ({ frames := 1, cells := 0, slots := 0, locals := 12 } : Room).slots) := by
  refine MetFree.of_bodySF (plainFor_of_name pn_1) hisR ?_
  intro p e s m args below meth c s₁ Bd hml0 hP hK
  obtain ⟨rfl, hZ, hh⟩ := hP
  have hx := Bd.exec
  have hby := Bd.bytes
  have hml : c.maxLocals = 2 := hml0
  have hown : s.vm.findClass "com/example/esfahan/esfahan/model/Comparison" = some m.cls := findClass_of_methodNamed Bd.named
  have hnm := (name_of_methodNamed Bd.named Bd.method).1
  have hlk := own_lk Bd
  have hret := Bd.returns
  have X0 : Stand p l e ({ frames := 1, cells := 0, slots := 0, locals := 12 } : Room) s m #[(.ref k), (.int x1)] below meth c s₁ [] 0 0 := Stand.of_body Bd
  have e0 : s₁.heap = h0 := by rw [← hh, Bd.state]; rfl
  have N0 := Fr.nil n0
  show own_Goes p e below s (Q_hold5 Z k x1 r h0 n0) ({ frames := 1, cells := 0, slots := 0, locals := 12 } : Room).cells ({ frames := 1, cells := 0, slots := 0, locals := 12 } : Room).slots (s₁.setTop (entryFrame m #[(.ref k), (.int x1)] 2))
  refine own_go (fun _ ww => castTop (ef_hold5 m k x1 r) ww) ?_
  show own_Goes _ _ _ _ _ _ _ (s₁.setTop (mkF m 0 #[.val (.ref k), .val (.int x1)] []))
  refine own_go (fun _ ww => XS.aloadN X0.here hx rfl (hb hby d3_0) rfl rfl ww) ?_
  show own_Goes _ _ _ _ _ _ _ (s₁.setTop (mkF m 1 #[.val (.ref k), .val (.int x1)] [(.ref k)]))
  obtain ⟨cq17, kq17, q17a, q17b, q17c⟩ := isOf hZ e0 Ek
  obtain ⟨_, _, ⟨T17, L17, k17, n17⟩, -, X17, ⟨Lc17, hQ17, l17, y17, z17⟩, st17⟩ := X0.virtualBackUp hx (x := (⟨"com/example/esfahan/esfahan/model/Comparison", "ordinal", "()I"⟩ : MethodName)) (y := (⟨"java/lang/Enum", "ordinal", "()I"⟩ : MethodName)) hown (mvT hZ (hw _ (List.mem_of_getElem? (i := 19) rfl))) (mvT hZ (hw _ (List.mem_of_getElem? (i := 20) rfl))) (mvT hZ (hw _ (List.mem_of_getElem? (i := 21) rfl))) (by decide) (mvT hZ (hw _ (List.mem_of_getElem? (i := 23) rfl))) (mvT hZ (hw _ (List.mem_of_getElem? (i := 22) rfl))) (backOf (W := 0) (rm_ord5 l Z a0 hw [] k h0 n0 O0 Fk) hZ (hw _ (List.mem_of_getElem? (i := 25) rfl)) (hw _ (List.mem_of_getElem? (i := 24) rfl)) (by decide) (by decide)) q17a q17c (g := (mkF m 1 #[.val (.ref k), .val (.int x1)] [(.ref k)])) rfl (by rw [hml]; rfl) (Steps.refl _) (argsL := []) (rest := []) (lenOf pd_0 rfl) rfl (by show 2 * 0 + _ ≤ _; exact Nat.le_of_eq rfl) (hb hby d3_1) (fun _ _ => ⟨rfl, e0, (by decide : 0 + 0 ≤ _), (by decide : 0 + 0 ≤ _)⟩)
  dsimp only [Pt.U, Pt.locs, Pt.cells, Pt.slots] at X17 l17 y17 z17 st17 hQ17
  subst l17 y17 z17
  obtain ⟨rfl, N17q, e17⟩ := hQ17
  have N17 := Fr.app N0 N17q
  refine own_go (fun _ ww => Steps.trans st17 ww) ?_
  show own_Goes _ _ _ _ _ _ _ (T17.setTop (mkF m 4 #[.val (.ref k), .val (.int x1)] [(.int (5 : Int32))]))
  refine own_go (fun _ ww => XS.tswIn X17.here hx rfl (pc0 := 4) (pc' := 114) (o := 110) rfl (hb hby d3_4) rfl (by decide) (by decide) (by decide) (by decide) ww) ?_
  show own_Goes _ _ _ _ _ _ _ (T17.setTop (mkF m 114 #[.val (.ref k), .val (.int x1)] []))
  refine own_go (fun _ ww => XS.iloadN X17.here hx rfl (hb hby d3_114) rfl  ww) ?_
  show own_Goes _ _ _ _ _ _ _ (T17.setTop (mkF m 115 #[.val (.ref k), .val (.int x1)] [(.int x1)]))
  by_cases hc18 : x1 < (0 : Int32)
  ·
    refine own_go (fun _ ww => XS.ifYes X17.here hx rfl (pc0 := 115) (pc' := 122) rfl (hb hby d3_115) rfl (own_if .lt (tlt hc18).1) (by decide) (by decide) ww) ?_
    show own_Goes _ _ _ _ _ _ _ (T17.setTop (mkF m 122 #[.val (.ref k), .val (.int x1)] []))
    refine own_go (fun _ ww => XS.iconst X17.here hx rfl (hb hby d3_122) ww) ?_
    show own_Goes _ _ _ _ _ _ _ (T17.setTop (mkF m 123 #[.val (.ref k), .val (.int x1)] [(.int (0 : Int32))]))
    exact own_out X17 hlk (v := some (.int (0 : Int32))) (fun h => by rw [hret] at h; cases h) (fun fs hr => retOut X17 hx (t := .boolean) hret (by decide) (Or.inl ⟨rfl, by simp, _, rfl⟩) (hb hby d3_123) hr) e17 ⟨by rw [hr1 hc18], N17, rfl⟩ (by decide) (by decide)
  ·
    refine own_go (fun _ ww => XS.ifNo X17.here hx rfl (hb hby d3_115) rfl (own_if .lt (flt hc18).1) ww) ?_
    show own_Goes _ _ _ _ _ _ _ (T17.setTop (mkF m 118 #[.val (.ref k), .val (.int x1)] []))
    refine own_go (fun _ ww => XS.iconst X17.here hx rfl (hb hby d3_118) ww) ?_
    show own_Goes _ _ _ _ _ _ _ (T17.setTop (mkF m 119 #[.val (.ref k), .val (.int x1)] [(.int (1 : Int32))]))
    refine own_go (fun _ ww => XS.goto X17.here hx rfl (pc0 := 119) (pc' := 123) rfl (hb hby d3_119) (by decide) (by decide) ww) ?_
    show own_Goes _ _ _ _ _ _ _ (T17.setTop (mkF m 123 #[.val (.ref k), .val (.int x1)] [(.int (1 : Int32))]))
    exact own_out X17 hlk (v := some (.int (1 : Int32))) (fun h => by rw [hret] at h; cases h) (fun fs hr => retOut X17 hx (t := .boolean) hret (by decide) (Or.inl ⟨rfl, by simp, _, rfl⟩) (hb hby d3_123) hr) e17 ⟨by rw [hr0 hc18], N17, rfl⟩ (by decide) (by decide)
theorem d1_0 : decode method_2_code 0 = .ok (.iload_n 0, 1) := by decide +kernel
theorem d1_1 : decode method_2_code 1 = .ok (.ifCond .ne 7, 3) := by decide +kernel
theorem d1_4 : decode method_2_code 4 = .ok (.getstatic 7, 3) := by decide +kernel
theorem d1_7 : decode method_2_code 7 = .ok (.areturn, 1) := by decide +kernel
theorem ef_pick0 (m : MethodId) (a : Addr) : entryFrame m #[(.int (0 : Int32))] 1 = mkF m 0 #[.val (.int (0 : Int32))] [] := by first | (simp [entryFrame, mkF, argsToLocals, Value.category]; done) | rfl
def Q_pick0 (Z : State) (a : Addr) (h0 : Heap) (n0 : Nat) (v : Option Value) (h : Heap) (L : List Loc) : Prop := v = some (.ref a) ∧ Fr n0 L ∧ h = h0
set_option maxRecDepth 65536 in
set_option maxHeartbeats 40000000 in
theorem rm_pick0 (l : Launch) (Z : State) (a0 : Array Value) (hw : ∀ d ∈ tables_1, d.before a0 Z = true) (ws : List Jvm.Cond) (a : Addr) (h0 : Heap) (n0 : Nat) (O0 : Old Z n0 h0) (Sa : Sta Z Z.heap "com/example/esfahan/esfahan/model/Comparison" "EQUAL" "Lcom/example/esfahan/esfahan/model/Comparison;" (.ref a)) :
    MetFree l (⟨"com/example/esfahan/esfahan/model/ComparisonIsOrderingPinLaw", "pick", "(I)Lcom/example/esfahan/esfahan/model/Comparison;"⟩ : MethodName) (head1 (Jvm.Cond.code (⟨"com/example/esfahan/esfahan/model/ComparisonIsOrderingPinLaw", "pick", "(I)Lcom/example/esfahan/esfahan/model/Comparison;"⟩ : MethodName) method_2_code 1 (some (.object "com/example/esfahan/esfahan/model/Comparison")) :: ws) ({ frames := 0, cells := 0, slots := 0, locals := 0 } : Room)) (fun av_ U => av_ = #[(.int (0 : Int32))] ∧ Z.Warmed39 U.vm ∧ U.heap = h0) (fun _ _ _ _ _ => True) (fun _ U o_ U' => ∃ v L, o_ = .returned v ∧ Q_pick0 Z a h0 n0 v U'.heap L ∧ FrameEnd U o_ U' L ({ frames := 0, cells := 0, slots := 0, locals := 0 } : Room).cells ({ frames := 0, cells := 0, slots := 0, locals := 0 } : Room).slots) := by
  refine MetFree.of_bodySF (plainFor_of_name pn_2) hisR ?_
  intro p e s m args below meth c s₁ Bd hml0 hP hK
  obtain ⟨rfl, hZ, hh⟩ := hP
  have hx := Bd.exec
  have hby := Bd.bytes
  have hml : c.maxLocals = 1 := hml0
  have hown : s.vm.findClass "com/example/esfahan/esfahan/model/ComparisonIsOrderingPinLaw" = some m.cls := findClass_of_methodNamed Bd.named
  have hnm := (name_of_methodNamed Bd.named Bd.method).1
  have hlk := own_lk Bd
  have hret := Bd.returns
  have X0 : Stand p l e ({ frames := 0, cells := 0, slots := 0, locals := 0 } : Room) s m #[(.int (0 : Int32))] below meth c s₁ [] 0 0 := Stand.of_body Bd
  have e0 : s₁.heap = h0 := by rw [← hh, Bd.state]; rfl
  have N0 := Fr.nil n0
  show own_Goes p e below s (Q_pick0 Z a h0 n0) ({ frames := 0, cells := 0, slots := 0, locals := 0 } : Room).cells ({ frames := 0, cells := 0, slots := 0, locals := 0 } : Room).slots (s₁.setTop (entryFrame m #[(.int (0 : Int32))] 1))
  refine own_go (fun _ ww => castTop (ef_pick0 m a) ww) ?_
  show own_Goes _ _ _ _ _ _ _ (s₁.setTop (mkF m 0 #[.val (.int (0 : Int32))] []))
  refine own_go (fun _ ww => XS.iloadN X0.here hx rfl (hb hby d1_0) rfl  ww) ?_
  show own_Goes _ _ _ _ _ _ _ (s₁.setTop (mkF m 1 #[.val (.int (0 : Int32))] [(.int (0 : Int32))]))
  refine own_go (fun _ ww => XS.ifNo X0.here hx rfl (hb hby d1_1) rfl (own_if .ne (teq (by decide : (0 : Int32) = (0 : Int32))).2) ww) ?_
  show own_Goes _ _ _ _ _ _ _ (s₁.setTop (mkF m 4 #[.val (.int (0 : Int32))] []))
  obtain ⟨T19, X19, e19, st19⟩ := getS X0 hx hZ hown (host := "") (hw _ (List.mem_of_getElem? (i := 5) rfl)) Via.refl e0 (Sa.ext O0.2) (g := (mkF m 4 #[.val (.int (0 : Int32))] [])) rfl (hb hby d1_4)
  refine own_go st19 ?_
  show own_Goes _ _ _ _ _ _ _ (T19.setTop (mkF m 7 #[.val (.int (0 : Int32))] [(.ref a)]))
  exact own_out X19 hlk (v := some (.ref a)) (fun h => by rw [hret] at h; cases h) (fun fs hr => retOut X19 hx (t := (.object "com/example/esfahan/esfahan/model/Comparison")) hret rfl (Or.inr (Or.inr (Or.inr (Or.inr ⟨rfl, rfl, rfl⟩)))) (hb hby d1_7) hr) e19 ⟨rfl, N0, rfl⟩ (by decide) (by decide)
theorem d1_8 : decode method_2_code 8 = .ok (.iload_n 0, 1) := by decide +kernel
theorem d1_9 : decode method_2_code 9 = .ok (.iconst 1, 1) := by decide +kernel
theorem d1_10 : decode method_2_code 10 = .ok (.if_icmp .ne 7, 3) := by decide +kernel
theorem d1_13 : decode method_2_code 13 = .ok (.getstatic 13, 3) := by decide +kernel
theorem d1_16 : decode method_2_code 16 = .ok (.areturn, 1) := by decide +kernel
theorem ef_pick1 (m : MethodId) (a : Addr) : entryFrame m #[(.int (1 : Int32))] 1 = mkF m 0 #[.val (.int (1 : Int32))] [] := by first | (simp [entryFrame, mkF, argsToLocals, Value.category]; done) | rfl
def Q_pick1 (Z : State) (a : Addr) (h0 : Heap) (n0 : Nat) (v : Option Value) (h : Heap) (L : List Loc) : Prop := v = some (.ref a) ∧ Fr n0 L ∧ h = h0
set_option maxRecDepth 65536 in
set_option maxHeartbeats 40000000 in
theorem rm_pick1 (l : Launch) (Z : State) (a0 : Array Value) (hw : ∀ d ∈ tables_1, d.before a0 Z = true) (ws : List Jvm.Cond) (a : Addr) (h0 : Heap) (n0 : Nat) (O0 : Old Z n0 h0) (Sa : Sta Z Z.heap "com/example/esfahan/esfahan/model/Comparison" "NOT_EQUAL" "Lcom/example/esfahan/esfahan/model/Comparison;" (.ref a)) :
    MetFree l (⟨"com/example/esfahan/esfahan/model/ComparisonIsOrderingPinLaw", "pick", "(I)Lcom/example/esfahan/esfahan/model/Comparison;"⟩ : MethodName) (head1 (Jvm.Cond.code (⟨"com/example/esfahan/esfahan/model/ComparisonIsOrderingPinLaw", "pick", "(I)Lcom/example/esfahan/esfahan/model/Comparison;"⟩ : MethodName) method_2_code 1 (some (.object "com/example/esfahan/esfahan/model/Comparison")) :: ws) ({ frames := 0, cells := 0, slots := 0, locals := 0 } : Room)) (fun av_ U => av_ = #[(.int (1 : Int32))] ∧ Z.Warmed39 U.vm ∧ U.heap = h0) (fun _ _ _ _ _ => True) (fun _ U o_ U' => ∃ v L, o_ = .returned v ∧ Q_pick1 Z a h0 n0 v U'.heap L ∧ FrameEnd U o_ U' L ({ frames := 0, cells := 0, slots := 0, locals := 0 } : Room).cells ({ frames := 0, cells := 0, slots := 0, locals := 0 } : Room).slots) := by
  refine MetFree.of_bodySF (plainFor_of_name pn_2) hisR ?_
  intro p e s m args below meth c s₁ Bd hml0 hP hK
  obtain ⟨rfl, hZ, hh⟩ := hP
  have hx := Bd.exec
  have hby := Bd.bytes
  have hml : c.maxLocals = 1 := hml0
  have hown : s.vm.findClass "com/example/esfahan/esfahan/model/ComparisonIsOrderingPinLaw" = some m.cls := findClass_of_methodNamed Bd.named
  have hnm := (name_of_methodNamed Bd.named Bd.method).1
  have hlk := own_lk Bd
  have hret := Bd.returns
  have X0 : Stand p l e ({ frames := 0, cells := 0, slots := 0, locals := 0 } : Room) s m #[(.int (1 : Int32))] below meth c s₁ [] 0 0 := Stand.of_body Bd
  have e0 : s₁.heap = h0 := by rw [← hh, Bd.state]; rfl
  have N0 := Fr.nil n0
  show own_Goes p e below s (Q_pick1 Z a h0 n0) ({ frames := 0, cells := 0, slots := 0, locals := 0 } : Room).cells ({ frames := 0, cells := 0, slots := 0, locals := 0 } : Room).slots (s₁.setTop (entryFrame m #[(.int (1 : Int32))] 1))
  refine own_go (fun _ ww => castTop (ef_pick1 m a) ww) ?_
  show own_Goes _ _ _ _ _ _ _ (s₁.setTop (mkF m 0 #[.val (.int (1 : Int32))] []))
  refine own_go (fun _ ww => XS.iloadN X0.here hx rfl (hb hby d1_0) rfl  ww) ?_
  show own_Goes _ _ _ _ _ _ _ (s₁.setTop (mkF m 1 #[.val (.int (1 : Int32))] [(.int (1 : Int32))]))
  refine own_go (fun _ ww => XS.ifYes X0.here hx rfl (pc0 := 1) (pc' := 8) rfl (hb hby d1_1) rfl (own_if .ne (feq (by decide : ¬ ((1 : Int32) = (0 : Int32)))).2) (by decide) (by decide) ww) ?_
  show own_Goes _ _ _ _ _ _ _ (s₁.setTop (mkF m 8 #[.val (.int (1 : Int32))] []))
  refine own_go (fun _ ww => XS.iloadN X0.here hx rfl (hb hby d1_8) rfl  ww) ?_
  show own_Goes _ _ _ _ _ _ _ (s₁.setTop (mkF m 9 #[.val (.int (1 : Int32))] [(.int (1 : Int32))]))
  refine own_go (fun _ ww => XS.iconst X0.here hx rfl (hb hby d1_9) ww) ?_
  show own_Goes _ _ _ _ _ _ _ (s₁.setTop (mkF m 10 #[.val (.int (1 : Int32))] [(.int (1 : Int32)), (.int (1 : Int32))]))
  refine own_go (fun _ ww => XS.icmpNo X0.here hx rfl (hb hby d1_10) rfl (teq (by decide : (1 : Int32) = (1 : Int32))).2 ww) ?_
  show own_Goes _ _ _ _ _ _ _ (s₁.setTop (mkF m 13 #[.val (.int (1 : Int32))] []))
  obtain ⟨T20, X20, e20, st20⟩ := getS X0 hx hZ hown (host := "") (hw _ (List.mem_of_getElem? (i := 34) rfl)) Via.refl e0 (Sa.ext O0.2) (g := (mkF m 13 #[.val (.int (1 : Int32))] [])) rfl (hb hby d1_13)
  refine own_go st20 ?_
  show own_Goes _ _ _ _ _ _ _ (T20.setTop (mkF m 16 #[.val (.int (1 : Int32))] [(.ref a)]))
  exact own_out X20 hlk (v := some (.ref a)) (fun h => by rw [hret] at h; cases h) (fun fs hr => retOut X20 hx (t := (.object "com/example/esfahan/esfahan/model/Comparison")) hret rfl (Or.inr (Or.inr (Or.inr (Or.inr ⟨rfl, rfl, rfl⟩)))) (hb hby d1_16) hr) e20 ⟨rfl, N0, rfl⟩ (by decide) (by decide)
theorem d1_17 : decode method_2_code 17 = .ok (.iload_n 0, 1) := by decide +kernel
theorem d1_18 : decode method_2_code 18 = .ok (.iconst 2, 1) := by decide +kernel
theorem d1_19 : decode method_2_code 19 = .ok (.if_icmp .ne 7, 3) := by decide +kernel
theorem d1_22 : decode method_2_code 22 = .ok (.getstatic 16, 3) := by decide +kernel
theorem d1_25 : decode method_2_code 25 = .ok (.areturn, 1) := by decide +kernel
theorem ef_pick2 (m : MethodId) (a : Addr) : entryFrame m #[(.int (2 : Int32))] 1 = mkF m 0 #[.val (.int (2 : Int32))] [] := by first | (simp [entryFrame, mkF, argsToLocals, Value.category]; done) | rfl
def Q_pick2 (Z : State) (a : Addr) (h0 : Heap) (n0 : Nat) (v : Option Value) (h : Heap) (L : List Loc) : Prop := v = some (.ref a) ∧ Fr n0 L ∧ h = h0
set_option maxRecDepth 65536 in
set_option maxHeartbeats 40000000 in
theorem rm_pick2 (l : Launch) (Z : State) (a0 : Array Value) (hw : ∀ d ∈ tables_1, d.before a0 Z = true) (ws : List Jvm.Cond) (a : Addr) (h0 : Heap) (n0 : Nat) (O0 : Old Z n0 h0) (Sa : Sta Z Z.heap "com/example/esfahan/esfahan/model/Comparison" "LESS" "Lcom/example/esfahan/esfahan/model/Comparison;" (.ref a)) :
    MetFree l (⟨"com/example/esfahan/esfahan/model/ComparisonIsOrderingPinLaw", "pick", "(I)Lcom/example/esfahan/esfahan/model/Comparison;"⟩ : MethodName) (head1 (Jvm.Cond.code (⟨"com/example/esfahan/esfahan/model/ComparisonIsOrderingPinLaw", "pick", "(I)Lcom/example/esfahan/esfahan/model/Comparison;"⟩ : MethodName) method_2_code 1 (some (.object "com/example/esfahan/esfahan/model/Comparison")) :: ws) ({ frames := 0, cells := 0, slots := 0, locals := 0 } : Room)) (fun av_ U => av_ = #[(.int (2 : Int32))] ∧ Z.Warmed39 U.vm ∧ U.heap = h0) (fun _ _ _ _ _ => True) (fun _ U o_ U' => ∃ v L, o_ = .returned v ∧ Q_pick2 Z a h0 n0 v U'.heap L ∧ FrameEnd U o_ U' L ({ frames := 0, cells := 0, slots := 0, locals := 0 } : Room).cells ({ frames := 0, cells := 0, slots := 0, locals := 0 } : Room).slots) := by
  refine MetFree.of_bodySF (plainFor_of_name pn_2) hisR ?_
  intro p e s m args below meth c s₁ Bd hml0 hP hK
  obtain ⟨rfl, hZ, hh⟩ := hP
  have hx := Bd.exec
  have hby := Bd.bytes
  have hml : c.maxLocals = 1 := hml0
  have hown : s.vm.findClass "com/example/esfahan/esfahan/model/ComparisonIsOrderingPinLaw" = some m.cls := findClass_of_methodNamed Bd.named
  have hnm := (name_of_methodNamed Bd.named Bd.method).1
  have hlk := own_lk Bd
  have hret := Bd.returns
  have X0 : Stand p l e ({ frames := 0, cells := 0, slots := 0, locals := 0 } : Room) s m #[(.int (2 : Int32))] below meth c s₁ [] 0 0 := Stand.of_body Bd
  have e0 : s₁.heap = h0 := by rw [← hh, Bd.state]; rfl
  have N0 := Fr.nil n0
  show own_Goes p e below s (Q_pick2 Z a h0 n0) ({ frames := 0, cells := 0, slots := 0, locals := 0 } : Room).cells ({ frames := 0, cells := 0, slots := 0, locals := 0 } : Room).slots (s₁.setTop (entryFrame m #[(.int (2 : Int32))] 1))
  refine own_go (fun _ ww => castTop (ef_pick2 m a) ww) ?_
  show own_Goes _ _ _ _ _ _ _ (s₁.setTop (mkF m 0 #[.val (.int (2 : Int32))] []))
  refine own_go (fun _ ww => XS.iloadN X0.here hx rfl (hb hby d1_0) rfl  ww) ?_
  show own_Goes _ _ _ _ _ _ _ (s₁.setTop (mkF m 1 #[.val (.int (2 : Int32))] [(.int (2 : Int32))]))
  refine own_go (fun _ ww => XS.ifYes X0.here hx rfl (pc0 := 1) (pc' := 8) rfl (hb hby d1_1) rfl (own_if .ne (feq (by decide : ¬ ((2 : Int32) = (0 : Int32)))).2) (by decide) (by decide) ww) ?_
  show own_Goes _ _ _ _ _ _ _ (s₁.setTop (mkF m 8 #[.val (.int (2 : Int32))] []))
  refine own_go (fun _ ww => XS.iloadN X0.here hx rfl (hb hby d1_8) rfl  ww) ?_
  show own_Goes _ _ _ _ _ _ _ (s₁.setTop (mkF m 9 #[.val (.int (2 : Int32))] [(.int (2 : Int32))]))
  refine own_go (fun _ ww => XS.iconst X0.here hx rfl (hb hby d1_9) ww) ?_
  show own_Goes _ _ _ _ _ _ _ (s₁.setTop (mkF m 10 #[.val (.int (2 : Int32))] [(.int (1 : Int32)), (.int (2 : Int32))]))
  refine own_go (fun _ ww => XS.icmpYes X0.here hx rfl (pc0 := 10) (pc' := 17) rfl (hb hby d1_10) rfl (feq (by decide : ¬ ((2 : Int32) = (1 : Int32)))).2 (by decide) (by decide) ww) ?_
  show own_Goes _ _ _ _ _ _ _ (s₁.setTop (mkF m 17 #[.val (.int (2 : Int32))] []))
  refine own_go (fun _ ww => XS.iloadN X0.here hx rfl (hb hby d1_17) rfl  ww) ?_
  show own_Goes _ _ _ _ _ _ _ (s₁.setTop (mkF m 18 #[.val (.int (2 : Int32))] [(.int (2 : Int32))]))
  refine own_go (fun _ ww => XS.iconst X0.here hx rfl (hb hby d1_18) ww) ?_
  show own_Goes _ _ _ _ _ _ _ (s₁.setTop (mkF m 19 #[.val (.int (2 : Int32))] [(.int (2 : Int32)), (.int (2 : Int32))]))
  refine own_go (fun _ ww => XS.icmpNo X0.here hx rfl (hb hby d1_19) rfl (teq (by decide : (2 : Int32) = (2 : Int32))).2 ww) ?_
  show own_Goes _ _ _ _ _ _ _ (s₁.setTop (mkF m 22 #[.val (.int (2 : Int32))] []))
  obtain ⟨T21, X21, e21, st21⟩ := getS X0 hx hZ hown (host := "") (hw _ (List.mem_of_getElem? (i := 32) rfl)) Via.refl e0 (Sa.ext O0.2) (g := (mkF m 22 #[.val (.int (2 : Int32))] [])) rfl (hb hby d1_22)
  refine own_go st21 ?_
  show own_Goes _ _ _ _ _ _ _ (T21.setTop (mkF m 25 #[.val (.int (2 : Int32))] [(.ref a)]))
  exact own_out X21 hlk (v := some (.ref a)) (fun h => by rw [hret] at h; cases h) (fun fs hr => retOut X21 hx (t := (.object "com/example/esfahan/esfahan/model/Comparison")) hret rfl (Or.inr (Or.inr (Or.inr (Or.inr ⟨rfl, rfl, rfl⟩)))) (hb hby d1_25) hr) e21 ⟨rfl, N0, rfl⟩ (by decide) (by decide)
theorem d1_26 : decode method_2_code 26 = .ok (.iload_n 0, 1) := by decide +kernel
theorem d1_27 : decode method_2_code 27 = .ok (.iconst 3, 1) := by decide +kernel
theorem d1_28 : decode method_2_code 28 = .ok (.if_icmp .ne 7, 3) := by decide +kernel
theorem d1_31 : decode method_2_code 31 = .ok (.getstatic 19, 3) := by decide +kernel
theorem d1_34 : decode method_2_code 34 = .ok (.areturn, 1) := by decide +kernel
theorem ef_pick3 (m : MethodId) (a : Addr) : entryFrame m #[(.int (3 : Int32))] 1 = mkF m 0 #[.val (.int (3 : Int32))] [] := by first | (simp [entryFrame, mkF, argsToLocals, Value.category]; done) | rfl
def Q_pick3 (Z : State) (a : Addr) (h0 : Heap) (n0 : Nat) (v : Option Value) (h : Heap) (L : List Loc) : Prop := v = some (.ref a) ∧ Fr n0 L ∧ h = h0
set_option maxRecDepth 65536 in
set_option maxHeartbeats 40000000 in
theorem rm_pick3 (l : Launch) (Z : State) (a0 : Array Value) (hw : ∀ d ∈ tables_1, d.before a0 Z = true) (ws : List Jvm.Cond) (a : Addr) (h0 : Heap) (n0 : Nat) (O0 : Old Z n0 h0) (Sa : Sta Z Z.heap "com/example/esfahan/esfahan/model/Comparison" "AT_MOST" "Lcom/example/esfahan/esfahan/model/Comparison;" (.ref a)) :
    MetFree l (⟨"com/example/esfahan/esfahan/model/ComparisonIsOrderingPinLaw", "pick", "(I)Lcom/example/esfahan/esfahan/model/Comparison;"⟩ : MethodName) (head1 (Jvm.Cond.code (⟨"com/example/esfahan/esfahan/model/ComparisonIsOrderingPinLaw", "pick", "(I)Lcom/example/esfahan/esfahan/model/Comparison;"⟩ : MethodName) method_2_code 1 (some (.object "com/example/esfahan/esfahan/model/Comparison")) :: ws) ({ frames := 0, cells := 0, slots := 0, locals := 0 } : Room)) (fun av_ U => av_ = #[(.int (3 : Int32))] ∧ Z.Warmed39 U.vm ∧ U.heap = h0) (fun _ _ _ _ _ => True) (fun _ U o_ U' => ∃ v L, o_ = .returned v ∧ Q_pick3 Z a h0 n0 v U'.heap L ∧ FrameEnd U o_ U' L ({ frames := 0, cells := 0, slots := 0, locals := 0 } : Room).cells ({ frames := 0, cells := 0, slots := 0, locals := 0 } : Room).slots) := by
  refine MetFree.of_bodySF (plainFor_of_name pn_2) hisR ?_
  intro p e s m args below meth c s₁ Bd hml0 hP hK
  obtain ⟨rfl, hZ, hh⟩ := hP
  have hx := Bd.exec
  have hby := Bd.bytes
  have hml : c.maxLocals = 1 := hml0
  have hown : s.vm.findClass "com/example/esfahan/esfahan/model/ComparisonIsOrderingPinLaw" = some m.cls := findClass_of_methodNamed Bd.named
  have hnm := (name_of_methodNamed Bd.named Bd.method).1
  have hlk := own_lk Bd
  have hret := Bd.returns
  have X0 : Stand p l e ({ frames := 0, cells := 0, slots := 0, locals := 0 } : Room) s m #[(.int (3 : Int32))] below meth c s₁ [] 0 0 := Stand.of_body Bd
  have e0 : s₁.heap = h0 := by rw [← hh, Bd.state]; rfl
  have N0 := Fr.nil n0
  show own_Goes p e below s (Q_pick3 Z a h0 n0) ({ frames := 0, cells := 0, slots := 0, locals := 0 } : Room).cells ({ frames := 0, cells := 0, slots := 0, locals := 0 } : Room).slots (s₁.setTop (entryFrame m #[(.int (3 : Int32))] 1))
  refine own_go (fun _ ww => castTop (ef_pick3 m a) ww) ?_
  show own_Goes _ _ _ _ _ _ _ (s₁.setTop (mkF m 0 #[.val (.int (3 : Int32))] []))
  refine own_go (fun _ ww => XS.iloadN X0.here hx rfl (hb hby d1_0) rfl  ww) ?_
  show own_Goes _ _ _ _ _ _ _ (s₁.setTop (mkF m 1 #[.val (.int (3 : Int32))] [(.int (3 : Int32))]))
  refine own_go (fun _ ww => XS.ifYes X0.here hx rfl (pc0 := 1) (pc' := 8) rfl (hb hby d1_1) rfl (own_if .ne (feq (by decide : ¬ ((3 : Int32) = (0 : Int32)))).2) (by decide) (by decide) ww) ?_
  show own_Goes _ _ _ _ _ _ _ (s₁.setTop (mkF m 8 #[.val (.int (3 : Int32))] []))
  refine own_go (fun _ ww => XS.iloadN X0.here hx rfl (hb hby d1_8) rfl  ww) ?_
  show own_Goes _ _ _ _ _ _ _ (s₁.setTop (mkF m 9 #[.val (.int (3 : Int32))] [(.int (3 : Int32))]))
  refine own_go (fun _ ww => XS.iconst X0.here hx rfl (hb hby d1_9) ww) ?_
  show own_Goes _ _ _ _ _ _ _ (s₁.setTop (mkF m 10 #[.val (.int (3 : Int32))] [(.int (1 : Int32)), (.int (3 : Int32))]))
  refine own_go (fun _ ww => XS.icmpYes X0.here hx rfl (pc0 := 10) (pc' := 17) rfl (hb hby d1_10) rfl (feq (by decide : ¬ ((3 : Int32) = (1 : Int32)))).2 (by decide) (by decide) ww) ?_
  show own_Goes _ _ _ _ _ _ _ (s₁.setTop (mkF m 17 #[.val (.int (3 : Int32))] []))
  refine own_go (fun _ ww => XS.iloadN X0.here hx rfl (hb hby d1_17) rfl  ww) ?_
  show own_Goes _ _ _ _ _ _ _ (s₁.setTop (mkF m 18 #[.val (.int (3 : Int32))] [(.int (3 : Int32))]))
  refine own_go (fun _ ww => XS.iconst X0.here hx rfl (hb hby d1_18) ww) ?_
  show own_Goes _ _ _ _ _ _ _ (s₁.setTop (mkF m 19 #[.val (.int (3 : Int32))] [(.int (2 : Int32)), (.int (3 : Int32))]))
  refine own_go (fun _ ww => XS.icmpYes X0.here hx rfl (pc0 := 19) (pc' := 26) rfl (hb hby d1_19) rfl (feq (by decide : ¬ ((3 : Int32) = (2 : Int32)))).2 (by decide) (by decide) ww) ?_
  show own_Goes _ _ _ _ _ _ _ (s₁.setTop (mkF m 26 #[.val (.int (3 : Int32))] []))
  refine own_go (fun _ ww => XS.iloadN X0.here hx rfl (hb hby d1_26) rfl  ww) ?_
  show own_Goes _ _ _ _ _ _ _ (s₁.setTop (mkF m 27 #[.val (.int (3 : Int32))] [(.int (3 : Int32))]))
  refine own_go (fun _ ww => XS.iconst X0.here hx rfl (hb hby d1_27) ww) ?_
  show own_Goes _ _ _ _ _ _ _ (s₁.setTop (mkF m 28 #[.val (.int (3 : Int32))] [(.int (3 : Int32)), (.int (3 : Int32))]))
  refine own_go (fun _ ww => XS.icmpNo X0.here hx rfl (hb hby d1_28) rfl (teq (by decide : (3 : Int32) = (3 : Int32))).2 ww) ?_
  show own_Goes _ _ _ _ _ _ _ (s₁.setTop (mkF m 31 #[.val (.int (3 : Int32))] []))
  obtain ⟨T22, X22, e22, st22⟩ := getS X0 hx hZ hown (host := "") (hw _ (List.mem_of_getElem? (i := 28) rfl)) Via.refl e0 (Sa.ext O0.2) (g := (mkF m 31 #[.val (.int (3 : Int32))] [])) rfl (hb hby d1_31)
  refine own_go st22 ?_
  show own_Goes _ _ _ _ _ _ _ (T22.setTop (mkF m 34 #[.val (.int (3 : Int32))] [(.ref a)]))
  exact own_out X22 hlk (v := some (.ref a)) (fun h => by rw [hret] at h; cases h) (fun fs hr => retOut X22 hx (t := (.object "com/example/esfahan/esfahan/model/Comparison")) hret rfl (Or.inr (Or.inr (Or.inr (Or.inr ⟨rfl, rfl, rfl⟩)))) (hb hby d1_34) hr) e22 ⟨rfl, N0, rfl⟩ (by decide) (by decide)
theorem d1_35 : decode method_2_code 35 = .ok (.iload_n 0, 1) := by decide +kernel
theorem d1_36 : decode method_2_code 36 = .ok (.iconst 4, 1) := by decide +kernel
theorem d1_37 : decode method_2_code 37 = .ok (.if_icmp .ne 7, 3) := by decide +kernel
theorem d1_40 : decode method_2_code 40 = .ok (.getstatic 22, 3) := by decide +kernel
theorem d1_43 : decode method_2_code 43 = .ok (.areturn, 1) := by decide +kernel
theorem ef_pick4 (m : MethodId) (a : Addr) : entryFrame m #[(.int (4 : Int32))] 1 = mkF m 0 #[.val (.int (4 : Int32))] [] := by first | (simp [entryFrame, mkF, argsToLocals, Value.category]; done) | rfl
def Q_pick4 (Z : State) (a : Addr) (h0 : Heap) (n0 : Nat) (v : Option Value) (h : Heap) (L : List Loc) : Prop := v = some (.ref a) ∧ Fr n0 L ∧ h = h0
set_option maxRecDepth 65536 in
set_option maxHeartbeats 40000000 in
theorem rm_pick4 (l : Launch) (Z : State) (a0 : Array Value) (hw : ∀ d ∈ tables_1, d.before a0 Z = true) (ws : List Jvm.Cond) (a : Addr) (h0 : Heap) (n0 : Nat) (O0 : Old Z n0 h0) (Sa : Sta Z Z.heap "com/example/esfahan/esfahan/model/Comparison" "GREATER" "Lcom/example/esfahan/esfahan/model/Comparison;" (.ref a)) :
    MetFree l (⟨"com/example/esfahan/esfahan/model/ComparisonIsOrderingPinLaw", "pick", "(I)Lcom/example/esfahan/esfahan/model/Comparison;"⟩ : MethodName) (head1 (Jvm.Cond.code (⟨"com/example/esfahan/esfahan/model/ComparisonIsOrderingPinLaw", "pick", "(I)Lcom/example/esfahan/esfahan/model/Comparison;"⟩ : MethodName) method_2_code 1 (some (.object "com/example/esfahan/esfahan/model/Comparison")) :: ws) ({ frames := 0, cells := 0, slots := 0, locals := 0 } : Room)) (fun av_ U => av_ = #[(.int (4 : Int32))] ∧ Z.Warmed39 U.vm ∧ U.heap = h0) (fun _ _ _ _ _ => True) (fun _ U o_ U' => ∃ v L, o_ = .returned v ∧ Q_pick4 Z a h0 n0 v U'.heap L ∧ FrameEnd U o_ U' L ({ frames := 0, cells := 0, slots := 0, locals := 0 } : Room).cells ({ frames := 0, cells := 0, slots := 0, locals := 0 } : Room).slots) := by
  refine MetFree.of_bodySF (plainFor_of_name pn_2) hisR ?_
  intro p e s m args below meth c s₁ Bd hml0 hP hK
  obtain ⟨rfl, hZ, hh⟩ := hP
  have hx := Bd.exec
  have hby := Bd.bytes
  have hml : c.maxLocals = 1 := hml0
  have hown : s.vm.findClass "com/example/esfahan/esfahan/model/ComparisonIsOrderingPinLaw" = some m.cls := findClass_of_methodNamed Bd.named
  have hnm := (name_of_methodNamed Bd.named Bd.method).1
  have hlk := own_lk Bd
  have hret := Bd.returns
  have X0 : Stand p l e ({ frames := 0, cells := 0, slots := 0, locals := 0 } : Room) s m #[(.int (4 : Int32))] below meth c s₁ [] 0 0 := Stand.of_body Bd
  have e0 : s₁.heap = h0 := by rw [← hh, Bd.state]; rfl
  have N0 := Fr.nil n0
  show own_Goes p e below s (Q_pick4 Z a h0 n0) ({ frames := 0, cells := 0, slots := 0, locals := 0 } : Room).cells ({ frames := 0, cells := 0, slots := 0, locals := 0 } : Room).slots (s₁.setTop (entryFrame m #[(.int (4 : Int32))] 1))
  refine own_go (fun _ ww => castTop (ef_pick4 m a) ww) ?_
  show own_Goes _ _ _ _ _ _ _ (s₁.setTop (mkF m 0 #[.val (.int (4 : Int32))] []))
  refine own_go (fun _ ww => XS.iloadN X0.here hx rfl (hb hby d1_0) rfl  ww) ?_
  show own_Goes _ _ _ _ _ _ _ (s₁.setTop (mkF m 1 #[.val (.int (4 : Int32))] [(.int (4 : Int32))]))
  refine own_go (fun _ ww => XS.ifYes X0.here hx rfl (pc0 := 1) (pc' := 8) rfl (hb hby d1_1) rfl (own_if .ne (feq (by decide : ¬ ((4 : Int32) = (0 : Int32)))).2) (by decide) (by decide) ww) ?_
  show own_Goes _ _ _ _ _ _ _ (s₁.setTop (mkF m 8 #[.val (.int (4 : Int32))] []))
  refine own_go (fun _ ww => XS.iloadN X0.here hx rfl (hb hby d1_8) rfl  ww) ?_
  show own_Goes _ _ _ _ _ _ _ (s₁.setTop (mkF m 9 #[.val (.int (4 : Int32))] [(.int (4 : Int32))]))
  refine own_go (fun _ ww => XS.iconst X0.here hx rfl (hb hby d1_9) ww) ?_
  show own_Goes _ _ _ _ _ _ _ (s₁.setTop (mkF m 10 #[.val (.int (4 : Int32))] [(.int (1 : Int32)), (.int (4 : Int32))]))
  refine own_go (fun _ ww => XS.icmpYes X0.here hx rfl (pc0 := 10) (pc' := 17) rfl (hb hby d1_10) rfl (feq (by decide : ¬ ((4 : Int32) = (1 : Int32)))).2 (by decide) (by decide) ww) ?_
  show own_Goes _ _ _ _ _ _ _ (s₁.setTop (mkF m 17 #[.val (.int (4 : Int32))] []))
  refine own_go (fun _ ww => XS.iloadN X0.here hx rfl (hb hby d1_17) rfl  ww) ?_
  show own_Goes _ _ _ _ _ _ _ (s₁.setTop (mkF m 18 #[.val (.int (4 : Int32))] [(.int (4 : Int32))]))
  refine own_go (fun _ ww => XS.iconst X0.here hx rfl (hb hby d1_18) ww) ?_
  show own_Goes _ _ _ _ _ _ _ (s₁.setTop (mkF m 19 #[.val (.int (4 : Int32))] [(.int (2 : Int32)), (.int (4 : Int32))]))
  refine own_go (fun _ ww => XS.icmpYes X0.here hx rfl (pc0 := 19) (pc' := 26) rfl (hb hby d1_19) rfl (feq (by decide : ¬ ((4 : Int32) = (2 : Int32)))).2 (by decide) (by decide) ww) ?_
  show own_Goes _ _ _ _ _ _ _ (s₁.setTop (mkF m 26 #[.val (.int (4 : Int32))] []))
  refine own_go (fun _ ww => XS.iloadN X0.here hx rfl (hb hby d1_26) rfl  ww) ?_
  show own_Goes _ _ _ _ _ _ _ (s₁.setTop (mkF m 27 #[.val (.int (4 : Int32))] [(.int (4 : Int32))]))
  refine own_go (fun _ ww => XS.iconst X0.here hx rfl (hb hby d1_27) ww) ?_
  show own_Goes _ _ _ _ _ _ _ (s₁.setTop (mkF m 28 #[.val (.int (4 : Int32))] [(.int (3 : Int32)), (.int (4 : Int32))]))
  refine own_go (fun _ ww => XS.icmpYes X0.here hx rfl (pc0 := 28) (pc' := 35) rfl (hb hby d1_28) rfl (feq (by decide : ¬ ((4 : Int32) = (3 : Int32)))).2 (by decide) (by decide) ww) ?_
  show own_Goes _ _ _ _ _ _ _ (s₁.setTop (mkF m 35 #[.val (.int (4 : Int32))] []))
  refine own_go (fun _ ww => XS.iloadN X0.here hx rfl (hb hby d1_35) rfl  ww) ?_
  show own_Goes _ _ _ _ _ _ _ (s₁.setTop (mkF m 36 #[.val (.int (4 : Int32))] [(.int (4 : Int32))]))
  refine own_go (fun _ ww => XS.iconst X0.here hx rfl (hb hby d1_36) ww) ?_
  show own_Goes _ _ _ _ _ _ _ (s₁.setTop (mkF m 37 #[.val (.int (4 : Int32))] [(.int (4 : Int32)), (.int (4 : Int32))]))
  refine own_go (fun _ ww => XS.icmpNo X0.here hx rfl (hb hby d1_37) rfl (teq (by decide : (4 : Int32) = (4 : Int32))).2 ww) ?_
  show own_Goes _ _ _ _ _ _ _ (s₁.setTop (mkF m 40 #[.val (.int (4 : Int32))] []))
  obtain ⟨T23, X23, e23, st23⟩ := getS X0 hx hZ hown (host := "") (hw _ (List.mem_of_getElem? (i := 37) rfl)) Via.refl e0 (Sa.ext O0.2) (g := (mkF m 40 #[.val (.int (4 : Int32))] [])) rfl (hb hby d1_40)
  refine own_go st23 ?_
  show own_Goes _ _ _ _ _ _ _ (T23.setTop (mkF m 43 #[.val (.int (4 : Int32))] [(.ref a)]))
  exact own_out X23 hlk (v := some (.ref a)) (fun h => by rw [hret] at h; cases h) (fun fs hr => retOut X23 hx (t := (.object "com/example/esfahan/esfahan/model/Comparison")) hret rfl (Or.inr (Or.inr (Or.inr (Or.inr ⟨rfl, rfl, rfl⟩)))) (hb hby d1_43) hr) e23 ⟨rfl, N0, rfl⟩ (by decide) (by decide)
theorem d1_44 : decode method_2_code 44 = .ok (.getstatic 25, 3) := by decide +kernel
theorem d1_47 : decode method_2_code 47 = .ok (.areturn, 1) := by decide +kernel
theorem ef_pick5 (m : MethodId) (a : Addr) : entryFrame m #[(.int (5 : Int32))] 1 = mkF m 0 #[.val (.int (5 : Int32))] [] := by first | (simp [entryFrame, mkF, argsToLocals, Value.category]; done) | rfl
def Q_pick5 (Z : State) (a : Addr) (h0 : Heap) (n0 : Nat) (v : Option Value) (h : Heap) (L : List Loc) : Prop := v = some (.ref a) ∧ Fr n0 L ∧ h = h0
set_option maxRecDepth 65536 in
set_option maxHeartbeats 40000000 in
theorem rm_pick5 (l : Launch) (Z : State) (a0 : Array Value) (hw : ∀ d ∈ tables_1, d.before a0 Z = true) (ws : List Jvm.Cond) (a : Addr) (h0 : Heap) (n0 : Nat) (O0 : Old Z n0 h0) (Sa : Sta Z Z.heap "com/example/esfahan/esfahan/model/Comparison" "AT_LEAST" "Lcom/example/esfahan/esfahan/model/Comparison;" (.ref a)) :
    MetFree l (⟨"com/example/esfahan/esfahan/model/ComparisonIsOrderingPinLaw", "pick", "(I)Lcom/example/esfahan/esfahan/model/Comparison;"⟩ : MethodName) (head1 (Jvm.Cond.code (⟨"com/example/esfahan/esfahan/model/ComparisonIsOrderingPinLaw", "pick", "(I)Lcom/example/esfahan/esfahan/model/Comparison;"⟩ : MethodName) method_2_code 1 (some (.object "com/example/esfahan/esfahan/model/Comparison")) :: ws) ({ frames := 0, cells := 0, slots := 0, locals := 0 } : Room)) (fun av_ U => av_ = #[(.int (5 : Int32))] ∧ Z.Warmed39 U.vm ∧ U.heap = h0) (fun _ _ _ _ _ => True) (fun _ U o_ U' => ∃ v L, o_ = .returned v ∧ Q_pick5 Z a h0 n0 v U'.heap L ∧ FrameEnd U o_ U' L ({ frames := 0, cells := 0, slots := 0, locals := 0 } : Room).cells ({ frames := 0, cells := 0, slots := 0, locals := 0 } : Room).slots) := by
  refine MetFree.of_bodySF (plainFor_of_name pn_2) hisR ?_
  intro p e s m args below meth c s₁ Bd hml0 hP hK
  obtain ⟨rfl, hZ, hh⟩ := hP
  have hx := Bd.exec
  have hby := Bd.bytes
  have hml : c.maxLocals = 1 := hml0
  have hown : s.vm.findClass "com/example/esfahan/esfahan/model/ComparisonIsOrderingPinLaw" = some m.cls := findClass_of_methodNamed Bd.named
  have hnm := (name_of_methodNamed Bd.named Bd.method).1
  have hlk := own_lk Bd
  have hret := Bd.returns
  have X0 : Stand p l e ({ frames := 0, cells := 0, slots := 0, locals := 0 } : Room) s m #[(.int (5 : Int32))] below meth c s₁ [] 0 0 := Stand.of_body Bd
  have e0 : s₁.heap = h0 := by rw [← hh, Bd.state]; rfl
  have N0 := Fr.nil n0
  show own_Goes p e below s (Q_pick5 Z a h0 n0) ({ frames := 0, cells := 0, slots := 0, locals := 0 } : Room).cells ({ frames := 0, cells := 0, slots := 0, locals := 0 } : Room).slots (s₁.setTop (entryFrame m #[(.int (5 : Int32))] 1))
  refine own_go (fun _ ww => castTop (ef_pick5 m a) ww) ?_
  show own_Goes _ _ _ _ _ _ _ (s₁.setTop (mkF m 0 #[.val (.int (5 : Int32))] []))
  refine own_go (fun _ ww => XS.iloadN X0.here hx rfl (hb hby d1_0) rfl  ww) ?_
  show own_Goes _ _ _ _ _ _ _ (s₁.setTop (mkF m 1 #[.val (.int (5 : Int32))] [(.int (5 : Int32))]))
  refine own_go (fun _ ww => XS.ifYes X0.here hx rfl (pc0 := 1) (pc' := 8) rfl (hb hby d1_1) rfl (own_if .ne (feq (by decide : ¬ ((5 : Int32) = (0 : Int32)))).2) (by decide) (by decide) ww) ?_
  show own_Goes _ _ _ _ _ _ _ (s₁.setTop (mkF m 8 #[.val (.int (5 : Int32))] []))
  refine own_go (fun _ ww => XS.iloadN X0.here hx rfl (hb hby d1_8) rfl  ww) ?_
  show own_Goes _ _ _ _ _ _ _ (s₁.setTop (mkF m 9 #[.val (.int (5 : Int32))] [(.int (5 : Int32))]))
  refine own_go (fun _ ww => XS.iconst X0.here hx rfl (hb hby d1_9) ww) ?_
  show own_Goes _ _ _ _ _ _ _ (s₁.setTop (mkF m 10 #[.val (.int (5 : Int32))] [(.int (1 : Int32)), (.int (5 : Int32))]))
  refine own_go (fun _ ww => XS.icmpYes X0.here hx rfl (pc0 := 10) (pc' := 17) rfl (hb hby d1_10) rfl (feq (by decide : ¬ ((5 : Int32) = (1 : Int32)))).2 (by decide) (by decide) ww) ?_
  show own_Goes _ _ _ _ _ _ _ (s₁.setTop (mkF m 17 #[.val (.int (5 : Int32))] []))
  refine own_go (fun _ ww => XS.iloadN X0.here hx rfl (hb hby d1_17) rfl  ww) ?_
  show own_Goes _ _ _ _ _ _ _ (s₁.setTop (mkF m 18 #[.val (.int (5 : Int32))] [(.int (5 : Int32))]))
  refine own_go (fun _ ww => XS.iconst X0.here hx rfl (hb hby d1_18) ww) ?_
  show own_Goes _ _ _ _ _ _ _ (s₁.setTop (mkF m 19 #[.val (.int (5 : Int32))] [(.int (2 : Int32)), (.int (5 : Int32))]))
  refine own_go (fun _ ww => XS.icmpYes X0.here hx rfl (pc0 := 19) (pc' := 26) rfl (hb hby d1_19) rfl (feq (by decide : ¬ ((5 : Int32) = (2 : Int32)))).2 (by decide) (by decide) ww) ?_
  show own_Goes _ _ _ _ _ _ _ (s₁.setTop (mkF m 26 #[.val (.int (5 : Int32))] []))
  refine own_go (fun _ ww => XS.iloadN X0.here hx rfl (hb hby d1_26) rfl  ww) ?_
  show own_Goes _ _ _ _ _ _ _ (s₁.setTop (mkF m 27 #[.val (.int (5 : Int32))] [(.int (5 : Int32))]))
  refine own_go (fun _ ww => XS.iconst X0.here hx rfl (hb hby d1_27) ww) ?_
  show own_Goes _ _ _ _ _ _ _ (s₁.setTop (mkF m 28 #[.val (.int (5 : Int32))] [(.int (3 : Int32)), (.int (5 : Int32))]))
  refine own_go (fun _ ww => XS.icmpYes X0.here hx rfl (pc0 := 28) (pc' := 35) rfl (hb hby d1_28) rfl (feq (by decide : ¬ ((5 : Int32) = (3 : Int32)))).2 (by decide) (by decide) ww) ?_
  show own_Goes _ _ _ _ _ _ _ (s₁.setTop (mkF m 35 #[.val (.int (5 : Int32))] []))
  refine own_go (fun _ ww => XS.iloadN X0.here hx rfl (hb hby d1_35) rfl  ww) ?_
  show own_Goes _ _ _ _ _ _ _ (s₁.setTop (mkF m 36 #[.val (.int (5 : Int32))] [(.int (5 : Int32))]))
  refine own_go (fun _ ww => XS.iconst X0.here hx rfl (hb hby d1_36) ww) ?_
  show own_Goes _ _ _ _ _ _ _ (s₁.setTop (mkF m 37 #[.val (.int (5 : Int32))] [(.int (4 : Int32)), (.int (5 : Int32))]))
  refine own_go (fun _ ww => XS.icmpYes X0.here hx rfl (pc0 := 37) (pc' := 44) rfl (hb hby d1_37) rfl (feq (by decide : ¬ ((5 : Int32) = (4 : Int32)))).2 (by decide) (by decide) ww) ?_
  show own_Goes _ _ _ _ _ _ _ (s₁.setTop (mkF m 44 #[.val (.int (5 : Int32))] []))
  obtain ⟨T24, X24, e24, st24⟩ := getS X0 hx hZ hown (host := "") (hw _ (List.mem_of_getElem? (i := 35) rfl)) Via.refl e0 (Sa.ext O0.2) (g := (mkF m 44 #[.val (.int (5 : Int32))] [])) rfl (hb hby d1_44)
  refine own_go st24 ?_
  show own_Goes _ _ _ _ _ _ _ (T24.setTop (mkF m 47 #[.val (.int (5 : Int32))] [(.ref a)]))
  exact own_out X24 hlk (v := some (.ref a)) (fun h => by rw [hret] at h; cases h) (fun fs hr => retOut X24 hx (t := (.object "com/example/esfahan/esfahan/model/Comparison")) hret rfl (Or.inr (Or.inr (Or.inr (Or.inr ⟨rfl, rfl, rfl⟩)))) (hb hby d1_47) hr) e24 ⟨rfl, N0, rfl⟩ (by decide) (by decide)
theorem d2_0 : decode prog_47_method_6_code 0 = .ok (.aload_n 0, 1) := by decide +kernel
theorem d2_1 : decode prog_47_method_6_code 1 = .ok (.getstatic 3, 3) := by decide +kernel
theorem d2_4 : decode prog_47_method_6_code 4 = .ok (.if_acmp .eq 14, 3) := by decide +kernel
theorem d2_18 : decode prog_47_method_6_code 18 = .ok (.iconst 0, 1) := by decide +kernel
theorem d2_19 : decode prog_47_method_6_code 19 = .ok (.ireturn, 1) := by decide +kernel
theorem ef_iso0 (m : MethodId) (a0_ : Addr) : entryFrame m #[(.ref a0_)] 1 = mkF m 0 #[.val (.ref a0_)] [] := by first | (simp [entryFrame, mkF, argsToLocals, Value.category]; done) | rfl
def Q_iso0 (Z : State) (a0_ : Addr) (h0 : Heap) (n0 : Nat) (v : Option Value) (h : Heap) (L : List Loc) : Prop := v = some (.int (0 : Int32)) ∧ Fr n0 L ∧ h = h0
set_option maxRecDepth 65536 in
set_option maxHeartbeats 40000000 in
theorem rm_iso0 (l : Launch) (Z : State) (a0 : Array Value) (hw : ∀ d ∈ tables_1, d.before a0 Z = true) (ws : List Jvm.Cond) (a0_ : Addr) (h0 : Heap) (n0 : Nat) (O0 : Old Z n0 h0) (S0 : Sta Z Z.heap "com/example/esfahan/esfahan/model/Comparison" "EQUAL" "Lcom/example/esfahan/esfahan/model/Comparison;" (.ref a0_)) :
    MetFree l (⟨"com/example/esfahan/esfahan/model/Comparison", "isOrdering", "()Z"⟩ : MethodName) (head1 (Jvm.Cond.code (⟨"com/example/esfahan/esfahan/model/Comparison", "isOrdering", "()Z"⟩ : MethodName) prog_47_method_6_code 1 (some .boolean) :: ws) ({ frames := 0, cells := 0, slots := 0, locals := 0 } : Room)) (fun av_ U => av_ = #[(.ref a0_)] ∧ Z.Warmed39 U.vm ∧ U.heap = h0) (fun _ _ _ _ _ => True) (fun _ U o_ U' => ∃ v L, o_ = .returned v ∧ Q_iso0 Z a0_ h0 n0 v U'.heap L ∧ FrameEnd U o_ U' L ({ frames := 0, cells := 0, slots := 0, locals := 0 } : Room).cells ({ frames := 0, cells := 0, slots := 0, locals := 0 } : Room).slots) := by
  refine MetFree.of_bodySF (plainFor_of_name pn_1) hisR ?_
  intro p e s m args below meth c s₁ Bd hml0 hP hK
  obtain ⟨rfl, hZ, hh⟩ := hP
  have hx := Bd.exec
  have hby := Bd.bytes
  have hml : c.maxLocals = 1 := hml0
  have hown : s.vm.findClass "com/example/esfahan/esfahan/model/Comparison" = some m.cls := findClass_of_methodNamed Bd.named
  have hnm := (name_of_methodNamed Bd.named Bd.method).1
  have hlk := own_lk Bd
  have hret := Bd.returns
  have X0 : Stand p l e ({ frames := 0, cells := 0, slots := 0, locals := 0 } : Room) s m #[(.ref a0_)] below meth c s₁ [] 0 0 := Stand.of_body Bd
  have e0 : s₁.heap = h0 := by rw [← hh, Bd.state]; rfl
  have N0 := Fr.nil n0
  show own_Goes p e below s (Q_iso0 Z a0_ h0 n0) ({ frames := 0, cells := 0, slots := 0, locals := 0 } : Room).cells ({ frames := 0, cells := 0, slots := 0, locals := 0 } : Room).slots (s₁.setTop (entryFrame m #[(.ref a0_)] 1))
  refine own_go (fun _ ww => castTop (ef_iso0 m a0_) ww) ?_
  show own_Goes _ _ _ _ _ _ _ (s₁.setTop (mkF m 0 #[.val (.ref a0_)] []))
  refine own_go (fun _ ww => XS.aloadN X0.here hx rfl (hb hby d2_0) rfl rfl ww) ?_
  show own_Goes _ _ _ _ _ _ _ (s₁.setTop (mkF m 1 #[.val (.ref a0_)] [(.ref a0_)]))
  obtain ⟨T25, X25, e25, st25⟩ := getS X0 hx hZ hown (host := "") (hw _ (List.mem_of_getElem? (i := 13) rfl)) Via.refl e0 (S0.ext O0.2) (g := (mkF m 1 #[.val (.ref a0_)] [(.ref a0_)])) rfl (hb hby d2_1)
  refine own_go st25 ?_
  show own_Goes _ _ _ _ _ _ _ (T25.setTop (mkF m 4 #[.val (.ref a0_)] [(.ref a0_), (.ref a0_)]))
  refine own_go (fun _ ww => XT.acmpYes X25.here hx rfl (pc0 := 4) (pc' := 18) rfl (hb hby d2_4) rfl rfl rfl (own_aeq (rfl : a0_ = a0_)).1 (by decide) (by decide) ww) ?_
  show own_Goes _ _ _ _ _ _ _ (T25.setTop (mkF m 18 #[.val (.ref a0_)] []))
  refine own_go (fun _ ww => XS.iconst X25.here hx rfl (hb hby d2_18) ww) ?_
  show own_Goes _ _ _ _ _ _ _ (T25.setTop (mkF m 19 #[.val (.ref a0_)] [(.int (0 : Int32))]))
  exact own_out X25 hlk (v := some (.int (0 : Int32))) (fun h => by rw [hret] at h; cases h) (fun fs hr => retOut X25 hx (t := .boolean) hret (by decide) (Or.inl ⟨rfl, by simp, _, rfl⟩) (hb hby d2_19) hr) e25 ⟨rfl, N0, rfl⟩ (by decide) (by decide)
theorem d2_7 : decode prog_47_method_6_code 7 = .ok (.aload_n 0, 1) := by decide +kernel
theorem d2_8 : decode prog_47_method_6_code 8 = .ok (.getstatic 7, 3) := by decide +kernel
theorem d2_11 : decode prog_47_method_6_code 11 = .ok (.if_acmp .eq 7, 3) := by decide +kernel
theorem ef_iso1 (m : MethodId) (a0_ : Addr) (a1_ : Addr) : entryFrame m #[(.ref a1_)] 1 = mkF m 0 #[.val (.ref a1_)] [] := by first | (simp [entryFrame, mkF, argsToLocals, Value.category]; done) | rfl
def Q_iso1 (Z : State) (a0_ : Addr) (a1_ : Addr) (h0 : Heap) (n0 : Nat) (v : Option Value) (h : Heap) (L : List Loc) : Prop := v = some (.int (0 : Int32)) ∧ Fr n0 L ∧ h = h0
set_option maxRecDepth 65536 in
set_option maxHeartbeats 40000000 in
theorem rm_iso1 (l : Launch) (Z : State) (a0 : Array Value) (hw : ∀ d ∈ tables_1, d.before a0 Z = true) (ws : List Jvm.Cond) (a0_ : Addr) (a1_ : Addr) (h0 : Heap) (n0 : Nat) (O0 : Old Z n0 h0) (S0 : Sta Z Z.heap "com/example/esfahan/esfahan/model/Comparison" "EQUAL" "Lcom/example/esfahan/esfahan/model/Comparison;" (.ref a0_)) (S1 : Sta Z Z.heap "com/example/esfahan/esfahan/model/Comparison" "NOT_EQUAL" "Lcom/example/esfahan/esfahan/model/Comparison;" (.ref a1_)) (n10 : a1_ ≠ a0_) :
    MetFree l (⟨"com/example/esfahan/esfahan/model/Comparison", "isOrdering", "()Z"⟩ : MethodName) (head1 (Jvm.Cond.code (⟨"com/example/esfahan/esfahan/model/Comparison", "isOrdering", "()Z"⟩ : MethodName) prog_47_method_6_code 1 (some .boolean) :: ws) ({ frames := 0, cells := 0, slots := 0, locals := 0 } : Room)) (fun av_ U => av_ = #[(.ref a1_)] ∧ Z.Warmed39 U.vm ∧ U.heap = h0) (fun _ _ _ _ _ => True) (fun _ U o_ U' => ∃ v L, o_ = .returned v ∧ Q_iso1 Z a0_ a1_ h0 n0 v U'.heap L ∧ FrameEnd U o_ U' L ({ frames := 0, cells := 0, slots := 0, locals := 0 } : Room).cells ({ frames := 0, cells := 0, slots := 0, locals := 0 } : Room).slots) := by
  refine MetFree.of_bodySF (plainFor_of_name pn_1) hisR ?_
  intro p e s m args below meth c s₁ Bd hml0 hP hK
  obtain ⟨rfl, hZ, hh⟩ := hP
  have hx := Bd.exec
  have hby := Bd.bytes
  have hml : c.maxLocals = 1 := hml0
  have hown : s.vm.findClass "com/example/esfahan/esfahan/model/Comparison" = some m.cls := findClass_of_methodNamed Bd.named
  have hnm := (name_of_methodNamed Bd.named Bd.method).1
  have hlk := own_lk Bd
  have hret := Bd.returns
  have X0 : Stand p l e ({ frames := 0, cells := 0, slots := 0, locals := 0 } : Room) s m #[(.ref a1_)] below meth c s₁ [] 0 0 := Stand.of_body Bd
  have e0 : s₁.heap = h0 := by rw [← hh, Bd.state]; rfl
  have N0 := Fr.nil n0
  show own_Goes p e below s (Q_iso1 Z a0_ a1_ h0 n0) ({ frames := 0, cells := 0, slots := 0, locals := 0 } : Room).cells ({ frames := 0, cells := 0, slots := 0, locals := 0 } : Room).slots (s₁.setTop (entryFrame m #[(.ref a1_)] 1))
  refine own_go (fun _ ww => castTop (ef_iso1 m a0_ a1_) ww) ?_
  show own_Goes _ _ _ _ _ _ _ (s₁.setTop (mkF m 0 #[.val (.ref a1_)] []))
  refine own_go (fun _ ww => XS.aloadN X0.here hx rfl (hb hby d2_0) rfl rfl ww) ?_
  show own_Goes _ _ _ _ _ _ _ (s₁.setTop (mkF m 1 #[.val (.ref a1_)] [(.ref a1_)]))
  obtain ⟨T26, X26, e26, st26⟩ := getS X0 hx hZ hown (host := "") (hw _ (List.mem_of_getElem? (i := 13) rfl)) Via.refl e0 (S0.ext O0.2) (g := (mkF m 1 #[.val (.ref a1_)] [(.ref a1_)])) rfl (hb hby d2_1)
  refine own_go st26 ?_
  show own_Goes _ _ _ _ _ _ _ (T26.setTop (mkF m 4 #[.val (.ref a1_)] [(.ref a0_), (.ref a1_)]))
  refine own_go (fun _ ww => XT.acmpNo X26.here hx rfl (hb hby d2_4) rfl rfl rfl (own_ane n10).1 ww) ?_
  show own_Goes _ _ _ _ _ _ _ (T26.setTop (mkF m 7 #[.val (.ref a1_)] []))
  refine own_go (fun _ ww => XS.aloadN X26.here hx rfl (hb hby d2_7) rfl rfl ww) ?_
  show own_Goes _ _ _ _ _ _ _ (T26.setTop (mkF m 8 #[.val (.ref a1_)] [(.ref a1_)]))
  obtain ⟨T27, X27, e27, st27⟩ := getS X26 hx hZ hown (host := "") (hw _ (List.mem_of_getElem? (i := 30) rfl)) Via.refl e26 (S1.ext O0.2) (g := (mkF m 8 #[.val (.ref a1_)] [(.ref a1_)])) rfl (hb hby d2_8)
  refine own_go st27 ?_
  show own_Goes _ _ _ _ _ _ _ (T27.setTop (mkF m 11 #[.val (.ref a1_)] [(.ref a1_), (.ref a1_)]))
  refine own_go (fun _ ww => XT.acmpYes X27.here hx rfl (pc0 := 11) (pc' := 18) rfl (hb hby d2_11) rfl rfl rfl (own_aeq (rfl : a1_ = a1_)).1 (by decide) (by decide) ww) ?_
  show own_Goes _ _ _ _ _ _ _ (T27.setTop (mkF m 18 #[.val (.ref a1_)] []))
  refine own_go (fun _ ww => XS.iconst X27.here hx rfl (hb hby d2_18) ww) ?_
  show own_Goes _ _ _ _ _ _ _ (T27.setTop (mkF m 19 #[.val (.ref a1_)] [(.int (0 : Int32))]))
  exact own_out X27 hlk (v := some (.int (0 : Int32))) (fun h => by rw [hret] at h; cases h) (fun fs hr => retOut X27 hx (t := .boolean) hret (by decide) (Or.inl ⟨rfl, by simp, _, rfl⟩) (hb hby d2_19) hr) e27 ⟨rfl, N0, rfl⟩ (by decide) (by decide)
theorem d2_14 : decode prog_47_method_6_code 14 = .ok (.iconst 1, 1) := by decide +kernel
theorem d2_15 : decode prog_47_method_6_code 15 = .ok (.goto 4, 3) := by decide +kernel
theorem ef_iso2 (m : MethodId) (a0_ : Addr) (a1_ : Addr) (b : Addr) : entryFrame m #[(.ref b)] 1 = mkF m 0 #[.val (.ref b)] [] := by first | (simp [entryFrame, mkF, argsToLocals, Value.category]; done) | rfl
def Q_iso2 (Z : State) (a0_ : Addr) (a1_ : Addr) (b : Addr) (h0 : Heap) (n0 : Nat) (v : Option Value) (h : Heap) (L : List Loc) : Prop := v = some (.int (1 : Int32)) ∧ Fr n0 L ∧ h = h0
set_option maxRecDepth 65536 in
set_option maxHeartbeats 40000000 in
theorem rm_iso2 (l : Launch) (Z : State) (a0 : Array Value) (hw : ∀ d ∈ tables_1, d.before a0 Z = true) (ws : List Jvm.Cond) (a0_ : Addr) (a1_ : Addr) (b : Addr) (h0 : Heap) (n0 : Nat) (O0 : Old Z n0 h0) (S0 : Sta Z Z.heap "com/example/esfahan/esfahan/model/Comparison" "EQUAL" "Lcom/example/esfahan/esfahan/model/Comparison;" (.ref a0_)) (S1 : Sta Z Z.heap "com/example/esfahan/esfahan/model/Comparison" "NOT_EQUAL" "Lcom/example/esfahan/esfahan/model/Comparison;" (.ref a1_)) (n0_ : b ≠ a0_) (n1_ : b ≠ a1_) :
    MetFree l (⟨"com/example/esfahan/esfahan/model/Comparison", "isOrdering", "()Z"⟩ : MethodName) (head1 (Jvm.Cond.code (⟨"com/example/esfahan/esfahan/model/Comparison", "isOrdering", "()Z"⟩ : MethodName) prog_47_method_6_code 1 (some .boolean) :: ws) ({ frames := 0, cells := 0, slots := 0, locals := 0 } : Room)) (fun av_ U => av_ = #[(.ref b)] ∧ Z.Warmed39 U.vm ∧ U.heap = h0) (fun _ _ _ _ _ => True) (fun _ U o_ U' => ∃ v L, o_ = .returned v ∧ Q_iso2 Z a0_ a1_ b h0 n0 v U'.heap L ∧ FrameEnd U o_ U' L ({ frames := 0, cells := 0, slots := 0, locals := 0 } : Room).cells ({ frames := 0, cells := 0, slots := 0, locals := 0 } : Room).slots) := by
  refine MetFree.of_bodySF (plainFor_of_name pn_1) hisR ?_
  intro p e s m args below meth c s₁ Bd hml0 hP hK
  obtain ⟨rfl, hZ, hh⟩ := hP
  have hx := Bd.exec
  have hby := Bd.bytes
  have hml : c.maxLocals = 1 := hml0
  have hown : s.vm.findClass "com/example/esfahan/esfahan/model/Comparison" = some m.cls := findClass_of_methodNamed Bd.named
  have hnm := (name_of_methodNamed Bd.named Bd.method).1
  have hlk := own_lk Bd
  have hret := Bd.returns
  have X0 : Stand p l e ({ frames := 0, cells := 0, slots := 0, locals := 0 } : Room) s m #[(.ref b)] below meth c s₁ [] 0 0 := Stand.of_body Bd
  have e0 : s₁.heap = h0 := by rw [← hh, Bd.state]; rfl
  have N0 := Fr.nil n0
  show own_Goes p e below s (Q_iso2 Z a0_ a1_ b h0 n0) ({ frames := 0, cells := 0, slots := 0, locals := 0 } : Room).cells ({ frames := 0, cells := 0, slots := 0, locals := 0 } : Room).slots (s₁.setTop (entryFrame m #[(.ref b)] 1))
  refine own_go (fun _ ww => castTop (ef_iso2 m a0_ a1_ b) ww) ?_
  show own_Goes _ _ _ _ _ _ _ (s₁.setTop (mkF m 0 #[.val (.ref b)] []))
  refine own_go (fun _ ww => XS.aloadN X0.here hx rfl (hb hby d2_0) rfl rfl ww) ?_
  show own_Goes _ _ _ _ _ _ _ (s₁.setTop (mkF m 1 #[.val (.ref b)] [(.ref b)]))
  obtain ⟨T28, X28, e28, st28⟩ := getS X0 hx hZ hown (host := "") (hw _ (List.mem_of_getElem? (i := 13) rfl)) Via.refl e0 (S0.ext O0.2) (g := (mkF m 1 #[.val (.ref b)] [(.ref b)])) rfl (hb hby d2_1)
  refine own_go st28 ?_
  show own_Goes _ _ _ _ _ _ _ (T28.setTop (mkF m 4 #[.val (.ref b)] [(.ref a0_), (.ref b)]))
  refine own_go (fun _ ww => XT.acmpNo X28.here hx rfl (hb hby d2_4) rfl rfl rfl (own_ane n0_).1 ww) ?_
  show own_Goes _ _ _ _ _ _ _ (T28.setTop (mkF m 7 #[.val (.ref b)] []))
  refine own_go (fun _ ww => XS.aloadN X28.here hx rfl (hb hby d2_7) rfl rfl ww) ?_
  show own_Goes _ _ _ _ _ _ _ (T28.setTop (mkF m 8 #[.val (.ref b)] [(.ref b)]))
  obtain ⟨T29, X29, e29, st29⟩ := getS X28 hx hZ hown (host := "") (hw _ (List.mem_of_getElem? (i := 30) rfl)) Via.refl e28 (S1.ext O0.2) (g := (mkF m 8 #[.val (.ref b)] [(.ref b)])) rfl (hb hby d2_8)
  refine own_go st29 ?_
  show own_Goes _ _ _ _ _ _ _ (T29.setTop (mkF m 11 #[.val (.ref b)] [(.ref a1_), (.ref b)]))
  refine own_go (fun _ ww => XT.acmpNo X29.here hx rfl (hb hby d2_11) rfl rfl rfl (own_ane n1_).1 ww) ?_
  show own_Goes _ _ _ _ _ _ _ (T29.setTop (mkF m 14 #[.val (.ref b)] []))
  refine own_go (fun _ ww => XS.iconst X29.here hx rfl (hb hby d2_14) ww) ?_
  show own_Goes _ _ _ _ _ _ _ (T29.setTop (mkF m 15 #[.val (.ref b)] [(.int (1 : Int32))]))
  refine own_go (fun _ ww => XS.goto X29.here hx rfl (pc0 := 15) (pc' := 19) rfl (hb hby d2_15) (by decide) (by decide) ww) ?_
  show own_Goes _ _ _ _ _ _ _ (T29.setTop (mkF m 19 #[.val (.ref b)] [(.int (1 : Int32))]))
  exact own_out X29 hlk (v := some (.int (1 : Int32))) (fun h => by rw [hret] at h; cases h) (fun fs hr => retOut X29 hx (t := .boolean) hret (by decide) (Or.inl ⟨rfl, by simp, _, rfl⟩) (hb hby d2_19) hr) e29 ⟨rfl, N0, rfl⟩ (by decide) (by decide)
theorem ef_law (m : MethodId) (x0 : Int32) (k0 : Addr) (k1 : Addr) (k2 : Addr) (k3 : Addr) (k4 : Addr) (k5 : Addr) : entryFrame m #[(.int x0)] maxLocals = mkF m 0 #[.val (.int x0), .unset, .unset, .unset, .unset, .unset] [] := by first | (simp [entryFrame, mkF, argsToLocals, Value.category, maxLocals]; done) | rfl
def Q_law (Z : State) (x0 : Int32) (k0 : Addr) (k1 : Addr) (k2 : Addr) (k3 : Addr) (k4 : Addr) (k5 : Addr) (h0 : Heap) (n0 : Nat) (v : Option Value) (h : Heap) (L : List Loc) : Prop := v = some (.int 1) ∧ Fr n0 L
set_option maxRecDepth 65536 in
set_option maxHeartbeats 40000000 in
theorem rm_law (l : Launch) (Z : State) (a0 : Array Value) (hw : ∀ d ∈ tables_1, d.before a0 Z = true) (ws : List Jvm.Cond) (x0 : Int32) (k0 : Addr) (k1 : Addr) (k2 : Addr) (k3 : Addr) (k4 : Addr) (k5 : Addr) (h0 : Heap) (n0 : Nat) (O0 : Old Z n0 h0) (Sk0 : Sta Z Z.heap "com/example/esfahan/esfahan/model/Comparison" "EQUAL" "Lcom/example/esfahan/esfahan/model/Comparison;" (.ref k0)) (Ek0 : Exa Z Z.heap k0 "com/example/esfahan/esfahan/model/Comparison") (Fk0 : Fld Z Z.heap k0 "java/lang/Enum" "ordinal" "I" (.int (0 : Int32))) (Sk1 : Sta Z Z.heap "com/example/esfahan/esfahan/model/Comparison" "NOT_EQUAL" "Lcom/example/esfahan/esfahan/model/Comparison;" (.ref k1)) (Ek1 : Exa Z Z.heap k1 "com/example/esfahan/esfahan/model/Comparison") (Fk1 : Fld Z Z.heap k1 "java/lang/Enum" "ordinal" "I" (.int (1 : Int32))) (Sk2 : Sta Z Z.heap "com/example/esfahan/esfahan/model/Comparison" "LESS" "Lcom/example/esfahan/esfahan/model/Comparison;" (.ref k2)) (Ek2 : Exa Z Z.heap k2 "com/example/esfahan/esfahan/model/Comparison") (Fk2 : Fld Z Z.heap k2 "java/lang/Enum" "ordinal" "I" (.int (2 : Int32))) (Sk3 : Sta Z Z.heap "com/example/esfahan/esfahan/model/Comparison" "AT_MOST" "Lcom/example/esfahan/esfahan/model/Comparison;" (.ref k3)) (Ek3 : Exa Z Z.heap k3 "com/example/esfahan/esfahan/model/Comparison") (Fk3 : Fld Z Z.heap k3 "java/lang/Enum" "ordinal" "I" (.int (3 : Int32))) (Sk4 : Sta Z Z.heap "com/example/esfahan/esfahan/model/Comparison" "GREATER" "Lcom/example/esfahan/esfahan/model/Comparison;" (.ref k4)) (Ek4 : Exa Z Z.heap k4 "com/example/esfahan/esfahan/model/Comparison") (Fk4 : Fld Z Z.heap k4 "java/lang/Enum" "ordinal" "I" (.int (4 : Int32))) (Sk5 : Sta Z Z.heap "com/example/esfahan/esfahan/model/Comparison" "AT_LEAST" "Lcom/example/esfahan/esfahan/model/Comparison;" (.ref k5)) (Ek5 : Exa Z Z.heap k5 "com/example/esfahan/esfahan/model/Comparison") (Fk5 : Fld Z Z.heap k5 "java/lang/Enum" "ordinal" "I" (.int (5 : Int32))) :
    MetFree l x (head1 (Jvm.Cond.code x code maxLocals ret :: ws) room_1) (fun av_ U => av_ = #[(.int x0)] ∧ Z.Warmed39 U.vm ∧ U.heap = h0) (fun _ _ _ _ _ => True) (fun _ U o_ U' => ∃ v L, o_ = .returned v ∧ Q_law Z x0 k0 k1 k2 k3 k4 k5 h0 n0 v U'.heap L ∧ FrameEnd U o_ U' L room_1.cells room_1.slots) := by
  refine MetFree.of_bodySF (plainFor_of_name pn_2) hisR ?_
  intro p e s m args below meth c s₁ Bd hml0 hP hK
  obtain ⟨rfl, hZ, hh⟩ := hP
  have hx := Bd.exec
  have hby := Bd.bytes
  have hml : c.maxLocals = 6 := hml0
  have hown : s.vm.findClass "com/example/esfahan/esfahan/model/ComparisonIsOrderingPinLaw" = some m.cls := findClass_of_methodNamed Bd.named
  have hnm := (name_of_methodNamed Bd.named Bd.method).1
  have hlk := own_lk Bd
  have hret := Bd.returns
  have X0 : Stand p l e room_1 s m #[(.int x0)] below meth c s₁ [] 0 0 := Stand.of_body Bd
  have e0 : s₁.heap = h0 := by rw [← hh, Bd.state]; rfl
  have N0 := Fr.nil n0
  show own_Goes p e below s (Q_law Z x0 k0 k1 k2 k3 k4 k5 h0 n0) room_1.cells room_1.slots (s₁.setTop (entryFrame m #[(.int x0)] maxLocals))
  refine own_go (fun _ ww => castTop (ef_law m x0 k0 k1 k2 k3 k4 k5) ww) ?_
  show own_Goes _ _ _ _ _ _ _ (s₁.setTop (mkF m 0 #[.val (.int x0), .unset, .unset, .unset, .unset, .unset] []))
  refine own_go (fun _ ww => XS.iloadN X0.here hx rfl (hb hby at_0) rfl  ww) ?_
  show own_Goes _ _ _ _ _ _ _ (s₁.setTop (mkF m 1 #[.val (.int x0), .unset, .unset, .unset, .unset, .unset] [(.int x0)]))
  refine own_go (fun _ ww => X0.ldcI hx hown (mvT hZ (hw _ (List.mem_of_getElem? (i := 0) rfl))) rfl (hb hby at_1) ww) ?_
  show own_Goes _ _ _ _ _ _ _ (s₁.setTop (mkF m 3 #[.val (.int x0), .unset, .unset, .unset, .unset, .unset] [(.int (2147483647 : Int32)), (.int x0)]))
  refine own_go (fun _ ww => XS.iand X0.here hx rfl (hb hby at_3) rfl ww) ?_
  show own_Goes _ _ _ _ _ _ _ (s₁.setTop (mkF m 4 #[.val (.int x0), .unset, .unset, .unset, .unset, .unset] [(.int (x0 &&& (2147483647 : Int32)))]))
  refine own_go (fun _ ww => XS.bipush X0.here hx rfl (hb hby at_4) ww) ?_
  show own_Goes _ _ _ _ _ _ _ (s₁.setTop (mkF m 6 #[.val (.int x0), .unset, .unset, .unset, .unset, .unset] [(.int (6 : Int32)), (.int (x0 &&& (2147483647 : Int32)))]))
  refine own_go (fun _ ww => iremM X0 hx rfl (hb hby at_6) rfl (by decide) ww) ?_
  show own_Goes _ _ _ _ _ _ _ (s₁.setTop (mkF m 7 #[.val (.int x0), .unset, .unset, .unset, .unset, .unset] [(.int ((x0 &&& (2147483647 : Int32)) % (6 : Int32)))]))
  rcases own_mod6 x0 with hk | hk | hk | hk | hk | hk
  ·
    rw [hk]
    show own_Goes _ _ _ _ _ _ _ (s₁.setTop (mkF m 7 #[.val (.int x0), .unset, .unset, .unset, .unset, .unset] [(.int (0 : Int32))]))
    refine own_go (fun _ ww => XS.istoreN X0.here hx rfl (hb hby at_7) rfl (l' := #[.val (.int x0), .val (.int (0 : Int32)), .unset, .unset, .unset, .unset]) rfl ww) ?_
    show own_Goes _ _ _ _ _ _ _ (s₁.setTop (mkF m 8 #[.val (.int x0), .val (.int (0 : Int32)), .unset, .unset, .unset, .unset] []))
    refine own_go (fun _ ww => XS.iloadN X0.here hx rfl (hb hby at_8) rfl  ww) ?_
    show own_Goes _ _ _ _ _ _ _ (s₁.setTop (mkF m 9 #[.val (.int x0), .val (.int (0 : Int32)), .unset, .unset, .unset, .unset] [(.int (0 : Int32))]))
    obtain ⟨_, _, ⟨T30, L30, k30, n30⟩, -, X30, ⟨Lc30, hQ30, l30, y30, z30⟩, st30⟩ := Jvm.LawKit.callS X0 hx (y := (⟨"com/example/esfahan/esfahan/model/ComparisonIsOrderingPinLaw", "pick", "(I)Lcom/example/esfahan/esfahan/model/Comparison;"⟩ : MethodName)) hown (mvT hZ (hw _ (List.mem_of_getElem? (i := 1) rfl))) (mvT hZ (hw _ (List.mem_of_getElem? (i := 2) rfl))) (mvT hZ (hw _ (List.mem_of_getElem? (i := 3) rfl))) (mvT hZ (hw _ (List.mem_of_getElem? (i := 4) rfl))) (by decide) (backOf (W := 0) (rm_pick0 l Z a0 hw [] k0 h0 n0 O0 Sk0) hZ (hw _ (List.mem_of_getElem? (i := 4) rfl)) (hw _ (List.mem_of_getElem? (i := 3) rfl)) (by decide) (by decide)) (g := (mkF m 9 #[.val (.int x0), .val (.int (0 : Int32)), .unset, .unset, .unset, .unset] [(.int (0 : Int32))])) rfl (by rw [hml]; rfl) (argsL := [(.int (0 : Int32))]) (rest := []) (lenOf pd_1 rfl) rfl (by show 2 * 0 + _ ≤ _; exact Nat.le_of_eq rfl) (hb hby at_9) (fun _ _ => ⟨rfl, e0, (by decide : 0 + 0 ≤ _), (by decide : 0 + 0 ≤ _)⟩)
    dsimp only [Pt.U, Pt.locs, Pt.cells, Pt.slots] at X30 l30 y30 z30 st30 hQ30
    subst l30 y30 z30
    obtain ⟨rfl, N30q, e30⟩ := hQ30
    have N30 := Fr.app N0 N30q
    refine own_go st30 ?_
    show own_Goes _ _ _ _ _ _ _ (T30.setTop (mkF m 12 #[.val (.int x0), .val (.int (0 : Int32)), .unset, .unset, .unset, .unset] [(.ref k0)]))
    refine own_go (fun _ ww => XS.astoreN X30.here hx rfl (hb hby at_12) rfl rfl (l' := #[.val (.int x0), .val (.int (0 : Int32)), .val (.ref k0), .unset, .unset, .unset]) rfl ww) ?_
    show own_Goes _ _ _ _ _ _ _ (T30.setTop (mkF m 13 #[.val (.int x0), .val (.int (0 : Int32)), .val (.ref k0), .unset, .unset, .unset] []))
    refine own_go (fun _ ww => XS.aloadN X30.here hx rfl (hb hby at_13) rfl rfl ww) ?_
    show own_Goes _ _ _ _ _ _ _ (T30.setTop (mkF m 14 #[.val (.int x0), .val (.int (0 : Int32)), .val (.ref k0), .unset, .unset, .unset] [(.ref k0)]))
    obtain ⟨cq31, kq31, q31a, q31b, q31c⟩ := isOf hZ e30 (Ek0.ext O0.2)
    obtain ⟨_, _, ⟨T31, L31, k31, n31⟩, -, X31, ⟨Lc31, hQ31, l31, y31, z31⟩, st31⟩ := X30.virtualBack hx (y := (⟨"com/example/esfahan/esfahan/model/Comparison", "isOrdering", "()Z"⟩ : MethodName)) (z := (⟨"com/example/esfahan/esfahan/model/Comparison", "isOrdering", "()Z"⟩ : MethodName)) hown (mvT hZ (hw _ (List.mem_of_getElem? (i := 8) rfl))) (mvT hZ (hw _ (List.mem_of_getElem? (i := 9) rfl))) (notFace_of_selects (args := #[]) (mvT hZ (hw _ (List.mem_of_getElem? (i := 11) rfl)))) (mvT hZ (hw _ (List.mem_of_getElem? (i := 11) rfl))) (mvT hZ (hw _ (List.mem_of_getElem? (i := 10) rfl))) (by decide) (backOf (W := 0) (rm_iso0 l Z a0 hw [] k0 h0 n0 O0 Sk0) hZ (hw _ (List.mem_of_getElem? (i := 12) rfl)) (hw _ (List.mem_of_getElem? (i := 6) rfl)) (by decide) (by decide)) q31a q31c (g := (mkF m 14 #[.val (.int x0), .val (.int (0 : Int32)), .val (.ref k0), .unset, .unset, .unset] [(.ref k0)])) rfl (by rw [hml]; rfl) (Steps.refl _) (argsL := []) (rest := []) (lenOf pd_2 rfl) rfl (by show 2 * 0 + _ ≤ _; exact Nat.le_of_eq rfl) (hb hby at_14) (fun _ _ => ⟨rfl, e30, (by decide : 0 + 0 ≤ _), (by decide : 0 + 0 ≤ _)⟩)
    dsimp only [Pt.U, Pt.locs, Pt.cells, Pt.slots] at X31 l31 y31 z31 st31 hQ31
    subst l31 y31 z31
    obtain ⟨rfl, N31q, e31⟩ := hQ31
    have N31 := Fr.app N30 N31q
    refine own_go (fun _ ww => Steps.trans st31 ww) ?_
    show own_Goes _ _ _ _ _ _ _ (T31.setTop (mkF m 17 #[.val (.int x0), .val (.int (0 : Int32)), .val (.ref k0), .unset, .unset, .unset] [(.int (0 : Int32))]))
    refine own_go (fun _ ww => XS.istoreN X31.here hx rfl (hb hby at_17) rfl (l' := #[.val (.int x0), .val (.int (0 : Int32)), .val (.ref k0), .val (.int (0 : Int32)), .unset, .unset]) rfl ww) ?_
    show own_Goes _ _ _ _ _ _ _ (T31.setTop (mkF m 18 #[.val (.int x0), .val (.int (0 : Int32)), .val (.ref k0), .val (.int (0 : Int32)), .unset, .unset] []))
    refine own_go (fun _ ww => XS.iloadN X31.here hx rfl (hb hby at_18) rfl  ww) ?_
    show own_Goes _ _ _ _ _ _ _ (T31.setTop (mkF m 19 #[.val (.int x0), .val (.int (0 : Int32)), .val (.ref k0), .val (.int (0 : Int32)), .unset, .unset] [(.int (0 : Int32))]))
    refine own_go (fun _ ww => XS.iconst X31.here hx rfl (hb hby at_19) ww) ?_
    show own_Goes _ _ _ _ _ _ _ (T31.setTop (mkF m 20 #[.val (.int x0), .val (.int (0 : Int32)), .val (.ref k0), .val (.int (0 : Int32)), .unset, .unset] [(.int (2 : Int32)), (.int (0 : Int32))]))
    refine own_go (fun _ ww => XS.icmpYes X31.here hx rfl (pc0 := 20) (pc' := 27) rfl (hb hby at_20) rfl (tlt (by decide : (0 : Int32) < (2 : Int32))).1 (by decide) (by decide) ww) ?_
    show own_Goes _ _ _ _ _ _ _ (T31.setTop (mkF m 27 #[.val (.int x0), .val (.int (0 : Int32)), .val (.ref k0), .val (.int (0 : Int32)), .unset, .unset] []))
    refine own_go (fun _ ww => XS.iconst X31.here hx rfl (hb hby at_27) ww) ?_
    show own_Goes _ _ _ _ _ _ _ (T31.setTop (mkF m 28 #[.val (.int x0), .val (.int (0 : Int32)), .val (.ref k0), .val (.int (0 : Int32)), .unset, .unset] [(.int (0 : Int32))]))
    refine own_go (fun _ ww => XS.istore X31.here hx rfl (hb hby at_28) rfl (l' := #[.val (.int x0), .val (.int (0 : Int32)), .val (.ref k0), .val (.int (0 : Int32)), .val (.int (0 : Int32)), .unset]) rfl ww) ?_
    show own_Goes _ _ _ _ _ _ _ (T31.setTop (mkF m 30 #[.val (.int x0), .val (.int (0 : Int32)), .val (.ref k0), .val (.int (0 : Int32)), .val (.int (0 : Int32)), .unset] []))
    refine own_go (fun _ ww => XS.aloadN X31.here hx rfl (hb hby at_30) rfl rfl ww) ?_
    show own_Goes _ _ _ _ _ _ _ (T31.setTop (mkF m 31 #[.val (.int x0), .val (.int (0 : Int32)), .val (.ref k0), .val (.int (0 : Int32)), .val (.int (0 : Int32)), .unset] [(.ref k0)]))
    refine own_go (fun _ ww => XS.iconst X31.here hx rfl (hb hby at_31) ww) ?_
    show own_Goes _ _ _ _ _ _ _ (T31.setTop (mkF m 32 #[.val (.int x0), .val (.int (0 : Int32)), .val (.ref k0), .val (.int (0 : Int32)), .val (.int (0 : Int32)), .unset] [(.int (1 : Int32)), (.ref k0)]))
    obtain ⟨cq32, kq32, q32a, q32b, q32c⟩ := isOf hZ e31 (Ek0.ext O0.2)
    obtain ⟨_, _, ⟨T32, L32, k32, n32⟩, -, X32, ⟨Lc32, hQ32, l32, y32, z32⟩, st32⟩ := X31.virtualBack hx (y := (⟨"com/example/esfahan/esfahan/model/Comparison", "holdsForSign", "(I)Z"⟩ : MethodName)) (z := (⟨"com/example/esfahan/esfahan/model/Comparison", "holdsForSign", "(I)Z"⟩ : MethodName)) hown (mvT hZ (hw _ (List.mem_of_getElem? (i := 14) rfl))) (mvT hZ (hw _ (List.mem_of_getElem? (i := 15) rfl))) (notFace_of_selects (args := #[]) (mvT hZ (hw _ (List.mem_of_getElem? (i := 17) rfl)))) (mvT hZ (hw _ (List.mem_of_getElem? (i := 17) rfl))) (mvT hZ (hw _ (List.mem_of_getElem? (i := 16) rfl))) (by decide) (backOf (W := 0) (rm_hold0 l Z a0 hw [] k0 (1 : Int32) (0 : Int32) h0 n0 O0 (Fk0.ext O0.2) (Ek0.ext O0.2) (by decide) (by decide)) hZ (hw _ (List.mem_of_getElem? (i := 18) rfl)) (hw _ (List.mem_of_getElem? (i := 6) rfl)) (by decide) (by decide)) q32a q32c (g := (mkF m 32 #[.val (.int x0), .val (.int (0 : Int32)), .val (.ref k0), .val (.int (0 : Int32)), .val (.int (0 : Int32)), .unset] [(.int (1 : Int32)), (.ref k0)])) rfl (by rw [hml]; rfl) (Steps.refl _) (argsL := [(.int (1 : Int32))]) (rest := []) (lenOf pd_3 rfl) rfl (by show 2 * 0 + _ ≤ _; exact Nat.le_of_eq rfl) (hb hby at_32) (fun _ _ => ⟨rfl, e31, (by decide : 0 + 0 ≤ _), (by decide : 0 + 0 ≤ _)⟩)
    dsimp only [Pt.U, Pt.locs, Pt.cells, Pt.slots] at X32 l32 y32 z32 st32 hQ32
    subst l32 y32 z32
    obtain ⟨rfl, N32q, e32⟩ := hQ32
    have N32 := Fr.app N31 N32q
    refine own_go (fun _ ww => Steps.trans st32 ww) ?_
    show own_Goes _ _ _ _ _ _ _ (T32.setTop (mkF m 35 #[.val (.int x0), .val (.int (0 : Int32)), .val (.ref k0), .val (.int (0 : Int32)), .val (.int (0 : Int32)), .unset] [(.int (0 : Int32))]))
    refine own_go (fun _ ww => XS.aloadN X32.here hx rfl (hb hby at_35) rfl rfl ww) ?_
    show own_Goes _ _ _ _ _ _ _ (T32.setTop (mkF m 36 #[.val (.int x0), .val (.int (0 : Int32)), .val (.ref k0), .val (.int (0 : Int32)), .val (.int (0 : Int32)), .unset] [(.ref k0), (.int (0 : Int32))]))
    refine own_go (fun _ ww => XS.iconst X32.here hx rfl (hb hby at_36) ww) ?_
    show own_Goes _ _ _ _ _ _ _ (T32.setTop (mkF m 37 #[.val (.int x0), .val (.int (0 : Int32)), .val (.ref k0), .val (.int (0 : Int32)), .val (.int (0 : Int32)), .unset] [(.int (-1 : Int32)), (.ref k0), (.int (0 : Int32))]))
    obtain ⟨cq33, kq33, q33a, q33b, q33c⟩ := isOf hZ e32 (Ek0.ext O0.2)
    obtain ⟨_, _, ⟨T33, L33, k33, n33⟩, -, X33, ⟨Lc33, hQ33, l33, y33, z33⟩, st33⟩ := X32.virtualBack hx (y := (⟨"com/example/esfahan/esfahan/model/Comparison", "holdsForSign", "(I)Z"⟩ : MethodName)) (z := (⟨"com/example/esfahan/esfahan/model/Comparison", "holdsForSign", "(I)Z"⟩ : MethodName)) hown (mvT hZ (hw _ (List.mem_of_getElem? (i := 14) rfl))) (mvT hZ (hw _ (List.mem_of_getElem? (i := 15) rfl))) (notFace_of_selects (args := #[]) (mvT hZ (hw _ (List.mem_of_getElem? (i := 17) rfl)))) (mvT hZ (hw _ (List.mem_of_getElem? (i := 17) rfl))) (mvT hZ (hw _ (List.mem_of_getElem? (i := 16) rfl))) (by decide) (backOf (W := 1) (rm_hold0 l Z a0 hw [] k0 (-1 : Int32) (0 : Int32) h0 n0 O0 (Fk0.ext O0.2) (Ek0.ext O0.2) (by decide) (by decide)) hZ (hw _ (List.mem_of_getElem? (i := 18) rfl)) (hw _ (List.mem_of_getElem? (i := 6) rfl)) (by decide) (by decide)) q33a q33c (g := (mkF m 37 #[.val (.int x0), .val (.int (0 : Int32)), .val (.ref k0), .val (.int (0 : Int32)), .val (.int (0 : Int32)), .unset] [(.int (-1 : Int32)), (.ref k0), (.int (0 : Int32))])) rfl (by rw [hml]; rfl) (Steps.refl _) (argsL := [(.int (-1 : Int32))]) (rest := [(.int (0 : Int32))]) (lenOf pd_3 rfl) rfl (by show 2 * 0 + _ ≤ _; exact Nat.le_of_eq rfl) (hb hby at_37) (fun _ _ => ⟨rfl, e32, (by decide : 0 + 0 ≤ _), (by decide : 0 + 0 ≤ _)⟩)
    dsimp only [Pt.U, Pt.locs, Pt.cells, Pt.slots] at X33 l33 y33 z33 st33 hQ33
    subst l33 y33 z33
    obtain ⟨rfl, N33q, e33⟩ := hQ33
    have N33 := Fr.app N32 N33q
    refine own_go (fun _ ww => Steps.trans st33 ww) ?_
    show own_Goes _ _ _ _ _ _ _ (T33.setTop (mkF m 40 #[.val (.int x0), .val (.int (0 : Int32)), .val (.ref k0), .val (.int (0 : Int32)), .val (.int (0 : Int32)), .unset] [(.int (0 : Int32)), (.int (0 : Int32))]))
    refine own_go (fun _ ww => XS.icmpYes X33.here hx rfl (pc0 := 40) (pc' := 47) rfl (hb hby at_40) rfl (teq (by decide : (0 : Int32) = (0 : Int32))).1 (by decide) (by decide) ww) ?_
    show own_Goes _ _ _ _ _ _ _ (T33.setTop (mkF m 47 #[.val (.int x0), .val (.int (0 : Int32)), .val (.ref k0), .val (.int (0 : Int32)), .val (.int (0 : Int32)), .unset] []))
    refine own_go (fun _ ww => XS.iconst X33.here hx rfl (hb hby at_47) ww) ?_
    show own_Goes _ _ _ _ _ _ _ (T33.setTop (mkF m 48 #[.val (.int x0), .val (.int (0 : Int32)), .val (.ref k0), .val (.int (0 : Int32)), .val (.int (0 : Int32)), .unset] [(.int (0 : Int32))]))
    refine own_go (fun _ ww => XS.istore X33.here hx rfl (hb hby at_48) rfl (l' := #[.val (.int x0), .val (.int (0 : Int32)), .val (.ref k0), .val (.int (0 : Int32)), .val (.int (0 : Int32)), .val (.int (0 : Int32))]) rfl ww) ?_
    show own_Goes _ _ _ _ _ _ _ (T33.setTop (mkF m 50 #[.val (.int x0), .val (.int (0 : Int32)), .val (.ref k0), .val (.int (0 : Int32)), .val (.int (0 : Int32)), .val (.int (0 : Int32))] []))
    refine own_go (fun _ ww => XS.iloadN X33.here hx rfl (hb hby at_50) rfl  ww) ?_
    show own_Goes _ _ _ _ _ _ _ (T33.setTop (mkF m 51 #[.val (.int x0), .val (.int (0 : Int32)), .val (.ref k0), .val (.int (0 : Int32)), .val (.int (0 : Int32)), .val (.int (0 : Int32))] [(.int (0 : Int32))]))
    refine own_go (fun _ ww => XS.iload X33.here hx rfl (hb hby at_51) rfl  ww) ?_
    show own_Goes _ _ _ _ _ _ _ (T33.setTop (mkF m 53 #[.val (.int x0), .val (.int (0 : Int32)), .val (.ref k0), .val (.int (0 : Int32)), .val (.int (0 : Int32)), .val (.int (0 : Int32))] [(.int (0 : Int32)), (.int (0 : Int32))]))
    refine own_go (fun _ ww => XS.icmpNo X33.here hx rfl (hb hby at_53) rfl (teq (by decide : (0 : Int32) = (0 : Int32))).2 ww) ?_
    show own_Goes _ _ _ _ _ _ _ (T33.setTop (mkF m 56 #[.val (.int x0), .val (.int (0 : Int32)), .val (.ref k0), .val (.int (0 : Int32)), .val (.int (0 : Int32)), .val (.int (0 : Int32))] []))
    refine own_go (fun _ ww => XS.iloadN X33.here hx rfl (hb hby at_56) rfl  ww) ?_
    show own_Goes _ _ _ _ _ _ _ (T33.setTop (mkF m 57 #[.val (.int x0), .val (.int (0 : Int32)), .val (.ref k0), .val (.int (0 : Int32)), .val (.int (0 : Int32)), .val (.int (0 : Int32))] [(.int (0 : Int32))]))
    refine own_go (fun _ ww => XS.iload X33.here hx rfl (hb hby at_57) rfl  ww) ?_
    show own_Goes _ _ _ _ _ _ _ (T33.setTop (mkF m 59 #[.val (.int x0), .val (.int (0 : Int32)), .val (.ref k0), .val (.int (0 : Int32)), .val (.int (0 : Int32)), .val (.int (0 : Int32))] [(.int (0 : Int32)), (.int (0 : Int32))]))
    refine own_go (fun _ ww => XS.icmpNo X33.here hx rfl (hb hby at_59) rfl (teq (by decide : (0 : Int32) = (0 : Int32))).2 ww) ?_
    show own_Goes _ _ _ _ _ _ _ (T33.setTop (mkF m 62 #[.val (.int x0), .val (.int (0 : Int32)), .val (.ref k0), .val (.int (0 : Int32)), .val (.int (0 : Int32)), .val (.int (0 : Int32))] []))
    refine own_go (fun _ ww => XS.iconst X33.here hx rfl (hb hby at_62) ww) ?_
    show own_Goes _ _ _ _ _ _ _ (T33.setTop (mkF m 63 #[.val (.int x0), .val (.int (0 : Int32)), .val (.ref k0), .val (.int (0 : Int32)), .val (.int (0 : Int32)), .val (.int (0 : Int32))] [(.int (1 : Int32))]))
    refine own_go (fun _ ww => XS.goto X33.here hx rfl (pc0 := 63) (pc' := 67) rfl (hb hby at_63) (by decide) (by decide) ww) ?_
    show own_Goes _ _ _ _ _ _ _ (T33.setTop (mkF m 67 #[.val (.int x0), .val (.int (0 : Int32)), .val (.ref k0), .val (.int (0 : Int32)), .val (.int (0 : Int32)), .val (.int (0 : Int32))] [(.int (1 : Int32))]))
    exact own_out X33 hlk (v := some (.int (1 : Int32))) (fun h => by rw [hret] at h; cases h) (fun fs hr => retOut X33 hx (t := .boolean) hret (by decide) (Or.inl ⟨rfl, by simp, _, rfl⟩) (hb hby at_67) hr) e33 ⟨rfl, N33⟩ (by decide) (by decide)
  ·
    rw [hk]
    show own_Goes _ _ _ _ _ _ _ (s₁.setTop (mkF m 7 #[.val (.int x0), .unset, .unset, .unset, .unset, .unset] [(.int (1 : Int32))]))
    refine own_go (fun _ ww => XS.istoreN X0.here hx rfl (hb hby at_7) rfl (l' := #[.val (.int x0), .val (.int (1 : Int32)), .unset, .unset, .unset, .unset]) rfl ww) ?_
    show own_Goes _ _ _ _ _ _ _ (s₁.setTop (mkF m 8 #[.val (.int x0), .val (.int (1 : Int32)), .unset, .unset, .unset, .unset] []))
    refine own_go (fun _ ww => XS.iloadN X0.here hx rfl (hb hby at_8) rfl  ww) ?_
    show own_Goes _ _ _ _ _ _ _ (s₁.setTop (mkF m 9 #[.val (.int x0), .val (.int (1 : Int32)), .unset, .unset, .unset, .unset] [(.int (1 : Int32))]))
    obtain ⟨_, _, ⟨T34, L34, k34, n34⟩, -, X34, ⟨Lc34, hQ34, l34, y34, z34⟩, st34⟩ := Jvm.LawKit.callS X0 hx (y := (⟨"com/example/esfahan/esfahan/model/ComparisonIsOrderingPinLaw", "pick", "(I)Lcom/example/esfahan/esfahan/model/Comparison;"⟩ : MethodName)) hown (mvT hZ (hw _ (List.mem_of_getElem? (i := 1) rfl))) (mvT hZ (hw _ (List.mem_of_getElem? (i := 2) rfl))) (mvT hZ (hw _ (List.mem_of_getElem? (i := 3) rfl))) (mvT hZ (hw _ (List.mem_of_getElem? (i := 4) rfl))) (by decide) (backOf (W := 0) (rm_pick1 l Z a0 hw [] k1 h0 n0 O0 Sk1) hZ (hw _ (List.mem_of_getElem? (i := 4) rfl)) (hw _ (List.mem_of_getElem? (i := 3) rfl)) (by decide) (by decide)) (g := (mkF m 9 #[.val (.int x0), .val (.int (1 : Int32)), .unset, .unset, .unset, .unset] [(.int (1 : Int32))])) rfl (by rw [hml]; rfl) (argsL := [(.int (1 : Int32))]) (rest := []) (lenOf pd_1 rfl) rfl (by show 2 * 0 + _ ≤ _; exact Nat.le_of_eq rfl) (hb hby at_9) (fun _ _ => ⟨rfl, e0, (by decide : 0 + 0 ≤ _), (by decide : 0 + 0 ≤ _)⟩)
    dsimp only [Pt.U, Pt.locs, Pt.cells, Pt.slots] at X34 l34 y34 z34 st34 hQ34
    subst l34 y34 z34
    obtain ⟨rfl, N34q, e34⟩ := hQ34
    have N34 := Fr.app N0 N34q
    refine own_go st34 ?_
    show own_Goes _ _ _ _ _ _ _ (T34.setTop (mkF m 12 #[.val (.int x0), .val (.int (1 : Int32)), .unset, .unset, .unset, .unset] [(.ref k1)]))
    refine own_go (fun _ ww => XS.astoreN X34.here hx rfl (hb hby at_12) rfl rfl (l' := #[.val (.int x0), .val (.int (1 : Int32)), .val (.ref k1), .unset, .unset, .unset]) rfl ww) ?_
    show own_Goes _ _ _ _ _ _ _ (T34.setTop (mkF m 13 #[.val (.int x0), .val (.int (1 : Int32)), .val (.ref k1), .unset, .unset, .unset] []))
    refine own_go (fun _ ww => XS.aloadN X34.here hx rfl (hb hby at_13) rfl rfl ww) ?_
    show own_Goes _ _ _ _ _ _ _ (T34.setTop (mkF m 14 #[.val (.int x0), .val (.int (1 : Int32)), .val (.ref k1), .unset, .unset, .unset] [(.ref k1)]))
    obtain ⟨cq35, kq35, q35a, q35b, q35c⟩ := isOf hZ e34 (Ek1.ext O0.2)
    obtain ⟨_, _, ⟨T35, L35, k35, n35⟩, -, X35, ⟨Lc35, hQ35, l35, y35, z35⟩, st35⟩ := X34.virtualBack hx (y := (⟨"com/example/esfahan/esfahan/model/Comparison", "isOrdering", "()Z"⟩ : MethodName)) (z := (⟨"com/example/esfahan/esfahan/model/Comparison", "isOrdering", "()Z"⟩ : MethodName)) hown (mvT hZ (hw _ (List.mem_of_getElem? (i := 8) rfl))) (mvT hZ (hw _ (List.mem_of_getElem? (i := 9) rfl))) (notFace_of_selects (args := #[]) (mvT hZ (hw _ (List.mem_of_getElem? (i := 11) rfl)))) (mvT hZ (hw _ (List.mem_of_getElem? (i := 11) rfl))) (mvT hZ (hw _ (List.mem_of_getElem? (i := 10) rfl))) (by decide) (backOf (W := 0) (rm_iso1 l Z a0 hw [] k0 k1 h0 n0 O0 Sk0 Sk1 (Fld.ne Fk1 Fk0 (own_vne (by decide)))) hZ (hw _ (List.mem_of_getElem? (i := 12) rfl)) (hw _ (List.mem_of_getElem? (i := 6) rfl)) (by decide) (by decide)) q35a q35c (g := (mkF m 14 #[.val (.int x0), .val (.int (1 : Int32)), .val (.ref k1), .unset, .unset, .unset] [(.ref k1)])) rfl (by rw [hml]; rfl) (Steps.refl _) (argsL := []) (rest := []) (lenOf pd_2 rfl) rfl (by show 2 * 0 + _ ≤ _; exact Nat.le_of_eq rfl) (hb hby at_14) (fun _ _ => ⟨rfl, e34, (by decide : 0 + 0 ≤ _), (by decide : 0 + 0 ≤ _)⟩)
    dsimp only [Pt.U, Pt.locs, Pt.cells, Pt.slots] at X35 l35 y35 z35 st35 hQ35
    subst l35 y35 z35
    obtain ⟨rfl, N35q, e35⟩ := hQ35
    have N35 := Fr.app N34 N35q
    refine own_go (fun _ ww => Steps.trans st35 ww) ?_
    show own_Goes _ _ _ _ _ _ _ (T35.setTop (mkF m 17 #[.val (.int x0), .val (.int (1 : Int32)), .val (.ref k1), .unset, .unset, .unset] [(.int (0 : Int32))]))
    refine own_go (fun _ ww => XS.istoreN X35.here hx rfl (hb hby at_17) rfl (l' := #[.val (.int x0), .val (.int (1 : Int32)), .val (.ref k1), .val (.int (0 : Int32)), .unset, .unset]) rfl ww) ?_
    show own_Goes _ _ _ _ _ _ _ (T35.setTop (mkF m 18 #[.val (.int x0), .val (.int (1 : Int32)), .val (.ref k1), .val (.int (0 : Int32)), .unset, .unset] []))
    refine own_go (fun _ ww => XS.iloadN X35.here hx rfl (hb hby at_18) rfl  ww) ?_
    show own_Goes _ _ _ _ _ _ _ (T35.setTop (mkF m 19 #[.val (.int x0), .val (.int (1 : Int32)), .val (.ref k1), .val (.int (0 : Int32)), .unset, .unset] [(.int (1 : Int32))]))
    refine own_go (fun _ ww => XS.iconst X35.here hx rfl (hb hby at_19) ww) ?_
    show own_Goes _ _ _ _ _ _ _ (T35.setTop (mkF m 20 #[.val (.int x0), .val (.int (1 : Int32)), .val (.ref k1), .val (.int (0 : Int32)), .unset, .unset] [(.int (2 : Int32)), (.int (1 : Int32))]))
    refine own_go (fun _ ww => XS.icmpYes X35.here hx rfl (pc0 := 20) (pc' := 27) rfl (hb hby at_20) rfl (tlt (by decide : (1 : Int32) < (2 : Int32))).1 (by decide) (by decide) ww) ?_
    show own_Goes _ _ _ _ _ _ _ (T35.setTop (mkF m 27 #[.val (.int x0), .val (.int (1 : Int32)), .val (.ref k1), .val (.int (0 : Int32)), .unset, .unset] []))
    refine own_go (fun _ ww => XS.iconst X35.here hx rfl (hb hby at_27) ww) ?_
    show own_Goes _ _ _ _ _ _ _ (T35.setTop (mkF m 28 #[.val (.int x0), .val (.int (1 : Int32)), .val (.ref k1), .val (.int (0 : Int32)), .unset, .unset] [(.int (0 : Int32))]))
    refine own_go (fun _ ww => XS.istore X35.here hx rfl (hb hby at_28) rfl (l' := #[.val (.int x0), .val (.int (1 : Int32)), .val (.ref k1), .val (.int (0 : Int32)), .val (.int (0 : Int32)), .unset]) rfl ww) ?_
    show own_Goes _ _ _ _ _ _ _ (T35.setTop (mkF m 30 #[.val (.int x0), .val (.int (1 : Int32)), .val (.ref k1), .val (.int (0 : Int32)), .val (.int (0 : Int32)), .unset] []))
    refine own_go (fun _ ww => XS.aloadN X35.here hx rfl (hb hby at_30) rfl rfl ww) ?_
    show own_Goes _ _ _ _ _ _ _ (T35.setTop (mkF m 31 #[.val (.int x0), .val (.int (1 : Int32)), .val (.ref k1), .val (.int (0 : Int32)), .val (.int (0 : Int32)), .unset] [(.ref k1)]))
    refine own_go (fun _ ww => XS.iconst X35.here hx rfl (hb hby at_31) ww) ?_
    show own_Goes _ _ _ _ _ _ _ (T35.setTop (mkF m 32 #[.val (.int x0), .val (.int (1 : Int32)), .val (.ref k1), .val (.int (0 : Int32)), .val (.int (0 : Int32)), .unset] [(.int (1 : Int32)), (.ref k1)]))
    obtain ⟨cq36, kq36, q36a, q36b, q36c⟩ := isOf hZ e35 (Ek1.ext O0.2)
    obtain ⟨_, _, ⟨T36, L36, k36, n36⟩, -, X36, ⟨Lc36, hQ36, l36, y36, z36⟩, st36⟩ := X35.virtualBack hx (y := (⟨"com/example/esfahan/esfahan/model/Comparison", "holdsForSign", "(I)Z"⟩ : MethodName)) (z := (⟨"com/example/esfahan/esfahan/model/Comparison", "holdsForSign", "(I)Z"⟩ : MethodName)) hown (mvT hZ (hw _ (List.mem_of_getElem? (i := 14) rfl))) (mvT hZ (hw _ (List.mem_of_getElem? (i := 15) rfl))) (notFace_of_selects (args := #[]) (mvT hZ (hw _ (List.mem_of_getElem? (i := 17) rfl)))) (mvT hZ (hw _ (List.mem_of_getElem? (i := 17) rfl))) (mvT hZ (hw _ (List.mem_of_getElem? (i := 16) rfl))) (by decide) (backOf (W := 0) (rm_hold1 l Z a0 hw [] k1 (1 : Int32) (1 : Int32) h0 n0 O0 (Fk1.ext O0.2) (Ek1.ext O0.2) (by decide) (by decide)) hZ (hw _ (List.mem_of_getElem? (i := 18) rfl)) (hw _ (List.mem_of_getElem? (i := 6) rfl)) (by decide) (by decide)) q36a q36c (g := (mkF m 32 #[.val (.int x0), .val (.int (1 : Int32)), .val (.ref k1), .val (.int (0 : Int32)), .val (.int (0 : Int32)), .unset] [(.int (1 : Int32)), (.ref k1)])) rfl (by rw [hml]; rfl) (Steps.refl _) (argsL := [(.int (1 : Int32))]) (rest := []) (lenOf pd_3 rfl) rfl (by show 2 * 0 + _ ≤ _; exact Nat.le_of_eq rfl) (hb hby at_32) (fun _ _ => ⟨rfl, e35, (by decide : 0 + 0 ≤ _), (by decide : 0 + 0 ≤ _)⟩)
    dsimp only [Pt.U, Pt.locs, Pt.cells, Pt.slots] at X36 l36 y36 z36 st36 hQ36
    subst l36 y36 z36
    obtain ⟨rfl, N36q, e36⟩ := hQ36
    have N36 := Fr.app N35 N36q
    refine own_go (fun _ ww => Steps.trans st36 ww) ?_
    show own_Goes _ _ _ _ _ _ _ (T36.setTop (mkF m 35 #[.val (.int x0), .val (.int (1 : Int32)), .val (.ref k1), .val (.int (0 : Int32)), .val (.int (0 : Int32)), .unset] [(.int (1 : Int32))]))
    refine own_go (fun _ ww => XS.aloadN X36.here hx rfl (hb hby at_35) rfl rfl ww) ?_
    show own_Goes _ _ _ _ _ _ _ (T36.setTop (mkF m 36 #[.val (.int x0), .val (.int (1 : Int32)), .val (.ref k1), .val (.int (0 : Int32)), .val (.int (0 : Int32)), .unset] [(.ref k1), (.int (1 : Int32))]))
    refine own_go (fun _ ww => XS.iconst X36.here hx rfl (hb hby at_36) ww) ?_
    show own_Goes _ _ _ _ _ _ _ (T36.setTop (mkF m 37 #[.val (.int x0), .val (.int (1 : Int32)), .val (.ref k1), .val (.int (0 : Int32)), .val (.int (0 : Int32)), .unset] [(.int (-1 : Int32)), (.ref k1), (.int (1 : Int32))]))
    obtain ⟨cq37, kq37, q37a, q37b, q37c⟩ := isOf hZ e36 (Ek1.ext O0.2)
    obtain ⟨_, _, ⟨T37, L37, k37, n37⟩, -, X37, ⟨Lc37, hQ37, l37, y37, z37⟩, st37⟩ := X36.virtualBack hx (y := (⟨"com/example/esfahan/esfahan/model/Comparison", "holdsForSign", "(I)Z"⟩ : MethodName)) (z := (⟨"com/example/esfahan/esfahan/model/Comparison", "holdsForSign", "(I)Z"⟩ : MethodName)) hown (mvT hZ (hw _ (List.mem_of_getElem? (i := 14) rfl))) (mvT hZ (hw _ (List.mem_of_getElem? (i := 15) rfl))) (notFace_of_selects (args := #[]) (mvT hZ (hw _ (List.mem_of_getElem? (i := 17) rfl)))) (mvT hZ (hw _ (List.mem_of_getElem? (i := 17) rfl))) (mvT hZ (hw _ (List.mem_of_getElem? (i := 16) rfl))) (by decide) (backOf (W := 1) (rm_hold1 l Z a0 hw [] k1 (-1 : Int32) (1 : Int32) h0 n0 O0 (Fk1.ext O0.2) (Ek1.ext O0.2) (by decide) (by decide)) hZ (hw _ (List.mem_of_getElem? (i := 18) rfl)) (hw _ (List.mem_of_getElem? (i := 6) rfl)) (by decide) (by decide)) q37a q37c (g := (mkF m 37 #[.val (.int x0), .val (.int (1 : Int32)), .val (.ref k1), .val (.int (0 : Int32)), .val (.int (0 : Int32)), .unset] [(.int (-1 : Int32)), (.ref k1), (.int (1 : Int32))])) rfl (by rw [hml]; rfl) (Steps.refl _) (argsL := [(.int (-1 : Int32))]) (rest := [(.int (1 : Int32))]) (lenOf pd_3 rfl) rfl (by show 2 * 0 + _ ≤ _; exact Nat.le_of_eq rfl) (hb hby at_37) (fun _ _ => ⟨rfl, e36, (by decide : 0 + 0 ≤ _), (by decide : 0 + 0 ≤ _)⟩)
    dsimp only [Pt.U, Pt.locs, Pt.cells, Pt.slots] at X37 l37 y37 z37 st37 hQ37
    subst l37 y37 z37
    obtain ⟨rfl, N37q, e37⟩ := hQ37
    have N37 := Fr.app N36 N37q
    refine own_go (fun _ ww => Steps.trans st37 ww) ?_
    show own_Goes _ _ _ _ _ _ _ (T37.setTop (mkF m 40 #[.val (.int x0), .val (.int (1 : Int32)), .val (.ref k1), .val (.int (0 : Int32)), .val (.int (0 : Int32)), .unset] [(.int (1 : Int32)), (.int (1 : Int32))]))
    refine own_go (fun _ ww => XS.icmpYes X37.here hx rfl (pc0 := 40) (pc' := 47) rfl (hb hby at_40) rfl (teq (by decide : (1 : Int32) = (1 : Int32))).1 (by decide) (by decide) ww) ?_
    show own_Goes _ _ _ _ _ _ _ (T37.setTop (mkF m 47 #[.val (.int x0), .val (.int (1 : Int32)), .val (.ref k1), .val (.int (0 : Int32)), .val (.int (0 : Int32)), .unset] []))
    refine own_go (fun _ ww => XS.iconst X37.here hx rfl (hb hby at_47) ww) ?_
    show own_Goes _ _ _ _ _ _ _ (T37.setTop (mkF m 48 #[.val (.int x0), .val (.int (1 : Int32)), .val (.ref k1), .val (.int (0 : Int32)), .val (.int (0 : Int32)), .unset] [(.int (0 : Int32))]))
    refine own_go (fun _ ww => XS.istore X37.here hx rfl (hb hby at_48) rfl (l' := #[.val (.int x0), .val (.int (1 : Int32)), .val (.ref k1), .val (.int (0 : Int32)), .val (.int (0 : Int32)), .val (.int (0 : Int32))]) rfl ww) ?_
    show own_Goes _ _ _ _ _ _ _ (T37.setTop (mkF m 50 #[.val (.int x0), .val (.int (1 : Int32)), .val (.ref k1), .val (.int (0 : Int32)), .val (.int (0 : Int32)), .val (.int (0 : Int32))] []))
    refine own_go (fun _ ww => XS.iloadN X37.here hx rfl (hb hby at_50) rfl  ww) ?_
    show own_Goes _ _ _ _ _ _ _ (T37.setTop (mkF m 51 #[.val (.int x0), .val (.int (1 : Int32)), .val (.ref k1), .val (.int (0 : Int32)), .val (.int (0 : Int32)), .val (.int (0 : Int32))] [(.int (0 : Int32))]))
    refine own_go (fun _ ww => XS.iload X37.here hx rfl (hb hby at_51) rfl  ww) ?_
    show own_Goes _ _ _ _ _ _ _ (T37.setTop (mkF m 53 #[.val (.int x0), .val (.int (1 : Int32)), .val (.ref k1), .val (.int (0 : Int32)), .val (.int (0 : Int32)), .val (.int (0 : Int32))] [(.int (0 : Int32)), (.int (0 : Int32))]))
    refine own_go (fun _ ww => XS.icmpNo X37.here hx rfl (hb hby at_53) rfl (teq (by decide : (0 : Int32) = (0 : Int32))).2 ww) ?_
    show own_Goes _ _ _ _ _ _ _ (T37.setTop (mkF m 56 #[.val (.int x0), .val (.int (1 : Int32)), .val (.ref k1), .val (.int (0 : Int32)), .val (.int (0 : Int32)), .val (.int (0 : Int32))] []))
    refine own_go (fun _ ww => XS.iloadN X37.here hx rfl (hb hby at_56) rfl  ww) ?_
    show own_Goes _ _ _ _ _ _ _ (T37.setTop (mkF m 57 #[.val (.int x0), .val (.int (1 : Int32)), .val (.ref k1), .val (.int (0 : Int32)), .val (.int (0 : Int32)), .val (.int (0 : Int32))] [(.int (0 : Int32))]))
    refine own_go (fun _ ww => XS.iload X37.here hx rfl (hb hby at_57) rfl  ww) ?_
    show own_Goes _ _ _ _ _ _ _ (T37.setTop (mkF m 59 #[.val (.int x0), .val (.int (1 : Int32)), .val (.ref k1), .val (.int (0 : Int32)), .val (.int (0 : Int32)), .val (.int (0 : Int32))] [(.int (0 : Int32)), (.int (0 : Int32))]))
    refine own_go (fun _ ww => XS.icmpNo X37.here hx rfl (hb hby at_59) rfl (teq (by decide : (0 : Int32) = (0 : Int32))).2 ww) ?_
    show own_Goes _ _ _ _ _ _ _ (T37.setTop (mkF m 62 #[.val (.int x0), .val (.int (1 : Int32)), .val (.ref k1), .val (.int (0 : Int32)), .val (.int (0 : Int32)), .val (.int (0 : Int32))] []))
    refine own_go (fun _ ww => XS.iconst X37.here hx rfl (hb hby at_62) ww) ?_
    show own_Goes _ _ _ _ _ _ _ (T37.setTop (mkF m 63 #[.val (.int x0), .val (.int (1 : Int32)), .val (.ref k1), .val (.int (0 : Int32)), .val (.int (0 : Int32)), .val (.int (0 : Int32))] [(.int (1 : Int32))]))
    refine own_go (fun _ ww => XS.goto X37.here hx rfl (pc0 := 63) (pc' := 67) rfl (hb hby at_63) (by decide) (by decide) ww) ?_
    show own_Goes _ _ _ _ _ _ _ (T37.setTop (mkF m 67 #[.val (.int x0), .val (.int (1 : Int32)), .val (.ref k1), .val (.int (0 : Int32)), .val (.int (0 : Int32)), .val (.int (0 : Int32))] [(.int (1 : Int32))]))
    exact own_out X37 hlk (v := some (.int (1 : Int32))) (fun h => by rw [hret] at h; cases h) (fun fs hr => retOut X37 hx (t := .boolean) hret (by decide) (Or.inl ⟨rfl, by simp, _, rfl⟩) (hb hby at_67) hr) e37 ⟨rfl, N37⟩ (by decide) (by decide)
  ·
    rw [hk]
    show own_Goes _ _ _ _ _ _ _ (s₁.setTop (mkF m 7 #[.val (.int x0), .unset, .unset, .unset, .unset, .unset] [(.int (2 : Int32))]))
    refine own_go (fun _ ww => XS.istoreN X0.here hx rfl (hb hby at_7) rfl (l' := #[.val (.int x0), .val (.int (2 : Int32)), .unset, .unset, .unset, .unset]) rfl ww) ?_
    show own_Goes _ _ _ _ _ _ _ (s₁.setTop (mkF m 8 #[.val (.int x0), .val (.int (2 : Int32)), .unset, .unset, .unset, .unset] []))
    refine own_go (fun _ ww => XS.iloadN X0.here hx rfl (hb hby at_8) rfl  ww) ?_
    show own_Goes _ _ _ _ _ _ _ (s₁.setTop (mkF m 9 #[.val (.int x0), .val (.int (2 : Int32)), .unset, .unset, .unset, .unset] [(.int (2 : Int32))]))
    obtain ⟨_, _, ⟨T38, L38, k38, n38⟩, -, X38, ⟨Lc38, hQ38, l38, y38, z38⟩, st38⟩ := Jvm.LawKit.callS X0 hx (y := (⟨"com/example/esfahan/esfahan/model/ComparisonIsOrderingPinLaw", "pick", "(I)Lcom/example/esfahan/esfahan/model/Comparison;"⟩ : MethodName)) hown (mvT hZ (hw _ (List.mem_of_getElem? (i := 1) rfl))) (mvT hZ (hw _ (List.mem_of_getElem? (i := 2) rfl))) (mvT hZ (hw _ (List.mem_of_getElem? (i := 3) rfl))) (mvT hZ (hw _ (List.mem_of_getElem? (i := 4) rfl))) (by decide) (backOf (W := 0) (rm_pick2 l Z a0 hw [] k2 h0 n0 O0 Sk2) hZ (hw _ (List.mem_of_getElem? (i := 4) rfl)) (hw _ (List.mem_of_getElem? (i := 3) rfl)) (by decide) (by decide)) (g := (mkF m 9 #[.val (.int x0), .val (.int (2 : Int32)), .unset, .unset, .unset, .unset] [(.int (2 : Int32))])) rfl (by rw [hml]; rfl) (argsL := [(.int (2 : Int32))]) (rest := []) (lenOf pd_1 rfl) rfl (by show 2 * 0 + _ ≤ _; exact Nat.le_of_eq rfl) (hb hby at_9) (fun _ _ => ⟨rfl, e0, (by decide : 0 + 0 ≤ _), (by decide : 0 + 0 ≤ _)⟩)
    dsimp only [Pt.U, Pt.locs, Pt.cells, Pt.slots] at X38 l38 y38 z38 st38 hQ38
    subst l38 y38 z38
    obtain ⟨rfl, N38q, e38⟩ := hQ38
    have N38 := Fr.app N0 N38q
    refine own_go st38 ?_
    show own_Goes _ _ _ _ _ _ _ (T38.setTop (mkF m 12 #[.val (.int x0), .val (.int (2 : Int32)), .unset, .unset, .unset, .unset] [(.ref k2)]))
    refine own_go (fun _ ww => XS.astoreN X38.here hx rfl (hb hby at_12) rfl rfl (l' := #[.val (.int x0), .val (.int (2 : Int32)), .val (.ref k2), .unset, .unset, .unset]) rfl ww) ?_
    show own_Goes _ _ _ _ _ _ _ (T38.setTop (mkF m 13 #[.val (.int x0), .val (.int (2 : Int32)), .val (.ref k2), .unset, .unset, .unset] []))
    refine own_go (fun _ ww => XS.aloadN X38.here hx rfl (hb hby at_13) rfl rfl ww) ?_
    show own_Goes _ _ _ _ _ _ _ (T38.setTop (mkF m 14 #[.val (.int x0), .val (.int (2 : Int32)), .val (.ref k2), .unset, .unset, .unset] [(.ref k2)]))
    obtain ⟨cq39, kq39, q39a, q39b, q39c⟩ := isOf hZ e38 (Ek2.ext O0.2)
    obtain ⟨_, _, ⟨T39, L39, k39, n39⟩, -, X39, ⟨Lc39, hQ39, l39, y39, z39⟩, st39⟩ := X38.virtualBack hx (y := (⟨"com/example/esfahan/esfahan/model/Comparison", "isOrdering", "()Z"⟩ : MethodName)) (z := (⟨"com/example/esfahan/esfahan/model/Comparison", "isOrdering", "()Z"⟩ : MethodName)) hown (mvT hZ (hw _ (List.mem_of_getElem? (i := 8) rfl))) (mvT hZ (hw _ (List.mem_of_getElem? (i := 9) rfl))) (notFace_of_selects (args := #[]) (mvT hZ (hw _ (List.mem_of_getElem? (i := 11) rfl)))) (mvT hZ (hw _ (List.mem_of_getElem? (i := 11) rfl))) (mvT hZ (hw _ (List.mem_of_getElem? (i := 10) rfl))) (by decide) (backOf (W := 0) (rm_iso2 l Z a0 hw [] k0 k1 k2 h0 n0 O0 Sk0 Sk1 (Fld.ne Fk2 Fk0 (own_vne (by decide))) (Fld.ne Fk2 Fk1 (own_vne (by decide)))) hZ (hw _ (List.mem_of_getElem? (i := 12) rfl)) (hw _ (List.mem_of_getElem? (i := 6) rfl)) (by decide) (by decide)) q39a q39c (g := (mkF m 14 #[.val (.int x0), .val (.int (2 : Int32)), .val (.ref k2), .unset, .unset, .unset] [(.ref k2)])) rfl (by rw [hml]; rfl) (Steps.refl _) (argsL := []) (rest := []) (lenOf pd_2 rfl) rfl (by show 2 * 0 + _ ≤ _; exact Nat.le_of_eq rfl) (hb hby at_14) (fun _ _ => ⟨rfl, e38, (by decide : 0 + 0 ≤ _), (by decide : 0 + 0 ≤ _)⟩)
    dsimp only [Pt.U, Pt.locs, Pt.cells, Pt.slots] at X39 l39 y39 z39 st39 hQ39
    subst l39 y39 z39
    obtain ⟨rfl, N39q, e39⟩ := hQ39
    have N39 := Fr.app N38 N39q
    refine own_go (fun _ ww => Steps.trans st39 ww) ?_
    show own_Goes _ _ _ _ _ _ _ (T39.setTop (mkF m 17 #[.val (.int x0), .val (.int (2 : Int32)), .val (.ref k2), .unset, .unset, .unset] [(.int (1 : Int32))]))
    refine own_go (fun _ ww => XS.istoreN X39.here hx rfl (hb hby at_17) rfl (l' := #[.val (.int x0), .val (.int (2 : Int32)), .val (.ref k2), .val (.int (1 : Int32)), .unset, .unset]) rfl ww) ?_
    show own_Goes _ _ _ _ _ _ _ (T39.setTop (mkF m 18 #[.val (.int x0), .val (.int (2 : Int32)), .val (.ref k2), .val (.int (1 : Int32)), .unset, .unset] []))
    refine own_go (fun _ ww => XS.iloadN X39.here hx rfl (hb hby at_18) rfl  ww) ?_
    show own_Goes _ _ _ _ _ _ _ (T39.setTop (mkF m 19 #[.val (.int x0), .val (.int (2 : Int32)), .val (.ref k2), .val (.int (1 : Int32)), .unset, .unset] [(.int (2 : Int32))]))
    refine own_go (fun _ ww => XS.iconst X39.here hx rfl (hb hby at_19) ww) ?_
    show own_Goes _ _ _ _ _ _ _ (T39.setTop (mkF m 20 #[.val (.int x0), .val (.int (2 : Int32)), .val (.ref k2), .val (.int (1 : Int32)), .unset, .unset] [(.int (2 : Int32)), (.int (2 : Int32))]))
    refine own_go (fun _ ww => XS.icmpNo X39.here hx rfl (hb hby at_20) rfl (flt (by decide : ¬ ((2 : Int32) < (2 : Int32)))).1 ww) ?_
    show own_Goes _ _ _ _ _ _ _ (T39.setTop (mkF m 23 #[.val (.int x0), .val (.int (2 : Int32)), .val (.ref k2), .val (.int (1 : Int32)), .unset, .unset] []))
    refine own_go (fun _ ww => XS.iconst X39.here hx rfl (hb hby at_23) ww) ?_
    show own_Goes _ _ _ _ _ _ _ (T39.setTop (mkF m 24 #[.val (.int x0), .val (.int (2 : Int32)), .val (.ref k2), .val (.int (1 : Int32)), .unset, .unset] [(.int (1 : Int32))]))
    refine own_go (fun _ ww => XS.goto X39.here hx rfl (pc0 := 24) (pc' := 28) rfl (hb hby at_24) (by decide) (by decide) ww) ?_
    show own_Goes _ _ _ _ _ _ _ (T39.setTop (mkF m 28 #[.val (.int x0), .val (.int (2 : Int32)), .val (.ref k2), .val (.int (1 : Int32)), .unset, .unset] [(.int (1 : Int32))]))
    refine own_go (fun _ ww => XS.istore X39.here hx rfl (hb hby at_28) rfl (l' := #[.val (.int x0), .val (.int (2 : Int32)), .val (.ref k2), .val (.int (1 : Int32)), .val (.int (1 : Int32)), .unset]) rfl ww) ?_
    show own_Goes _ _ _ _ _ _ _ (T39.setTop (mkF m 30 #[.val (.int x0), .val (.int (2 : Int32)), .val (.ref k2), .val (.int (1 : Int32)), .val (.int (1 : Int32)), .unset] []))
    refine own_go (fun _ ww => XS.aloadN X39.here hx rfl (hb hby at_30) rfl rfl ww) ?_
    show own_Goes _ _ _ _ _ _ _ (T39.setTop (mkF m 31 #[.val (.int x0), .val (.int (2 : Int32)), .val (.ref k2), .val (.int (1 : Int32)), .val (.int (1 : Int32)), .unset] [(.ref k2)]))
    refine own_go (fun _ ww => XS.iconst X39.here hx rfl (hb hby at_31) ww) ?_
    show own_Goes _ _ _ _ _ _ _ (T39.setTop (mkF m 32 #[.val (.int x0), .val (.int (2 : Int32)), .val (.ref k2), .val (.int (1 : Int32)), .val (.int (1 : Int32)), .unset] [(.int (1 : Int32)), (.ref k2)]))
    obtain ⟨cq40, kq40, q40a, q40b, q40c⟩ := isOf hZ e39 (Ek2.ext O0.2)
    obtain ⟨_, _, ⟨T40, L40, k40, n40⟩, -, X40, ⟨Lc40, hQ40, l40, y40, z40⟩, st40⟩ := X39.virtualBack hx (y := (⟨"com/example/esfahan/esfahan/model/Comparison", "holdsForSign", "(I)Z"⟩ : MethodName)) (z := (⟨"com/example/esfahan/esfahan/model/Comparison", "holdsForSign", "(I)Z"⟩ : MethodName)) hown (mvT hZ (hw _ (List.mem_of_getElem? (i := 14) rfl))) (mvT hZ (hw _ (List.mem_of_getElem? (i := 15) rfl))) (notFace_of_selects (args := #[]) (mvT hZ (hw _ (List.mem_of_getElem? (i := 17) rfl)))) (mvT hZ (hw _ (List.mem_of_getElem? (i := 17) rfl))) (mvT hZ (hw _ (List.mem_of_getElem? (i := 16) rfl))) (by decide) (backOf (W := 0) (rm_hold2 l Z a0 hw [] k2 (1 : Int32) (0 : Int32) h0 n0 O0 (Fk2.ext O0.2) (Ek2.ext O0.2) (by decide) (by decide)) hZ (hw _ (List.mem_of_getElem? (i := 18) rfl)) (hw _ (List.mem_of_getElem? (i := 6) rfl)) (by decide) (by decide)) q40a q40c (g := (mkF m 32 #[.val (.int x0), .val (.int (2 : Int32)), .val (.ref k2), .val (.int (1 : Int32)), .val (.int (1 : Int32)), .unset] [(.int (1 : Int32)), (.ref k2)])) rfl (by rw [hml]; rfl) (Steps.refl _) (argsL := [(.int (1 : Int32))]) (rest := []) (lenOf pd_3 rfl) rfl (by show 2 * 0 + _ ≤ _; exact Nat.le_of_eq rfl) (hb hby at_32) (fun _ _ => ⟨rfl, e39, (by decide : 0 + 0 ≤ _), (by decide : 0 + 0 ≤ _)⟩)
    dsimp only [Pt.U, Pt.locs, Pt.cells, Pt.slots] at X40 l40 y40 z40 st40 hQ40
    subst l40 y40 z40
    obtain ⟨rfl, N40q, e40⟩ := hQ40
    have N40 := Fr.app N39 N40q
    refine own_go (fun _ ww => Steps.trans st40 ww) ?_
    show own_Goes _ _ _ _ _ _ _ (T40.setTop (mkF m 35 #[.val (.int x0), .val (.int (2 : Int32)), .val (.ref k2), .val (.int (1 : Int32)), .val (.int (1 : Int32)), .unset] [(.int (0 : Int32))]))
    refine own_go (fun _ ww => XS.aloadN X40.here hx rfl (hb hby at_35) rfl rfl ww) ?_
    show own_Goes _ _ _ _ _ _ _ (T40.setTop (mkF m 36 #[.val (.int x0), .val (.int (2 : Int32)), .val (.ref k2), .val (.int (1 : Int32)), .val (.int (1 : Int32)), .unset] [(.ref k2), (.int (0 : Int32))]))
    refine own_go (fun _ ww => XS.iconst X40.here hx rfl (hb hby at_36) ww) ?_
    show own_Goes _ _ _ _ _ _ _ (T40.setTop (mkF m 37 #[.val (.int x0), .val (.int (2 : Int32)), .val (.ref k2), .val (.int (1 : Int32)), .val (.int (1 : Int32)), .unset] [(.int (-1 : Int32)), (.ref k2), (.int (0 : Int32))]))
    obtain ⟨cq41, kq41, q41a, q41b, q41c⟩ := isOf hZ e40 (Ek2.ext O0.2)
    obtain ⟨_, _, ⟨T41, L41, k41, n41⟩, -, X41, ⟨Lc41, hQ41, l41, y41, z41⟩, st41⟩ := X40.virtualBack hx (y := (⟨"com/example/esfahan/esfahan/model/Comparison", "holdsForSign", "(I)Z"⟩ : MethodName)) (z := (⟨"com/example/esfahan/esfahan/model/Comparison", "holdsForSign", "(I)Z"⟩ : MethodName)) hown (mvT hZ (hw _ (List.mem_of_getElem? (i := 14) rfl))) (mvT hZ (hw _ (List.mem_of_getElem? (i := 15) rfl))) (notFace_of_selects (args := #[]) (mvT hZ (hw _ (List.mem_of_getElem? (i := 17) rfl)))) (mvT hZ (hw _ (List.mem_of_getElem? (i := 17) rfl))) (mvT hZ (hw _ (List.mem_of_getElem? (i := 16) rfl))) (by decide) (backOf (W := 1) (rm_hold2 l Z a0 hw [] k2 (-1 : Int32) (1 : Int32) h0 n0 O0 (Fk2.ext O0.2) (Ek2.ext O0.2) (by decide) (by decide)) hZ (hw _ (List.mem_of_getElem? (i := 18) rfl)) (hw _ (List.mem_of_getElem? (i := 6) rfl)) (by decide) (by decide)) q41a q41c (g := (mkF m 37 #[.val (.int x0), .val (.int (2 : Int32)), .val (.ref k2), .val (.int (1 : Int32)), .val (.int (1 : Int32)), .unset] [(.int (-1 : Int32)), (.ref k2), (.int (0 : Int32))])) rfl (by rw [hml]; rfl) (Steps.refl _) (argsL := [(.int (-1 : Int32))]) (rest := [(.int (0 : Int32))]) (lenOf pd_3 rfl) rfl (by show 2 * 0 + _ ≤ _; exact Nat.le_of_eq rfl) (hb hby at_37) (fun _ _ => ⟨rfl, e40, (by decide : 0 + 0 ≤ _), (by decide : 0 + 0 ≤ _)⟩)
    dsimp only [Pt.U, Pt.locs, Pt.cells, Pt.slots] at X41 l41 y41 z41 st41 hQ41
    subst l41 y41 z41
    obtain ⟨rfl, N41q, e41⟩ := hQ41
    have N41 := Fr.app N40 N41q
    refine own_go (fun _ ww => Steps.trans st41 ww) ?_
    show own_Goes _ _ _ _ _ _ _ (T41.setTop (mkF m 40 #[.val (.int x0), .val (.int (2 : Int32)), .val (.ref k2), .val (.int (1 : Int32)), .val (.int (1 : Int32)), .unset] [(.int (1 : Int32)), (.int (0 : Int32))]))
    refine own_go (fun _ ww => XS.icmpNo X41.here hx rfl (hb hby at_40) rfl (feq (by decide : ¬ ((0 : Int32) = (1 : Int32)))).1 ww) ?_
    show own_Goes _ _ _ _ _ _ _ (T41.setTop (mkF m 43 #[.val (.int x0), .val (.int (2 : Int32)), .val (.ref k2), .val (.int (1 : Int32)), .val (.int (1 : Int32)), .unset] []))
    refine own_go (fun _ ww => XS.iconst X41.here hx rfl (hb hby at_43) ww) ?_
    show own_Goes _ _ _ _ _ _ _ (T41.setTop (mkF m 44 #[.val (.int x0), .val (.int (2 : Int32)), .val (.ref k2), .val (.int (1 : Int32)), .val (.int (1 : Int32)), .unset] [(.int (1 : Int32))]))
    refine own_go (fun _ ww => XS.goto X41.here hx rfl (pc0 := 44) (pc' := 48) rfl (hb hby at_44) (by decide) (by decide) ww) ?_
    show own_Goes _ _ _ _ _ _ _ (T41.setTop (mkF m 48 #[.val (.int x0), .val (.int (2 : Int32)), .val (.ref k2), .val (.int (1 : Int32)), .val (.int (1 : Int32)), .unset] [(.int (1 : Int32))]))
    refine own_go (fun _ ww => XS.istore X41.here hx rfl (hb hby at_48) rfl (l' := #[.val (.int x0), .val (.int (2 : Int32)), .val (.ref k2), .val (.int (1 : Int32)), .val (.int (1 : Int32)), .val (.int (1 : Int32))]) rfl ww) ?_
    show own_Goes _ _ _ _ _ _ _ (T41.setTop (mkF m 50 #[.val (.int x0), .val (.int (2 : Int32)), .val (.ref k2), .val (.int (1 : Int32)), .val (.int (1 : Int32)), .val (.int (1 : Int32))] []))
    refine own_go (fun _ ww => XS.iloadN X41.here hx rfl (hb hby at_50) rfl  ww) ?_
    show own_Goes _ _ _ _ _ _ _ (T41.setTop (mkF m 51 #[.val (.int x0), .val (.int (2 : Int32)), .val (.ref k2), .val (.int (1 : Int32)), .val (.int (1 : Int32)), .val (.int (1 : Int32))] [(.int (1 : Int32))]))
    refine own_go (fun _ ww => XS.iload X41.here hx rfl (hb hby at_51) rfl  ww) ?_
    show own_Goes _ _ _ _ _ _ _ (T41.setTop (mkF m 53 #[.val (.int x0), .val (.int (2 : Int32)), .val (.ref k2), .val (.int (1 : Int32)), .val (.int (1 : Int32)), .val (.int (1 : Int32))] [(.int (1 : Int32)), (.int (1 : Int32))]))
    refine own_go (fun _ ww => XS.icmpNo X41.here hx rfl (hb hby at_53) rfl (teq (by decide : (1 : Int32) = (1 : Int32))).2 ww) ?_
    show own_Goes _ _ _ _ _ _ _ (T41.setTop (mkF m 56 #[.val (.int x0), .val (.int (2 : Int32)), .val (.ref k2), .val (.int (1 : Int32)), .val (.int (1 : Int32)), .val (.int (1 : Int32))] []))
    refine own_go (fun _ ww => XS.iloadN X41.here hx rfl (hb hby at_56) rfl  ww) ?_
    show own_Goes _ _ _ _ _ _ _ (T41.setTop (mkF m 57 #[.val (.int x0), .val (.int (2 : Int32)), .val (.ref k2), .val (.int (1 : Int32)), .val (.int (1 : Int32)), .val (.int (1 : Int32))] [(.int (1 : Int32))]))
    refine own_go (fun _ ww => XS.iload X41.here hx rfl (hb hby at_57) rfl  ww) ?_
    show own_Goes _ _ _ _ _ _ _ (T41.setTop (mkF m 59 #[.val (.int x0), .val (.int (2 : Int32)), .val (.ref k2), .val (.int (1 : Int32)), .val (.int (1 : Int32)), .val (.int (1 : Int32))] [(.int (1 : Int32)), (.int (1 : Int32))]))
    refine own_go (fun _ ww => XS.icmpNo X41.here hx rfl (hb hby at_59) rfl (teq (by decide : (1 : Int32) = (1 : Int32))).2 ww) ?_
    show own_Goes _ _ _ _ _ _ _ (T41.setTop (mkF m 62 #[.val (.int x0), .val (.int (2 : Int32)), .val (.ref k2), .val (.int (1 : Int32)), .val (.int (1 : Int32)), .val (.int (1 : Int32))] []))
    refine own_go (fun _ ww => XS.iconst X41.here hx rfl (hb hby at_62) ww) ?_
    show own_Goes _ _ _ _ _ _ _ (T41.setTop (mkF m 63 #[.val (.int x0), .val (.int (2 : Int32)), .val (.ref k2), .val (.int (1 : Int32)), .val (.int (1 : Int32)), .val (.int (1 : Int32))] [(.int (1 : Int32))]))
    refine own_go (fun _ ww => XS.goto X41.here hx rfl (pc0 := 63) (pc' := 67) rfl (hb hby at_63) (by decide) (by decide) ww) ?_
    show own_Goes _ _ _ _ _ _ _ (T41.setTop (mkF m 67 #[.val (.int x0), .val (.int (2 : Int32)), .val (.ref k2), .val (.int (1 : Int32)), .val (.int (1 : Int32)), .val (.int (1 : Int32))] [(.int (1 : Int32))]))
    exact own_out X41 hlk (v := some (.int (1 : Int32))) (fun h => by rw [hret] at h; cases h) (fun fs hr => retOut X41 hx (t := .boolean) hret (by decide) (Or.inl ⟨rfl, by simp, _, rfl⟩) (hb hby at_67) hr) e41 ⟨rfl, N41⟩ (by decide) (by decide)
  ·
    rw [hk]
    show own_Goes _ _ _ _ _ _ _ (s₁.setTop (mkF m 7 #[.val (.int x0), .unset, .unset, .unset, .unset, .unset] [(.int (3 : Int32))]))
    refine own_go (fun _ ww => XS.istoreN X0.here hx rfl (hb hby at_7) rfl (l' := #[.val (.int x0), .val (.int (3 : Int32)), .unset, .unset, .unset, .unset]) rfl ww) ?_
    show own_Goes _ _ _ _ _ _ _ (s₁.setTop (mkF m 8 #[.val (.int x0), .val (.int (3 : Int32)), .unset, .unset, .unset, .unset] []))
    refine own_go (fun _ ww => XS.iloadN X0.here hx rfl (hb hby at_8) rfl  ww) ?_
    show own_Goes _ _ _ _ _ _ _ (s₁.setTop (mkF m 9 #[.val (.int x0), .val (.int (3 : Int32)), .unset, .unset, .unset, .unset] [(.int (3 : Int32))]))
    obtain ⟨_, _, ⟨T42, L42, k42, n42⟩, -, X42, ⟨Lc42, hQ42, l42, y42, z42⟩, st42⟩ := Jvm.LawKit.callS X0 hx (y := (⟨"com/example/esfahan/esfahan/model/ComparisonIsOrderingPinLaw", "pick", "(I)Lcom/example/esfahan/esfahan/model/Comparison;"⟩ : MethodName)) hown (mvT hZ (hw _ (List.mem_of_getElem? (i := 1) rfl))) (mvT hZ (hw _ (List.mem_of_getElem? (i := 2) rfl))) (mvT hZ (hw _ (List.mem_of_getElem? (i := 3) rfl))) (mvT hZ (hw _ (List.mem_of_getElem? (i := 4) rfl))) (by decide) (backOf (W := 0) (rm_pick3 l Z a0 hw [] k3 h0 n0 O0 Sk3) hZ (hw _ (List.mem_of_getElem? (i := 4) rfl)) (hw _ (List.mem_of_getElem? (i := 3) rfl)) (by decide) (by decide)) (g := (mkF m 9 #[.val (.int x0), .val (.int (3 : Int32)), .unset, .unset, .unset, .unset] [(.int (3 : Int32))])) rfl (by rw [hml]; rfl) (argsL := [(.int (3 : Int32))]) (rest := []) (lenOf pd_1 rfl) rfl (by show 2 * 0 + _ ≤ _; exact Nat.le_of_eq rfl) (hb hby at_9) (fun _ _ => ⟨rfl, e0, (by decide : 0 + 0 ≤ _), (by decide : 0 + 0 ≤ _)⟩)
    dsimp only [Pt.U, Pt.locs, Pt.cells, Pt.slots] at X42 l42 y42 z42 st42 hQ42
    subst l42 y42 z42
    obtain ⟨rfl, N42q, e42⟩ := hQ42
    have N42 := Fr.app N0 N42q
    refine own_go st42 ?_
    show own_Goes _ _ _ _ _ _ _ (T42.setTop (mkF m 12 #[.val (.int x0), .val (.int (3 : Int32)), .unset, .unset, .unset, .unset] [(.ref k3)]))
    refine own_go (fun _ ww => XS.astoreN X42.here hx rfl (hb hby at_12) rfl rfl (l' := #[.val (.int x0), .val (.int (3 : Int32)), .val (.ref k3), .unset, .unset, .unset]) rfl ww) ?_
    show own_Goes _ _ _ _ _ _ _ (T42.setTop (mkF m 13 #[.val (.int x0), .val (.int (3 : Int32)), .val (.ref k3), .unset, .unset, .unset] []))
    refine own_go (fun _ ww => XS.aloadN X42.here hx rfl (hb hby at_13) rfl rfl ww) ?_
    show own_Goes _ _ _ _ _ _ _ (T42.setTop (mkF m 14 #[.val (.int x0), .val (.int (3 : Int32)), .val (.ref k3), .unset, .unset, .unset] [(.ref k3)]))
    obtain ⟨cq43, kq43, q43a, q43b, q43c⟩ := isOf hZ e42 (Ek3.ext O0.2)
    obtain ⟨_, _, ⟨T43, L43, k43, n43⟩, -, X43, ⟨Lc43, hQ43, l43, y43, z43⟩, st43⟩ := X42.virtualBack hx (y := (⟨"com/example/esfahan/esfahan/model/Comparison", "isOrdering", "()Z"⟩ : MethodName)) (z := (⟨"com/example/esfahan/esfahan/model/Comparison", "isOrdering", "()Z"⟩ : MethodName)) hown (mvT hZ (hw _ (List.mem_of_getElem? (i := 8) rfl))) (mvT hZ (hw _ (List.mem_of_getElem? (i := 9) rfl))) (notFace_of_selects (args := #[]) (mvT hZ (hw _ (List.mem_of_getElem? (i := 11) rfl)))) (mvT hZ (hw _ (List.mem_of_getElem? (i := 11) rfl))) (mvT hZ (hw _ (List.mem_of_getElem? (i := 10) rfl))) (by decide) (backOf (W := 0) (rm_iso2 l Z a0 hw [] k0 k1 k3 h0 n0 O0 Sk0 Sk1 (Fld.ne Fk3 Fk0 (own_vne (by decide))) (Fld.ne Fk3 Fk1 (own_vne (by decide)))) hZ (hw _ (List.mem_of_getElem? (i := 12) rfl)) (hw _ (List.mem_of_getElem? (i := 6) rfl)) (by decide) (by decide)) q43a q43c (g := (mkF m 14 #[.val (.int x0), .val (.int (3 : Int32)), .val (.ref k3), .unset, .unset, .unset] [(.ref k3)])) rfl (by rw [hml]; rfl) (Steps.refl _) (argsL := []) (rest := []) (lenOf pd_2 rfl) rfl (by show 2 * 0 + _ ≤ _; exact Nat.le_of_eq rfl) (hb hby at_14) (fun _ _ => ⟨rfl, e42, (by decide : 0 + 0 ≤ _), (by decide : 0 + 0 ≤ _)⟩)
    dsimp only [Pt.U, Pt.locs, Pt.cells, Pt.slots] at X43 l43 y43 z43 st43 hQ43
    subst l43 y43 z43
    obtain ⟨rfl, N43q, e43⟩ := hQ43
    have N43 := Fr.app N42 N43q
    refine own_go (fun _ ww => Steps.trans st43 ww) ?_
    show own_Goes _ _ _ _ _ _ _ (T43.setTop (mkF m 17 #[.val (.int x0), .val (.int (3 : Int32)), .val (.ref k3), .unset, .unset, .unset] [(.int (1 : Int32))]))
    refine own_go (fun _ ww => XS.istoreN X43.here hx rfl (hb hby at_17) rfl (l' := #[.val (.int x0), .val (.int (3 : Int32)), .val (.ref k3), .val (.int (1 : Int32)), .unset, .unset]) rfl ww) ?_
    show own_Goes _ _ _ _ _ _ _ (T43.setTop (mkF m 18 #[.val (.int x0), .val (.int (3 : Int32)), .val (.ref k3), .val (.int (1 : Int32)), .unset, .unset] []))
    refine own_go (fun _ ww => XS.iloadN X43.here hx rfl (hb hby at_18) rfl  ww) ?_
    show own_Goes _ _ _ _ _ _ _ (T43.setTop (mkF m 19 #[.val (.int x0), .val (.int (3 : Int32)), .val (.ref k3), .val (.int (1 : Int32)), .unset, .unset] [(.int (3 : Int32))]))
    refine own_go (fun _ ww => XS.iconst X43.here hx rfl (hb hby at_19) ww) ?_
    show own_Goes _ _ _ _ _ _ _ (T43.setTop (mkF m 20 #[.val (.int x0), .val (.int (3 : Int32)), .val (.ref k3), .val (.int (1 : Int32)), .unset, .unset] [(.int (2 : Int32)), (.int (3 : Int32))]))
    refine own_go (fun _ ww => XS.icmpNo X43.here hx rfl (hb hby at_20) rfl (flt (by decide : ¬ ((3 : Int32) < (2 : Int32)))).1 ww) ?_
    show own_Goes _ _ _ _ _ _ _ (T43.setTop (mkF m 23 #[.val (.int x0), .val (.int (3 : Int32)), .val (.ref k3), .val (.int (1 : Int32)), .unset, .unset] []))
    refine own_go (fun _ ww => XS.iconst X43.here hx rfl (hb hby at_23) ww) ?_
    show own_Goes _ _ _ _ _ _ _ (T43.setTop (mkF m 24 #[.val (.int x0), .val (.int (3 : Int32)), .val (.ref k3), .val (.int (1 : Int32)), .unset, .unset] [(.int (1 : Int32))]))
    refine own_go (fun _ ww => XS.goto X43.here hx rfl (pc0 := 24) (pc' := 28) rfl (hb hby at_24) (by decide) (by decide) ww) ?_
    show own_Goes _ _ _ _ _ _ _ (T43.setTop (mkF m 28 #[.val (.int x0), .val (.int (3 : Int32)), .val (.ref k3), .val (.int (1 : Int32)), .unset, .unset] [(.int (1 : Int32))]))
    refine own_go (fun _ ww => XS.istore X43.here hx rfl (hb hby at_28) rfl (l' := #[.val (.int x0), .val (.int (3 : Int32)), .val (.ref k3), .val (.int (1 : Int32)), .val (.int (1 : Int32)), .unset]) rfl ww) ?_
    show own_Goes _ _ _ _ _ _ _ (T43.setTop (mkF m 30 #[.val (.int x0), .val (.int (3 : Int32)), .val (.ref k3), .val (.int (1 : Int32)), .val (.int (1 : Int32)), .unset] []))
    refine own_go (fun _ ww => XS.aloadN X43.here hx rfl (hb hby at_30) rfl rfl ww) ?_
    show own_Goes _ _ _ _ _ _ _ (T43.setTop (mkF m 31 #[.val (.int x0), .val (.int (3 : Int32)), .val (.ref k3), .val (.int (1 : Int32)), .val (.int (1 : Int32)), .unset] [(.ref k3)]))
    refine own_go (fun _ ww => XS.iconst X43.here hx rfl (hb hby at_31) ww) ?_
    show own_Goes _ _ _ _ _ _ _ (T43.setTop (mkF m 32 #[.val (.int x0), .val (.int (3 : Int32)), .val (.ref k3), .val (.int (1 : Int32)), .val (.int (1 : Int32)), .unset] [(.int (1 : Int32)), (.ref k3)]))
    obtain ⟨cq44, kq44, q44a, q44b, q44c⟩ := isOf hZ e43 (Ek3.ext O0.2)
    obtain ⟨_, _, ⟨T44, L44, k44, n44⟩, -, X44, ⟨Lc44, hQ44, l44, y44, z44⟩, st44⟩ := X43.virtualBack hx (y := (⟨"com/example/esfahan/esfahan/model/Comparison", "holdsForSign", "(I)Z"⟩ : MethodName)) (z := (⟨"com/example/esfahan/esfahan/model/Comparison", "holdsForSign", "(I)Z"⟩ : MethodName)) hown (mvT hZ (hw _ (List.mem_of_getElem? (i := 14) rfl))) (mvT hZ (hw _ (List.mem_of_getElem? (i := 15) rfl))) (notFace_of_selects (args := #[]) (mvT hZ (hw _ (List.mem_of_getElem? (i := 17) rfl)))) (mvT hZ (hw _ (List.mem_of_getElem? (i := 17) rfl))) (mvT hZ (hw _ (List.mem_of_getElem? (i := 16) rfl))) (by decide) (backOf (W := 0) (rm_hold3 l Z a0 hw [] k3 (1 : Int32) (0 : Int32) h0 n0 O0 (Fk3.ext O0.2) (Ek3.ext O0.2) (by decide) (by decide)) hZ (hw _ (List.mem_of_getElem? (i := 18) rfl)) (hw _ (List.mem_of_getElem? (i := 6) rfl)) (by decide) (by decide)) q44a q44c (g := (mkF m 32 #[.val (.int x0), .val (.int (3 : Int32)), .val (.ref k3), .val (.int (1 : Int32)), .val (.int (1 : Int32)), .unset] [(.int (1 : Int32)), (.ref k3)])) rfl (by rw [hml]; rfl) (Steps.refl _) (argsL := [(.int (1 : Int32))]) (rest := []) (lenOf pd_3 rfl) rfl (by show 2 * 0 + _ ≤ _; exact Nat.le_of_eq rfl) (hb hby at_32) (fun _ _ => ⟨rfl, e43, (by decide : 0 + 0 ≤ _), (by decide : 0 + 0 ≤ _)⟩)
    dsimp only [Pt.U, Pt.locs, Pt.cells, Pt.slots] at X44 l44 y44 z44 st44 hQ44
    subst l44 y44 z44
    obtain ⟨rfl, N44q, e44⟩ := hQ44
    have N44 := Fr.app N43 N44q
    refine own_go (fun _ ww => Steps.trans st44 ww) ?_
    show own_Goes _ _ _ _ _ _ _ (T44.setTop (mkF m 35 #[.val (.int x0), .val (.int (3 : Int32)), .val (.ref k3), .val (.int (1 : Int32)), .val (.int (1 : Int32)), .unset] [(.int (0 : Int32))]))
    refine own_go (fun _ ww => XS.aloadN X44.here hx rfl (hb hby at_35) rfl rfl ww) ?_
    show own_Goes _ _ _ _ _ _ _ (T44.setTop (mkF m 36 #[.val (.int x0), .val (.int (3 : Int32)), .val (.ref k3), .val (.int (1 : Int32)), .val (.int (1 : Int32)), .unset] [(.ref k3), (.int (0 : Int32))]))
    refine own_go (fun _ ww => XS.iconst X44.here hx rfl (hb hby at_36) ww) ?_
    show own_Goes _ _ _ _ _ _ _ (T44.setTop (mkF m 37 #[.val (.int x0), .val (.int (3 : Int32)), .val (.ref k3), .val (.int (1 : Int32)), .val (.int (1 : Int32)), .unset] [(.int (-1 : Int32)), (.ref k3), (.int (0 : Int32))]))
    obtain ⟨cq45, kq45, q45a, q45b, q45c⟩ := isOf hZ e44 (Ek3.ext O0.2)
    obtain ⟨_, _, ⟨T45, L45, k45, n45⟩, -, X45, ⟨Lc45, hQ45, l45, y45, z45⟩, st45⟩ := X44.virtualBack hx (y := (⟨"com/example/esfahan/esfahan/model/Comparison", "holdsForSign", "(I)Z"⟩ : MethodName)) (z := (⟨"com/example/esfahan/esfahan/model/Comparison", "holdsForSign", "(I)Z"⟩ : MethodName)) hown (mvT hZ (hw _ (List.mem_of_getElem? (i := 14) rfl))) (mvT hZ (hw _ (List.mem_of_getElem? (i := 15) rfl))) (notFace_of_selects (args := #[]) (mvT hZ (hw _ (List.mem_of_getElem? (i := 17) rfl)))) (mvT hZ (hw _ (List.mem_of_getElem? (i := 17) rfl))) (mvT hZ (hw _ (List.mem_of_getElem? (i := 16) rfl))) (by decide) (backOf (W := 1) (rm_hold3 l Z a0 hw [] k3 (-1 : Int32) (1 : Int32) h0 n0 O0 (Fk3.ext O0.2) (Ek3.ext O0.2) (by decide) (by decide)) hZ (hw _ (List.mem_of_getElem? (i := 18) rfl)) (hw _ (List.mem_of_getElem? (i := 6) rfl)) (by decide) (by decide)) q45a q45c (g := (mkF m 37 #[.val (.int x0), .val (.int (3 : Int32)), .val (.ref k3), .val (.int (1 : Int32)), .val (.int (1 : Int32)), .unset] [(.int (-1 : Int32)), (.ref k3), (.int (0 : Int32))])) rfl (by rw [hml]; rfl) (Steps.refl _) (argsL := [(.int (-1 : Int32))]) (rest := [(.int (0 : Int32))]) (lenOf pd_3 rfl) rfl (by show 2 * 0 + _ ≤ _; exact Nat.le_of_eq rfl) (hb hby at_37) (fun _ _ => ⟨rfl, e44, (by decide : 0 + 0 ≤ _), (by decide : 0 + 0 ≤ _)⟩)
    dsimp only [Pt.U, Pt.locs, Pt.cells, Pt.slots] at X45 l45 y45 z45 st45 hQ45
    subst l45 y45 z45
    obtain ⟨rfl, N45q, e45⟩ := hQ45
    have N45 := Fr.app N44 N45q
    refine own_go (fun _ ww => Steps.trans st45 ww) ?_
    show own_Goes _ _ _ _ _ _ _ (T45.setTop (mkF m 40 #[.val (.int x0), .val (.int (3 : Int32)), .val (.ref k3), .val (.int (1 : Int32)), .val (.int (1 : Int32)), .unset] [(.int (1 : Int32)), (.int (0 : Int32))]))
    refine own_go (fun _ ww => XS.icmpNo X45.here hx rfl (hb hby at_40) rfl (feq (by decide : ¬ ((0 : Int32) = (1 : Int32)))).1 ww) ?_
    show own_Goes _ _ _ _ _ _ _ (T45.setTop (mkF m 43 #[.val (.int x0), .val (.int (3 : Int32)), .val (.ref k3), .val (.int (1 : Int32)), .val (.int (1 : Int32)), .unset] []))
    refine own_go (fun _ ww => XS.iconst X45.here hx rfl (hb hby at_43) ww) ?_
    show own_Goes _ _ _ _ _ _ _ (T45.setTop (mkF m 44 #[.val (.int x0), .val (.int (3 : Int32)), .val (.ref k3), .val (.int (1 : Int32)), .val (.int (1 : Int32)), .unset] [(.int (1 : Int32))]))
    refine own_go (fun _ ww => XS.goto X45.here hx rfl (pc0 := 44) (pc' := 48) rfl (hb hby at_44) (by decide) (by decide) ww) ?_
    show own_Goes _ _ _ _ _ _ _ (T45.setTop (mkF m 48 #[.val (.int x0), .val (.int (3 : Int32)), .val (.ref k3), .val (.int (1 : Int32)), .val (.int (1 : Int32)), .unset] [(.int (1 : Int32))]))
    refine own_go (fun _ ww => XS.istore X45.here hx rfl (hb hby at_48) rfl (l' := #[.val (.int x0), .val (.int (3 : Int32)), .val (.ref k3), .val (.int (1 : Int32)), .val (.int (1 : Int32)), .val (.int (1 : Int32))]) rfl ww) ?_
    show own_Goes _ _ _ _ _ _ _ (T45.setTop (mkF m 50 #[.val (.int x0), .val (.int (3 : Int32)), .val (.ref k3), .val (.int (1 : Int32)), .val (.int (1 : Int32)), .val (.int (1 : Int32))] []))
    refine own_go (fun _ ww => XS.iloadN X45.here hx rfl (hb hby at_50) rfl  ww) ?_
    show own_Goes _ _ _ _ _ _ _ (T45.setTop (mkF m 51 #[.val (.int x0), .val (.int (3 : Int32)), .val (.ref k3), .val (.int (1 : Int32)), .val (.int (1 : Int32)), .val (.int (1 : Int32))] [(.int (1 : Int32))]))
    refine own_go (fun _ ww => XS.iload X45.here hx rfl (hb hby at_51) rfl  ww) ?_
    show own_Goes _ _ _ _ _ _ _ (T45.setTop (mkF m 53 #[.val (.int x0), .val (.int (3 : Int32)), .val (.ref k3), .val (.int (1 : Int32)), .val (.int (1 : Int32)), .val (.int (1 : Int32))] [(.int (1 : Int32)), (.int (1 : Int32))]))
    refine own_go (fun _ ww => XS.icmpNo X45.here hx rfl (hb hby at_53) rfl (teq (by decide : (1 : Int32) = (1 : Int32))).2 ww) ?_
    show own_Goes _ _ _ _ _ _ _ (T45.setTop (mkF m 56 #[.val (.int x0), .val (.int (3 : Int32)), .val (.ref k3), .val (.int (1 : Int32)), .val (.int (1 : Int32)), .val (.int (1 : Int32))] []))
    refine own_go (fun _ ww => XS.iloadN X45.here hx rfl (hb hby at_56) rfl  ww) ?_
    show own_Goes _ _ _ _ _ _ _ (T45.setTop (mkF m 57 #[.val (.int x0), .val (.int (3 : Int32)), .val (.ref k3), .val (.int (1 : Int32)), .val (.int (1 : Int32)), .val (.int (1 : Int32))] [(.int (1 : Int32))]))
    refine own_go (fun _ ww => XS.iload X45.here hx rfl (hb hby at_57) rfl  ww) ?_
    show own_Goes _ _ _ _ _ _ _ (T45.setTop (mkF m 59 #[.val (.int x0), .val (.int (3 : Int32)), .val (.ref k3), .val (.int (1 : Int32)), .val (.int (1 : Int32)), .val (.int (1 : Int32))] [(.int (1 : Int32)), (.int (1 : Int32))]))
    refine own_go (fun _ ww => XS.icmpNo X45.here hx rfl (hb hby at_59) rfl (teq (by decide : (1 : Int32) = (1 : Int32))).2 ww) ?_
    show own_Goes _ _ _ _ _ _ _ (T45.setTop (mkF m 62 #[.val (.int x0), .val (.int (3 : Int32)), .val (.ref k3), .val (.int (1 : Int32)), .val (.int (1 : Int32)), .val (.int (1 : Int32))] []))
    refine own_go (fun _ ww => XS.iconst X45.here hx rfl (hb hby at_62) ww) ?_
    show own_Goes _ _ _ _ _ _ _ (T45.setTop (mkF m 63 #[.val (.int x0), .val (.int (3 : Int32)), .val (.ref k3), .val (.int (1 : Int32)), .val (.int (1 : Int32)), .val (.int (1 : Int32))] [(.int (1 : Int32))]))
    refine own_go (fun _ ww => XS.goto X45.here hx rfl (pc0 := 63) (pc' := 67) rfl (hb hby at_63) (by decide) (by decide) ww) ?_
    show own_Goes _ _ _ _ _ _ _ (T45.setTop (mkF m 67 #[.val (.int x0), .val (.int (3 : Int32)), .val (.ref k3), .val (.int (1 : Int32)), .val (.int (1 : Int32)), .val (.int (1 : Int32))] [(.int (1 : Int32))]))
    exact own_out X45 hlk (v := some (.int (1 : Int32))) (fun h => by rw [hret] at h; cases h) (fun fs hr => retOut X45 hx (t := .boolean) hret (by decide) (Or.inl ⟨rfl, by simp, _, rfl⟩) (hb hby at_67) hr) e45 ⟨rfl, N45⟩ (by decide) (by decide)
  ·
    rw [hk]
    show own_Goes _ _ _ _ _ _ _ (s₁.setTop (mkF m 7 #[.val (.int x0), .unset, .unset, .unset, .unset, .unset] [(.int (4 : Int32))]))
    refine own_go (fun _ ww => XS.istoreN X0.here hx rfl (hb hby at_7) rfl (l' := #[.val (.int x0), .val (.int (4 : Int32)), .unset, .unset, .unset, .unset]) rfl ww) ?_
    show own_Goes _ _ _ _ _ _ _ (s₁.setTop (mkF m 8 #[.val (.int x0), .val (.int (4 : Int32)), .unset, .unset, .unset, .unset] []))
    refine own_go (fun _ ww => XS.iloadN X0.here hx rfl (hb hby at_8) rfl  ww) ?_
    show own_Goes _ _ _ _ _ _ _ (s₁.setTop (mkF m 9 #[.val (.int x0), .val (.int (4 : Int32)), .unset, .unset, .unset, .unset] [(.int (4 : Int32))]))
    obtain ⟨_, _, ⟨T46, L46, k46, n46⟩, -, X46, ⟨Lc46, hQ46, l46, y46, z46⟩, st46⟩ := Jvm.LawKit.callS X0 hx (y := (⟨"com/example/esfahan/esfahan/model/ComparisonIsOrderingPinLaw", "pick", "(I)Lcom/example/esfahan/esfahan/model/Comparison;"⟩ : MethodName)) hown (mvT hZ (hw _ (List.mem_of_getElem? (i := 1) rfl))) (mvT hZ (hw _ (List.mem_of_getElem? (i := 2) rfl))) (mvT hZ (hw _ (List.mem_of_getElem? (i := 3) rfl))) (mvT hZ (hw _ (List.mem_of_getElem? (i := 4) rfl))) (by decide) (backOf (W := 0) (rm_pick4 l Z a0 hw [] k4 h0 n0 O0 Sk4) hZ (hw _ (List.mem_of_getElem? (i := 4) rfl)) (hw _ (List.mem_of_getElem? (i := 3) rfl)) (by decide) (by decide)) (g := (mkF m 9 #[.val (.int x0), .val (.int (4 : Int32)), .unset, .unset, .unset, .unset] [(.int (4 : Int32))])) rfl (by rw [hml]; rfl) (argsL := [(.int (4 : Int32))]) (rest := []) (lenOf pd_1 rfl) rfl (by show 2 * 0 + _ ≤ _; exact Nat.le_of_eq rfl) (hb hby at_9) (fun _ _ => ⟨rfl, e0, (by decide : 0 + 0 ≤ _), (by decide : 0 + 0 ≤ _)⟩)
    dsimp only [Pt.U, Pt.locs, Pt.cells, Pt.slots] at X46 l46 y46 z46 st46 hQ46
    subst l46 y46 z46
    obtain ⟨rfl, N46q, e46⟩ := hQ46
    have N46 := Fr.app N0 N46q
    refine own_go st46 ?_
    show own_Goes _ _ _ _ _ _ _ (T46.setTop (mkF m 12 #[.val (.int x0), .val (.int (4 : Int32)), .unset, .unset, .unset, .unset] [(.ref k4)]))
    refine own_go (fun _ ww => XS.astoreN X46.here hx rfl (hb hby at_12) rfl rfl (l' := #[.val (.int x0), .val (.int (4 : Int32)), .val (.ref k4), .unset, .unset, .unset]) rfl ww) ?_
    show own_Goes _ _ _ _ _ _ _ (T46.setTop (mkF m 13 #[.val (.int x0), .val (.int (4 : Int32)), .val (.ref k4), .unset, .unset, .unset] []))
    refine own_go (fun _ ww => XS.aloadN X46.here hx rfl (hb hby at_13) rfl rfl ww) ?_
    show own_Goes _ _ _ _ _ _ _ (T46.setTop (mkF m 14 #[.val (.int x0), .val (.int (4 : Int32)), .val (.ref k4), .unset, .unset, .unset] [(.ref k4)]))
    obtain ⟨cq47, kq47, q47a, q47b, q47c⟩ := isOf hZ e46 (Ek4.ext O0.2)
    obtain ⟨_, _, ⟨T47, L47, k47, n47⟩, -, X47, ⟨Lc47, hQ47, l47, y47, z47⟩, st47⟩ := X46.virtualBack hx (y := (⟨"com/example/esfahan/esfahan/model/Comparison", "isOrdering", "()Z"⟩ : MethodName)) (z := (⟨"com/example/esfahan/esfahan/model/Comparison", "isOrdering", "()Z"⟩ : MethodName)) hown (mvT hZ (hw _ (List.mem_of_getElem? (i := 8) rfl))) (mvT hZ (hw _ (List.mem_of_getElem? (i := 9) rfl))) (notFace_of_selects (args := #[]) (mvT hZ (hw _ (List.mem_of_getElem? (i := 11) rfl)))) (mvT hZ (hw _ (List.mem_of_getElem? (i := 11) rfl))) (mvT hZ (hw _ (List.mem_of_getElem? (i := 10) rfl))) (by decide) (backOf (W := 0) (rm_iso2 l Z a0 hw [] k0 k1 k4 h0 n0 O0 Sk0 Sk1 (Fld.ne Fk4 Fk0 (own_vne (by decide))) (Fld.ne Fk4 Fk1 (own_vne (by decide)))) hZ (hw _ (List.mem_of_getElem? (i := 12) rfl)) (hw _ (List.mem_of_getElem? (i := 6) rfl)) (by decide) (by decide)) q47a q47c (g := (mkF m 14 #[.val (.int x0), .val (.int (4 : Int32)), .val (.ref k4), .unset, .unset, .unset] [(.ref k4)])) rfl (by rw [hml]; rfl) (Steps.refl _) (argsL := []) (rest := []) (lenOf pd_2 rfl) rfl (by show 2 * 0 + _ ≤ _; exact Nat.le_of_eq rfl) (hb hby at_14) (fun _ _ => ⟨rfl, e46, (by decide : 0 + 0 ≤ _), (by decide : 0 + 0 ≤ _)⟩)
    dsimp only [Pt.U, Pt.locs, Pt.cells, Pt.slots] at X47 l47 y47 z47 st47 hQ47
    subst l47 y47 z47
    obtain ⟨rfl, N47q, e47⟩ := hQ47
    have N47 := Fr.app N46 N47q
    refine own_go (fun _ ww => Steps.trans st47 ww) ?_
    show own_Goes _ _ _ _ _ _ _ (T47.setTop (mkF m 17 #[.val (.int x0), .val (.int (4 : Int32)), .val (.ref k4), .unset, .unset, .unset] [(.int (1 : Int32))]))
    refine own_go (fun _ ww => XS.istoreN X47.here hx rfl (hb hby at_17) rfl (l' := #[.val (.int x0), .val (.int (4 : Int32)), .val (.ref k4), .val (.int (1 : Int32)), .unset, .unset]) rfl ww) ?_
    show own_Goes _ _ _ _ _ _ _ (T47.setTop (mkF m 18 #[.val (.int x0), .val (.int (4 : Int32)), .val (.ref k4), .val (.int (1 : Int32)), .unset, .unset] []))
    refine own_go (fun _ ww => XS.iloadN X47.here hx rfl (hb hby at_18) rfl  ww) ?_
    show own_Goes _ _ _ _ _ _ _ (T47.setTop (mkF m 19 #[.val (.int x0), .val (.int (4 : Int32)), .val (.ref k4), .val (.int (1 : Int32)), .unset, .unset] [(.int (4 : Int32))]))
    refine own_go (fun _ ww => XS.iconst X47.here hx rfl (hb hby at_19) ww) ?_
    show own_Goes _ _ _ _ _ _ _ (T47.setTop (mkF m 20 #[.val (.int x0), .val (.int (4 : Int32)), .val (.ref k4), .val (.int (1 : Int32)), .unset, .unset] [(.int (2 : Int32)), (.int (4 : Int32))]))
    refine own_go (fun _ ww => XS.icmpNo X47.here hx rfl (hb hby at_20) rfl (flt (by decide : ¬ ((4 : Int32) < (2 : Int32)))).1 ww) ?_
    show own_Goes _ _ _ _ _ _ _ (T47.setTop (mkF m 23 #[.val (.int x0), .val (.int (4 : Int32)), .val (.ref k4), .val (.int (1 : Int32)), .unset, .unset] []))
    refine own_go (fun _ ww => XS.iconst X47.here hx rfl (hb hby at_23) ww) ?_
    show own_Goes _ _ _ _ _ _ _ (T47.setTop (mkF m 24 #[.val (.int x0), .val (.int (4 : Int32)), .val (.ref k4), .val (.int (1 : Int32)), .unset, .unset] [(.int (1 : Int32))]))
    refine own_go (fun _ ww => XS.goto X47.here hx rfl (pc0 := 24) (pc' := 28) rfl (hb hby at_24) (by decide) (by decide) ww) ?_
    show own_Goes _ _ _ _ _ _ _ (T47.setTop (mkF m 28 #[.val (.int x0), .val (.int (4 : Int32)), .val (.ref k4), .val (.int (1 : Int32)), .unset, .unset] [(.int (1 : Int32))]))
    refine own_go (fun _ ww => XS.istore X47.here hx rfl (hb hby at_28) rfl (l' := #[.val (.int x0), .val (.int (4 : Int32)), .val (.ref k4), .val (.int (1 : Int32)), .val (.int (1 : Int32)), .unset]) rfl ww) ?_
    show own_Goes _ _ _ _ _ _ _ (T47.setTop (mkF m 30 #[.val (.int x0), .val (.int (4 : Int32)), .val (.ref k4), .val (.int (1 : Int32)), .val (.int (1 : Int32)), .unset] []))
    refine own_go (fun _ ww => XS.aloadN X47.here hx rfl (hb hby at_30) rfl rfl ww) ?_
    show own_Goes _ _ _ _ _ _ _ (T47.setTop (mkF m 31 #[.val (.int x0), .val (.int (4 : Int32)), .val (.ref k4), .val (.int (1 : Int32)), .val (.int (1 : Int32)), .unset] [(.ref k4)]))
    refine own_go (fun _ ww => XS.iconst X47.here hx rfl (hb hby at_31) ww) ?_
    show own_Goes _ _ _ _ _ _ _ (T47.setTop (mkF m 32 #[.val (.int x0), .val (.int (4 : Int32)), .val (.ref k4), .val (.int (1 : Int32)), .val (.int (1 : Int32)), .unset] [(.int (1 : Int32)), (.ref k4)]))
    obtain ⟨cq48, kq48, q48a, q48b, q48c⟩ := isOf hZ e47 (Ek4.ext O0.2)
    obtain ⟨_, _, ⟨T48, L48, k48, n48⟩, -, X48, ⟨Lc48, hQ48, l48, y48, z48⟩, st48⟩ := X47.virtualBack hx (y := (⟨"com/example/esfahan/esfahan/model/Comparison", "holdsForSign", "(I)Z"⟩ : MethodName)) (z := (⟨"com/example/esfahan/esfahan/model/Comparison", "holdsForSign", "(I)Z"⟩ : MethodName)) hown (mvT hZ (hw _ (List.mem_of_getElem? (i := 14) rfl))) (mvT hZ (hw _ (List.mem_of_getElem? (i := 15) rfl))) (notFace_of_selects (args := #[]) (mvT hZ (hw _ (List.mem_of_getElem? (i := 17) rfl)))) (mvT hZ (hw _ (List.mem_of_getElem? (i := 17) rfl))) (mvT hZ (hw _ (List.mem_of_getElem? (i := 16) rfl))) (by decide) (backOf (W := 0) (rm_hold4 l Z a0 hw [] k4 (1 : Int32) (1 : Int32) h0 n0 O0 (Fk4.ext O0.2) (Ek4.ext O0.2) (by decide) (by decide)) hZ (hw _ (List.mem_of_getElem? (i := 18) rfl)) (hw _ (List.mem_of_getElem? (i := 6) rfl)) (by decide) (by decide)) q48a q48c (g := (mkF m 32 #[.val (.int x0), .val (.int (4 : Int32)), .val (.ref k4), .val (.int (1 : Int32)), .val (.int (1 : Int32)), .unset] [(.int (1 : Int32)), (.ref k4)])) rfl (by rw [hml]; rfl) (Steps.refl _) (argsL := [(.int (1 : Int32))]) (rest := []) (lenOf pd_3 rfl) rfl (by show 2 * 0 + _ ≤ _; exact Nat.le_of_eq rfl) (hb hby at_32) (fun _ _ => ⟨rfl, e47, (by decide : 0 + 0 ≤ _), (by decide : 0 + 0 ≤ _)⟩)
    dsimp only [Pt.U, Pt.locs, Pt.cells, Pt.slots] at X48 l48 y48 z48 st48 hQ48
    subst l48 y48 z48
    obtain ⟨rfl, N48q, e48⟩ := hQ48
    have N48 := Fr.app N47 N48q
    refine own_go (fun _ ww => Steps.trans st48 ww) ?_
    show own_Goes _ _ _ _ _ _ _ (T48.setTop (mkF m 35 #[.val (.int x0), .val (.int (4 : Int32)), .val (.ref k4), .val (.int (1 : Int32)), .val (.int (1 : Int32)), .unset] [(.int (1 : Int32))]))
    refine own_go (fun _ ww => XS.aloadN X48.here hx rfl (hb hby at_35) rfl rfl ww) ?_
    show own_Goes _ _ _ _ _ _ _ (T48.setTop (mkF m 36 #[.val (.int x0), .val (.int (4 : Int32)), .val (.ref k4), .val (.int (1 : Int32)), .val (.int (1 : Int32)), .unset] [(.ref k4), (.int (1 : Int32))]))
    refine own_go (fun _ ww => XS.iconst X48.here hx rfl (hb hby at_36) ww) ?_
    show own_Goes _ _ _ _ _ _ _ (T48.setTop (mkF m 37 #[.val (.int x0), .val (.int (4 : Int32)), .val (.ref k4), .val (.int (1 : Int32)), .val (.int (1 : Int32)), .unset] [(.int (-1 : Int32)), (.ref k4), (.int (1 : Int32))]))
    obtain ⟨cq49, kq49, q49a, q49b, q49c⟩ := isOf hZ e48 (Ek4.ext O0.2)
    obtain ⟨_, _, ⟨T49, L49, k49, n49⟩, -, X49, ⟨Lc49, hQ49, l49, y49, z49⟩, st49⟩ := X48.virtualBack hx (y := (⟨"com/example/esfahan/esfahan/model/Comparison", "holdsForSign", "(I)Z"⟩ : MethodName)) (z := (⟨"com/example/esfahan/esfahan/model/Comparison", "holdsForSign", "(I)Z"⟩ : MethodName)) hown (mvT hZ (hw _ (List.mem_of_getElem? (i := 14) rfl))) (mvT hZ (hw _ (List.mem_of_getElem? (i := 15) rfl))) (notFace_of_selects (args := #[]) (mvT hZ (hw _ (List.mem_of_getElem? (i := 17) rfl)))) (mvT hZ (hw _ (List.mem_of_getElem? (i := 17) rfl))) (mvT hZ (hw _ (List.mem_of_getElem? (i := 16) rfl))) (by decide) (backOf (W := 1) (rm_hold4 l Z a0 hw [] k4 (-1 : Int32) (0 : Int32) h0 n0 O0 (Fk4.ext O0.2) (Ek4.ext O0.2) (by decide) (by decide)) hZ (hw _ (List.mem_of_getElem? (i := 18) rfl)) (hw _ (List.mem_of_getElem? (i := 6) rfl)) (by decide) (by decide)) q49a q49c (g := (mkF m 37 #[.val (.int x0), .val (.int (4 : Int32)), .val (.ref k4), .val (.int (1 : Int32)), .val (.int (1 : Int32)), .unset] [(.int (-1 : Int32)), (.ref k4), (.int (1 : Int32))])) rfl (by rw [hml]; rfl) (Steps.refl _) (argsL := [(.int (-1 : Int32))]) (rest := [(.int (1 : Int32))]) (lenOf pd_3 rfl) rfl (by show 2 * 0 + _ ≤ _; exact Nat.le_of_eq rfl) (hb hby at_37) (fun _ _ => ⟨rfl, e48, (by decide : 0 + 0 ≤ _), (by decide : 0 + 0 ≤ _)⟩)
    dsimp only [Pt.U, Pt.locs, Pt.cells, Pt.slots] at X49 l49 y49 z49 st49 hQ49
    subst l49 y49 z49
    obtain ⟨rfl, N49q, e49⟩ := hQ49
    have N49 := Fr.app N48 N49q
    refine own_go (fun _ ww => Steps.trans st49 ww) ?_
    show own_Goes _ _ _ _ _ _ _ (T49.setTop (mkF m 40 #[.val (.int x0), .val (.int (4 : Int32)), .val (.ref k4), .val (.int (1 : Int32)), .val (.int (1 : Int32)), .unset] [(.int (0 : Int32)), (.int (1 : Int32))]))
    refine own_go (fun _ ww => XS.icmpNo X49.here hx rfl (hb hby at_40) rfl (feq (by decide : ¬ ((1 : Int32) = (0 : Int32)))).1 ww) ?_
    show own_Goes _ _ _ _ _ _ _ (T49.setTop (mkF m 43 #[.val (.int x0), .val (.int (4 : Int32)), .val (.ref k4), .val (.int (1 : Int32)), .val (.int (1 : Int32)), .unset] []))
    refine own_go (fun _ ww => XS.iconst X49.here hx rfl (hb hby at_43) ww) ?_
    show own_Goes _ _ _ _ _ _ _ (T49.setTop (mkF m 44 #[.val (.int x0), .val (.int (4 : Int32)), .val (.ref k4), .val (.int (1 : Int32)), .val (.int (1 : Int32)), .unset] [(.int (1 : Int32))]))
    refine own_go (fun _ ww => XS.goto X49.here hx rfl (pc0 := 44) (pc' := 48) rfl (hb hby at_44) (by decide) (by decide) ww) ?_
    show own_Goes _ _ _ _ _ _ _ (T49.setTop (mkF m 48 #[.val (.int x0), .val (.int (4 : Int32)), .val (.ref k4), .val (.int (1 : Int32)), .val (.int (1 : Int32)), .unset] [(.int (1 : Int32))]))
    refine own_go (fun _ ww => XS.istore X49.here hx rfl (hb hby at_48) rfl (l' := #[.val (.int x0), .val (.int (4 : Int32)), .val (.ref k4), .val (.int (1 : Int32)), .val (.int (1 : Int32)), .val (.int (1 : Int32))]) rfl ww) ?_
    show own_Goes _ _ _ _ _ _ _ (T49.setTop (mkF m 50 #[.val (.int x0), .val (.int (4 : Int32)), .val (.ref k4), .val (.int (1 : Int32)), .val (.int (1 : Int32)), .val (.int (1 : Int32))] []))
    refine own_go (fun _ ww => XS.iloadN X49.here hx rfl (hb hby at_50) rfl  ww) ?_
    show own_Goes _ _ _ _ _ _ _ (T49.setTop (mkF m 51 #[.val (.int x0), .val (.int (4 : Int32)), .val (.ref k4), .val (.int (1 : Int32)), .val (.int (1 : Int32)), .val (.int (1 : Int32))] [(.int (1 : Int32))]))
    refine own_go (fun _ ww => XS.iload X49.here hx rfl (hb hby at_51) rfl  ww) ?_
    show own_Goes _ _ _ _ _ _ _ (T49.setTop (mkF m 53 #[.val (.int x0), .val (.int (4 : Int32)), .val (.ref k4), .val (.int (1 : Int32)), .val (.int (1 : Int32)), .val (.int (1 : Int32))] [(.int (1 : Int32)), (.int (1 : Int32))]))
    refine own_go (fun _ ww => XS.icmpNo X49.here hx rfl (hb hby at_53) rfl (teq (by decide : (1 : Int32) = (1 : Int32))).2 ww) ?_
    show own_Goes _ _ _ _ _ _ _ (T49.setTop (mkF m 56 #[.val (.int x0), .val (.int (4 : Int32)), .val (.ref k4), .val (.int (1 : Int32)), .val (.int (1 : Int32)), .val (.int (1 : Int32))] []))
    refine own_go (fun _ ww => XS.iloadN X49.here hx rfl (hb hby at_56) rfl  ww) ?_
    show own_Goes _ _ _ _ _ _ _ (T49.setTop (mkF m 57 #[.val (.int x0), .val (.int (4 : Int32)), .val (.ref k4), .val (.int (1 : Int32)), .val (.int (1 : Int32)), .val (.int (1 : Int32))] [(.int (1 : Int32))]))
    refine own_go (fun _ ww => XS.iload X49.here hx rfl (hb hby at_57) rfl  ww) ?_
    show own_Goes _ _ _ _ _ _ _ (T49.setTop (mkF m 59 #[.val (.int x0), .val (.int (4 : Int32)), .val (.ref k4), .val (.int (1 : Int32)), .val (.int (1 : Int32)), .val (.int (1 : Int32))] [(.int (1 : Int32)), (.int (1 : Int32))]))
    refine own_go (fun _ ww => XS.icmpNo X49.here hx rfl (hb hby at_59) rfl (teq (by decide : (1 : Int32) = (1 : Int32))).2 ww) ?_
    show own_Goes _ _ _ _ _ _ _ (T49.setTop (mkF m 62 #[.val (.int x0), .val (.int (4 : Int32)), .val (.ref k4), .val (.int (1 : Int32)), .val (.int (1 : Int32)), .val (.int (1 : Int32))] []))
    refine own_go (fun _ ww => XS.iconst X49.here hx rfl (hb hby at_62) ww) ?_
    show own_Goes _ _ _ _ _ _ _ (T49.setTop (mkF m 63 #[.val (.int x0), .val (.int (4 : Int32)), .val (.ref k4), .val (.int (1 : Int32)), .val (.int (1 : Int32)), .val (.int (1 : Int32))] [(.int (1 : Int32))]))
    refine own_go (fun _ ww => XS.goto X49.here hx rfl (pc0 := 63) (pc' := 67) rfl (hb hby at_63) (by decide) (by decide) ww) ?_
    show own_Goes _ _ _ _ _ _ _ (T49.setTop (mkF m 67 #[.val (.int x0), .val (.int (4 : Int32)), .val (.ref k4), .val (.int (1 : Int32)), .val (.int (1 : Int32)), .val (.int (1 : Int32))] [(.int (1 : Int32))]))
    exact own_out X49 hlk (v := some (.int (1 : Int32))) (fun h => by rw [hret] at h; cases h) (fun fs hr => retOut X49 hx (t := .boolean) hret (by decide) (Or.inl ⟨rfl, by simp, _, rfl⟩) (hb hby at_67) hr) e49 ⟨rfl, N49⟩ (by decide) (by decide)
  ·
    rw [hk]
    show own_Goes _ _ _ _ _ _ _ (s₁.setTop (mkF m 7 #[.val (.int x0), .unset, .unset, .unset, .unset, .unset] [(.int (5 : Int32))]))
    refine own_go (fun _ ww => XS.istoreN X0.here hx rfl (hb hby at_7) rfl (l' := #[.val (.int x0), .val (.int (5 : Int32)), .unset, .unset, .unset, .unset]) rfl ww) ?_
    show own_Goes _ _ _ _ _ _ _ (s₁.setTop (mkF m 8 #[.val (.int x0), .val (.int (5 : Int32)), .unset, .unset, .unset, .unset] []))
    refine own_go (fun _ ww => XS.iloadN X0.here hx rfl (hb hby at_8) rfl  ww) ?_
    show own_Goes _ _ _ _ _ _ _ (s₁.setTop (mkF m 9 #[.val (.int x0), .val (.int (5 : Int32)), .unset, .unset, .unset, .unset] [(.int (5 : Int32))]))
    obtain ⟨_, _, ⟨T50, L50, k50, n50⟩, -, X50, ⟨Lc50, hQ50, l50, y50, z50⟩, st50⟩ := Jvm.LawKit.callS X0 hx (y := (⟨"com/example/esfahan/esfahan/model/ComparisonIsOrderingPinLaw", "pick", "(I)Lcom/example/esfahan/esfahan/model/Comparison;"⟩ : MethodName)) hown (mvT hZ (hw _ (List.mem_of_getElem? (i := 1) rfl))) (mvT hZ (hw _ (List.mem_of_getElem? (i := 2) rfl))) (mvT hZ (hw _ (List.mem_of_getElem? (i := 3) rfl))) (mvT hZ (hw _ (List.mem_of_getElem? (i := 4) rfl))) (by decide) (backOf (W := 0) (rm_pick5 l Z a0 hw [] k5 h0 n0 O0 Sk5) hZ (hw _ (List.mem_of_getElem? (i := 4) rfl)) (hw _ (List.mem_of_getElem? (i := 3) rfl)) (by decide) (by decide)) (g := (mkF m 9 #[.val (.int x0), .val (.int (5 : Int32)), .unset, .unset, .unset, .unset] [(.int (5 : Int32))])) rfl (by rw [hml]; rfl) (argsL := [(.int (5 : Int32))]) (rest := []) (lenOf pd_1 rfl) rfl (by show 2 * 0 + _ ≤ _; exact Nat.le_of_eq rfl) (hb hby at_9) (fun _ _ => ⟨rfl, e0, (by decide : 0 + 0 ≤ _), (by decide : 0 + 0 ≤ _)⟩)
    dsimp only [Pt.U, Pt.locs, Pt.cells, Pt.slots] at X50 l50 y50 z50 st50 hQ50
    subst l50 y50 z50
    obtain ⟨rfl, N50q, e50⟩ := hQ50
    have N50 := Fr.app N0 N50q
    refine own_go st50 ?_
    show own_Goes _ _ _ _ _ _ _ (T50.setTop (mkF m 12 #[.val (.int x0), .val (.int (5 : Int32)), .unset, .unset, .unset, .unset] [(.ref k5)]))
    refine own_go (fun _ ww => XS.astoreN X50.here hx rfl (hb hby at_12) rfl rfl (l' := #[.val (.int x0), .val (.int (5 : Int32)), .val (.ref k5), .unset, .unset, .unset]) rfl ww) ?_
    show own_Goes _ _ _ _ _ _ _ (T50.setTop (mkF m 13 #[.val (.int x0), .val (.int (5 : Int32)), .val (.ref k5), .unset, .unset, .unset] []))
    refine own_go (fun _ ww => XS.aloadN X50.here hx rfl (hb hby at_13) rfl rfl ww) ?_
    show own_Goes _ _ _ _ _ _ _ (T50.setTop (mkF m 14 #[.val (.int x0), .val (.int (5 : Int32)), .val (.ref k5), .unset, .unset, .unset] [(.ref k5)]))
    obtain ⟨cq51, kq51, q51a, q51b, q51c⟩ := isOf hZ e50 (Ek5.ext O0.2)
    obtain ⟨_, _, ⟨T51, L51, k51, n51⟩, -, X51, ⟨Lc51, hQ51, l51, y51, z51⟩, st51⟩ := X50.virtualBack hx (y := (⟨"com/example/esfahan/esfahan/model/Comparison", "isOrdering", "()Z"⟩ : MethodName)) (z := (⟨"com/example/esfahan/esfahan/model/Comparison", "isOrdering", "()Z"⟩ : MethodName)) hown (mvT hZ (hw _ (List.mem_of_getElem? (i := 8) rfl))) (mvT hZ (hw _ (List.mem_of_getElem? (i := 9) rfl))) (notFace_of_selects (args := #[]) (mvT hZ (hw _ (List.mem_of_getElem? (i := 11) rfl)))) (mvT hZ (hw _ (List.mem_of_getElem? (i := 11) rfl))) (mvT hZ (hw _ (List.mem_of_getElem? (i := 10) rfl))) (by decide) (backOf (W := 0) (rm_iso2 l Z a0 hw [] k0 k1 k5 h0 n0 O0 Sk0 Sk1 (Fld.ne Fk5 Fk0 (own_vne (by decide))) (Fld.ne Fk5 Fk1 (own_vne (by decide)))) hZ (hw _ (List.mem_of_getElem? (i := 12) rfl)) (hw _ (List.mem_of_getElem? (i := 6) rfl)) (by decide) (by decide)) q51a q51c (g := (mkF m 14 #[.val (.int x0), .val (.int (5 : Int32)), .val (.ref k5), .unset, .unset, .unset] [(.ref k5)])) rfl (by rw [hml]; rfl) (Steps.refl _) (argsL := []) (rest := []) (lenOf pd_2 rfl) rfl (by show 2 * 0 + _ ≤ _; exact Nat.le_of_eq rfl) (hb hby at_14) (fun _ _ => ⟨rfl, e50, (by decide : 0 + 0 ≤ _), (by decide : 0 + 0 ≤ _)⟩)
    dsimp only [Pt.U, Pt.locs, Pt.cells, Pt.slots] at X51 l51 y51 z51 st51 hQ51
    subst l51 y51 z51
    obtain ⟨rfl, N51q, e51⟩ := hQ51
    have N51 := Fr.app N50 N51q
    refine own_go (fun _ ww => Steps.trans st51 ww) ?_
    show own_Goes _ _ _ _ _ _ _ (T51.setTop (mkF m 17 #[.val (.int x0), .val (.int (5 : Int32)), .val (.ref k5), .unset, .unset, .unset] [(.int (1 : Int32))]))
    refine own_go (fun _ ww => XS.istoreN X51.here hx rfl (hb hby at_17) rfl (l' := #[.val (.int x0), .val (.int (5 : Int32)), .val (.ref k5), .val (.int (1 : Int32)), .unset, .unset]) rfl ww) ?_
    show own_Goes _ _ _ _ _ _ _ (T51.setTop (mkF m 18 #[.val (.int x0), .val (.int (5 : Int32)), .val (.ref k5), .val (.int (1 : Int32)), .unset, .unset] []))
    refine own_go (fun _ ww => XS.iloadN X51.here hx rfl (hb hby at_18) rfl  ww) ?_
    show own_Goes _ _ _ _ _ _ _ (T51.setTop (mkF m 19 #[.val (.int x0), .val (.int (5 : Int32)), .val (.ref k5), .val (.int (1 : Int32)), .unset, .unset] [(.int (5 : Int32))]))
    refine own_go (fun _ ww => XS.iconst X51.here hx rfl (hb hby at_19) ww) ?_
    show own_Goes _ _ _ _ _ _ _ (T51.setTop (mkF m 20 #[.val (.int x0), .val (.int (5 : Int32)), .val (.ref k5), .val (.int (1 : Int32)), .unset, .unset] [(.int (2 : Int32)), (.int (5 : Int32))]))
    refine own_go (fun _ ww => XS.icmpNo X51.here hx rfl (hb hby at_20) rfl (flt (by decide : ¬ ((5 : Int32) < (2 : Int32)))).1 ww) ?_
    show own_Goes _ _ _ _ _ _ _ (T51.setTop (mkF m 23 #[.val (.int x0), .val (.int (5 : Int32)), .val (.ref k5), .val (.int (1 : Int32)), .unset, .unset] []))
    refine own_go (fun _ ww => XS.iconst X51.here hx rfl (hb hby at_23) ww) ?_
    show own_Goes _ _ _ _ _ _ _ (T51.setTop (mkF m 24 #[.val (.int x0), .val (.int (5 : Int32)), .val (.ref k5), .val (.int (1 : Int32)), .unset, .unset] [(.int (1 : Int32))]))
    refine own_go (fun _ ww => XS.goto X51.here hx rfl (pc0 := 24) (pc' := 28) rfl (hb hby at_24) (by decide) (by decide) ww) ?_
    show own_Goes _ _ _ _ _ _ _ (T51.setTop (mkF m 28 #[.val (.int x0), .val (.int (5 : Int32)), .val (.ref k5), .val (.int (1 : Int32)), .unset, .unset] [(.int (1 : Int32))]))
    refine own_go (fun _ ww => XS.istore X51.here hx rfl (hb hby at_28) rfl (l' := #[.val (.int x0), .val (.int (5 : Int32)), .val (.ref k5), .val (.int (1 : Int32)), .val (.int (1 : Int32)), .unset]) rfl ww) ?_
    show own_Goes _ _ _ _ _ _ _ (T51.setTop (mkF m 30 #[.val (.int x0), .val (.int (5 : Int32)), .val (.ref k5), .val (.int (1 : Int32)), .val (.int (1 : Int32)), .unset] []))
    refine own_go (fun _ ww => XS.aloadN X51.here hx rfl (hb hby at_30) rfl rfl ww) ?_
    show own_Goes _ _ _ _ _ _ _ (T51.setTop (mkF m 31 #[.val (.int x0), .val (.int (5 : Int32)), .val (.ref k5), .val (.int (1 : Int32)), .val (.int (1 : Int32)), .unset] [(.ref k5)]))
    refine own_go (fun _ ww => XS.iconst X51.here hx rfl (hb hby at_31) ww) ?_
    show own_Goes _ _ _ _ _ _ _ (T51.setTop (mkF m 32 #[.val (.int x0), .val (.int (5 : Int32)), .val (.ref k5), .val (.int (1 : Int32)), .val (.int (1 : Int32)), .unset] [(.int (1 : Int32)), (.ref k5)]))
    obtain ⟨cq52, kq52, q52a, q52b, q52c⟩ := isOf hZ e51 (Ek5.ext O0.2)
    obtain ⟨_, _, ⟨T52, L52, k52, n52⟩, -, X52, ⟨Lc52, hQ52, l52, y52, z52⟩, st52⟩ := X51.virtualBack hx (y := (⟨"com/example/esfahan/esfahan/model/Comparison", "holdsForSign", "(I)Z"⟩ : MethodName)) (z := (⟨"com/example/esfahan/esfahan/model/Comparison", "holdsForSign", "(I)Z"⟩ : MethodName)) hown (mvT hZ (hw _ (List.mem_of_getElem? (i := 14) rfl))) (mvT hZ (hw _ (List.mem_of_getElem? (i := 15) rfl))) (notFace_of_selects (args := #[]) (mvT hZ (hw _ (List.mem_of_getElem? (i := 17) rfl)))) (mvT hZ (hw _ (List.mem_of_getElem? (i := 17) rfl))) (mvT hZ (hw _ (List.mem_of_getElem? (i := 16) rfl))) (by decide) (backOf (W := 0) (rm_hold5 l Z a0 hw [] k5 (1 : Int32) (1 : Int32) h0 n0 O0 (Fk5.ext O0.2) (Ek5.ext O0.2) (by decide) (by decide)) hZ (hw _ (List.mem_of_getElem? (i := 18) rfl)) (hw _ (List.mem_of_getElem? (i := 6) rfl)) (by decide) (by decide)) q52a q52c (g := (mkF m 32 #[.val (.int x0), .val (.int (5 : Int32)), .val (.ref k5), .val (.int (1 : Int32)), .val (.int (1 : Int32)), .unset] [(.int (1 : Int32)), (.ref k5)])) rfl (by rw [hml]; rfl) (Steps.refl _) (argsL := [(.int (1 : Int32))]) (rest := []) (lenOf pd_3 rfl) rfl (by show 2 * 0 + _ ≤ _; exact Nat.le_of_eq rfl) (hb hby at_32) (fun _ _ => ⟨rfl, e51, (by decide : 0 + 0 ≤ _), (by decide : 0 + 0 ≤ _)⟩)
    dsimp only [Pt.U, Pt.locs, Pt.cells, Pt.slots] at X52 l52 y52 z52 st52 hQ52
    subst l52 y52 z52
    obtain ⟨rfl, N52q, e52⟩ := hQ52
    have N52 := Fr.app N51 N52q
    refine own_go (fun _ ww => Steps.trans st52 ww) ?_
    show own_Goes _ _ _ _ _ _ _ (T52.setTop (mkF m 35 #[.val (.int x0), .val (.int (5 : Int32)), .val (.ref k5), .val (.int (1 : Int32)), .val (.int (1 : Int32)), .unset] [(.int (1 : Int32))]))
    refine own_go (fun _ ww => XS.aloadN X52.here hx rfl (hb hby at_35) rfl rfl ww) ?_
    show own_Goes _ _ _ _ _ _ _ (T52.setTop (mkF m 36 #[.val (.int x0), .val (.int (5 : Int32)), .val (.ref k5), .val (.int (1 : Int32)), .val (.int (1 : Int32)), .unset] [(.ref k5), (.int (1 : Int32))]))
    refine own_go (fun _ ww => XS.iconst X52.here hx rfl (hb hby at_36) ww) ?_
    show own_Goes _ _ _ _ _ _ _ (T52.setTop (mkF m 37 #[.val (.int x0), .val (.int (5 : Int32)), .val (.ref k5), .val (.int (1 : Int32)), .val (.int (1 : Int32)), .unset] [(.int (-1 : Int32)), (.ref k5), (.int (1 : Int32))]))
    obtain ⟨cq53, kq53, q53a, q53b, q53c⟩ := isOf hZ e52 (Ek5.ext O0.2)
    obtain ⟨_, _, ⟨T53, L53, k53, n53⟩, -, X53, ⟨Lc53, hQ53, l53, y53, z53⟩, st53⟩ := X52.virtualBack hx (y := (⟨"com/example/esfahan/esfahan/model/Comparison", "holdsForSign", "(I)Z"⟩ : MethodName)) (z := (⟨"com/example/esfahan/esfahan/model/Comparison", "holdsForSign", "(I)Z"⟩ : MethodName)) hown (mvT hZ (hw _ (List.mem_of_getElem? (i := 14) rfl))) (mvT hZ (hw _ (List.mem_of_getElem? (i := 15) rfl))) (notFace_of_selects (args := #[]) (mvT hZ (hw _ (List.mem_of_getElem? (i := 17) rfl)))) (mvT hZ (hw _ (List.mem_of_getElem? (i := 17) rfl))) (mvT hZ (hw _ (List.mem_of_getElem? (i := 16) rfl))) (by decide) (backOf (W := 1) (rm_hold5 l Z a0 hw [] k5 (-1 : Int32) (0 : Int32) h0 n0 O0 (Fk5.ext O0.2) (Ek5.ext O0.2) (by decide) (by decide)) hZ (hw _ (List.mem_of_getElem? (i := 18) rfl)) (hw _ (List.mem_of_getElem? (i := 6) rfl)) (by decide) (by decide)) q53a q53c (g := (mkF m 37 #[.val (.int x0), .val (.int (5 : Int32)), .val (.ref k5), .val (.int (1 : Int32)), .val (.int (1 : Int32)), .unset] [(.int (-1 : Int32)), (.ref k5), (.int (1 : Int32))])) rfl (by rw [hml]; rfl) (Steps.refl _) (argsL := [(.int (-1 : Int32))]) (rest := [(.int (1 : Int32))]) (lenOf pd_3 rfl) rfl (by show 2 * 0 + _ ≤ _; exact Nat.le_of_eq rfl) (hb hby at_37) (fun _ _ => ⟨rfl, e52, (by decide : 0 + 0 ≤ _), (by decide : 0 + 0 ≤ _)⟩)
    dsimp only [Pt.U, Pt.locs, Pt.cells, Pt.slots] at X53 l53 y53 z53 st53 hQ53
    subst l53 y53 z53
    obtain ⟨rfl, N53q, e53⟩ := hQ53
    have N53 := Fr.app N52 N53q
    refine own_go (fun _ ww => Steps.trans st53 ww) ?_
    show own_Goes _ _ _ _ _ _ _ (T53.setTop (mkF m 40 #[.val (.int x0), .val (.int (5 : Int32)), .val (.ref k5), .val (.int (1 : Int32)), .val (.int (1 : Int32)), .unset] [(.int (0 : Int32)), (.int (1 : Int32))]))
    refine own_go (fun _ ww => XS.icmpNo X53.here hx rfl (hb hby at_40) rfl (feq (by decide : ¬ ((1 : Int32) = (0 : Int32)))).1 ww) ?_
    show own_Goes _ _ _ _ _ _ _ (T53.setTop (mkF m 43 #[.val (.int x0), .val (.int (5 : Int32)), .val (.ref k5), .val (.int (1 : Int32)), .val (.int (1 : Int32)), .unset] []))
    refine own_go (fun _ ww => XS.iconst X53.here hx rfl (hb hby at_43) ww) ?_
    show own_Goes _ _ _ _ _ _ _ (T53.setTop (mkF m 44 #[.val (.int x0), .val (.int (5 : Int32)), .val (.ref k5), .val (.int (1 : Int32)), .val (.int (1 : Int32)), .unset] [(.int (1 : Int32))]))
    refine own_go (fun _ ww => XS.goto X53.here hx rfl (pc0 := 44) (pc' := 48) rfl (hb hby at_44) (by decide) (by decide) ww) ?_
    show own_Goes _ _ _ _ _ _ _ (T53.setTop (mkF m 48 #[.val (.int x0), .val (.int (5 : Int32)), .val (.ref k5), .val (.int (1 : Int32)), .val (.int (1 : Int32)), .unset] [(.int (1 : Int32))]))
    refine own_go (fun _ ww => XS.istore X53.here hx rfl (hb hby at_48) rfl (l' := #[.val (.int x0), .val (.int (5 : Int32)), .val (.ref k5), .val (.int (1 : Int32)), .val (.int (1 : Int32)), .val (.int (1 : Int32))]) rfl ww) ?_
    show own_Goes _ _ _ _ _ _ _ (T53.setTop (mkF m 50 #[.val (.int x0), .val (.int (5 : Int32)), .val (.ref k5), .val (.int (1 : Int32)), .val (.int (1 : Int32)), .val (.int (1 : Int32))] []))
    refine own_go (fun _ ww => XS.iloadN X53.here hx rfl (hb hby at_50) rfl  ww) ?_
    show own_Goes _ _ _ _ _ _ _ (T53.setTop (mkF m 51 #[.val (.int x0), .val (.int (5 : Int32)), .val (.ref k5), .val (.int (1 : Int32)), .val (.int (1 : Int32)), .val (.int (1 : Int32))] [(.int (1 : Int32))]))
    refine own_go (fun _ ww => XS.iload X53.here hx rfl (hb hby at_51) rfl  ww) ?_
    show own_Goes _ _ _ _ _ _ _ (T53.setTop (mkF m 53 #[.val (.int x0), .val (.int (5 : Int32)), .val (.ref k5), .val (.int (1 : Int32)), .val (.int (1 : Int32)), .val (.int (1 : Int32))] [(.int (1 : Int32)), (.int (1 : Int32))]))
    refine own_go (fun _ ww => XS.icmpNo X53.here hx rfl (hb hby at_53) rfl (teq (by decide : (1 : Int32) = (1 : Int32))).2 ww) ?_
    show own_Goes _ _ _ _ _ _ _ (T53.setTop (mkF m 56 #[.val (.int x0), .val (.int (5 : Int32)), .val (.ref k5), .val (.int (1 : Int32)), .val (.int (1 : Int32)), .val (.int (1 : Int32))] []))
    refine own_go (fun _ ww => XS.iloadN X53.here hx rfl (hb hby at_56) rfl  ww) ?_
    show own_Goes _ _ _ _ _ _ _ (T53.setTop (mkF m 57 #[.val (.int x0), .val (.int (5 : Int32)), .val (.ref k5), .val (.int (1 : Int32)), .val (.int (1 : Int32)), .val (.int (1 : Int32))] [(.int (1 : Int32))]))
    refine own_go (fun _ ww => XS.iload X53.here hx rfl (hb hby at_57) rfl  ww) ?_
    show own_Goes _ _ _ _ _ _ _ (T53.setTop (mkF m 59 #[.val (.int x0), .val (.int (5 : Int32)), .val (.ref k5), .val (.int (1 : Int32)), .val (.int (1 : Int32)), .val (.int (1 : Int32))] [(.int (1 : Int32)), (.int (1 : Int32))]))
    refine own_go (fun _ ww => XS.icmpNo X53.here hx rfl (hb hby at_59) rfl (teq (by decide : (1 : Int32) = (1 : Int32))).2 ww) ?_
    show own_Goes _ _ _ _ _ _ _ (T53.setTop (mkF m 62 #[.val (.int x0), .val (.int (5 : Int32)), .val (.ref k5), .val (.int (1 : Int32)), .val (.int (1 : Int32)), .val (.int (1 : Int32))] []))
    refine own_go (fun _ ww => XS.iconst X53.here hx rfl (hb hby at_62) ww) ?_
    show own_Goes _ _ _ _ _ _ _ (T53.setTop (mkF m 63 #[.val (.int x0), .val (.int (5 : Int32)), .val (.ref k5), .val (.int (1 : Int32)), .val (.int (1 : Int32)), .val (.int (1 : Int32))] [(.int (1 : Int32))]))
    refine own_go (fun _ ww => XS.goto X53.here hx rfl (pc0 := 63) (pc' := 67) rfl (hb hby at_63) (by decide) (by decide) ww) ?_
    show own_Goes _ _ _ _ _ _ _ (T53.setTop (mkF m 67 #[.val (.int x0), .val (.int (5 : Int32)), .val (.ref k5), .val (.int (1 : Int32)), .val (.int (1 : Int32)), .val (.int (1 : Int32))] [(.int (1 : Int32))]))
    exact own_out X53 hlk (v := some (.int (1 : Int32))) (fun h => by rw [hret] at h; cases h) (fun fs hr => retOut X53 hx (t := .boolean) hret (by decide) (Or.inl ⟨rfl, by simp, _, rfl⟩) (hb hby at_67) hr) e53 ⟨rfl, N53⟩ (by decide) (by decide)
set_option maxRecDepth 65536 in
set_option maxHeartbeats 40000000 in
theorem comes_1 {Post : Tables → Env → Array Value → State → Outcome → State → Prop} (hpost : ∀ tb e args s v u, (limb_1_1.after args s (.returned v) u = true ∧ limb_1_2.after args s (.returned v) u = true ∧ True) → FrameEnd s (.returned v) u (Jvm.fieldLocs frame_1_writes args s ++ Jvm.arrayLocs frame_1_arrays args s ++ Jvm.staticLocs frame_1_statics s) 0 0 → Post tb e args s (.returned v) u) :
    ArmFor flags0 classFile x code maxLocals ret World_1 tables_1 room_1 Calls_1 rest_1 Pre_1 Post := by
  intro l hfl _ _ p e ha hc hk s m args below hf hA hF happ hP
  obtain ⟨hcalls, hrest, hpre⟩ := hP
  obtain ⟨-, -, -, hnamed, -, -, -, hat⟩ := (Spec.applies_iff hf).mp happ
  obtain ⟨hg, hn⟩ := and_e (Cond.before_iff.mp (show (Jvm.Cond.and given_1 narrow_1).before args s = true from hpre))
  obtain ⟨q1, q2⟩ := and_e hg
  obtain ⟨q3, q4⟩ := and_e hn
  obtain ⟨q5, q6⟩ := and_e q4
  obtain ⟨q7, q8⟩ := and_e q6
  obtain ⟨q9, q10⟩ := and_e q8
  obtain ⟨q11, q12⟩ := and_e q10
  obtain ⟨q13, q14⟩ := and_e q12
  obtain ⟨q15, q16⟩ := and_e q14
  obtain ⟨q17, q18⟩ := and_e q16
  obtain ⟨q19, q20⟩ := and_e q18
  obtain ⟨q21, q22⟩ := and_e q20
  obtain ⟨q23, q24⟩ := and_e q22
  obtain ⟨w0, rfl⟩ : ∃ w0 : Value, args = #[w0] := by
    have hs : args.size = 1 := by simpa [Cond.value, given_1] using q1
    obtain ⟨L⟩ := args
    match L, hs with
    | [w0], _ => exact ⟨w0, rfl⟩
  have hw := fun d (hd : d ∈ tables_1) => atoms_spec (ws := Jvm.Cond.code x code maxLocals ret :: tables_1) hat d (List.mem_cons_of_mem _ hd)
  have hfit : Fit s := fun {y c} hc i hi => by
    obtain ⟨ha, rfl⟩ := Array.getElem?_eq_some_iff.mp hc
    have q := List.all_eq_true.mp ((Array.all_eq_true_iff_forall_mem.mp hF) _ (Array.getElem_mem ha)) i (List.mem_range.mpr hi)
    simpa [Array.getElem?_eq_getElem hi] using q
  obtain ⟨i0, ei0⟩ := is_v q2
  obtain rfl : w0 = (.int i0) := Option.some.inj ei0
  obtain ⟨a_Comparison_EQUAL, ev_Comparison_EQUAL⟩ := exa_v q3
  have E_Comparison_EQUAL : Exa s s.heap a_Comparison_EQUAL "com/example/esfahan/esfahan/model/Comparison" := Exa.start ev_Comparison_EQUAL q3
  have S_Comparison_EQUAL : Sta s s.heap "com/example/esfahan/esfahan/model/Comparison" "EQUAL" "Lcom/example/esfahan/esfahan/model/Comparison;" (.ref a_Comparison_EQUAL) := Sta.start ev_Comparison_EQUAL (Or.inr ⟨(hw _ (List.mem_of_getElem? (i := 6) rfl)), (hw _ (List.mem_of_getElem? (i := 7) rfl))⟩)
  obtain ⟨a_Comparison_AT_MOST, ev_Comparison_AT_MOST⟩ := exa_v q7
  have E_Comparison_AT_MOST : Exa s s.heap a_Comparison_AT_MOST "com/example/esfahan/esfahan/model/Comparison" := Exa.start ev_Comparison_AT_MOST q7
  have S_Comparison_AT_MOST : Sta s s.heap "com/example/esfahan/esfahan/model/Comparison" "AT_MOST" "Lcom/example/esfahan/esfahan/model/Comparison;" (.ref a_Comparison_AT_MOST) := Sta.start ev_Comparison_AT_MOST (Or.inr ⟨(hw _ (List.mem_of_getElem? (i := 6) rfl)), (hw _ (List.mem_of_getElem? (i := 29) rfl))⟩)
  obtain ⟨a_Comparison_NOT_EQUAL, ev_Comparison_NOT_EQUAL⟩ := exa_v q11
  have E_Comparison_NOT_EQUAL : Exa s s.heap a_Comparison_NOT_EQUAL "com/example/esfahan/esfahan/model/Comparison" := Exa.start ev_Comparison_NOT_EQUAL q11
  have S_Comparison_NOT_EQUAL : Sta s s.heap "com/example/esfahan/esfahan/model/Comparison" "NOT_EQUAL" "Lcom/example/esfahan/esfahan/model/Comparison;" (.ref a_Comparison_NOT_EQUAL) := Sta.start ev_Comparison_NOT_EQUAL (Or.inr ⟨(hw _ (List.mem_of_getElem? (i := 6) rfl)), (hw _ (List.mem_of_getElem? (i := 31) rfl))⟩)
  obtain ⟨a_Comparison_LESS, ev_Comparison_LESS⟩ := exa_v q15
  have E_Comparison_LESS : Exa s s.heap a_Comparison_LESS "com/example/esfahan/esfahan/model/Comparison" := Exa.start ev_Comparison_LESS q15
  have S_Comparison_LESS : Sta s s.heap "com/example/esfahan/esfahan/model/Comparison" "LESS" "Lcom/example/esfahan/esfahan/model/Comparison;" (.ref a_Comparison_LESS) := Sta.start ev_Comparison_LESS (Or.inr ⟨(hw _ (List.mem_of_getElem? (i := 6) rfl)), (hw _ (List.mem_of_getElem? (i := 33) rfl))⟩)
  obtain ⟨a_Comparison_AT_LEAST, ev_Comparison_AT_LEAST⟩ := exa_v q19
  have E_Comparison_AT_LEAST : Exa s s.heap a_Comparison_AT_LEAST "com/example/esfahan/esfahan/model/Comparison" := Exa.start ev_Comparison_AT_LEAST q19
  have S_Comparison_AT_LEAST : Sta s s.heap "com/example/esfahan/esfahan/model/Comparison" "AT_LEAST" "Lcom/example/esfahan/esfahan/model/Comparison;" (.ref a_Comparison_AT_LEAST) := Sta.start ev_Comparison_AT_LEAST (Or.inr ⟨(hw _ (List.mem_of_getElem? (i := 6) rfl)), (hw _ (List.mem_of_getElem? (i := 36) rfl))⟩)
  obtain ⟨a_Comparison_GREATER, ev_Comparison_GREATER⟩ := exa_v q23
  have E_Comparison_GREATER : Exa s s.heap a_Comparison_GREATER "com/example/esfahan/esfahan/model/Comparison" := Exa.start ev_Comparison_GREATER q23
  have S_Comparison_GREATER : Sta s s.heap "com/example/esfahan/esfahan/model/Comparison" "GREATER" "Lcom/example/esfahan/esfahan/model/Comparison;" (.ref a_Comparison_GREATER) := Sta.start ev_Comparison_GREATER (Or.inr ⟨(hw _ (List.mem_of_getElem? (i := 6) rfl)), (hw _ (List.mem_of_getElem? (i := 38) rfl))⟩)
  have F_Comparison_EQUAL_ordinal := own_fI ev_Comparison_EQUAL q5
  have F_Comparison_AT_MOST_ordinal := own_fI ev_Comparison_AT_MOST q9
  have F_Comparison_NOT_EQUAL_ordinal := own_fI ev_Comparison_NOT_EQUAL q13
  have F_Comparison_LESS_ordinal := own_fI ev_Comparison_LESS q17
  have F_Comparison_AT_LEAST_ordinal := own_fI ev_Comparison_AT_LEAST q21
  have F_Comparison_GREATER_ordinal := own_fI ev_Comparison_GREATER q24
  obtain ⟨n, o, h1, h2, h3, _, L, rfl, ⟨rfl, N⟩, hq⟩ := rm_law l s _ hw tables_1 i0 a_Comparison_EQUAL a_Comparison_NOT_EQUAL a_Comparison_LESS a_Comparison_AT_MOST a_Comparison_GREATER a_Comparison_AT_LEAST s.heap s.heap.size (Old.start s) S_Comparison_EQUAL E_Comparison_EQUAL F_Comparison_EQUAL_ordinal S_Comparison_NOT_EQUAL E_Comparison_NOT_EQUAL F_Comparison_NOT_EQUAL_ordinal S_Comparison_LESS E_Comparison_LESS F_Comparison_LESS_ordinal S_Comparison_AT_MOST E_Comparison_AT_MOST F_Comparison_AT_MOST_ordinal S_Comparison_GREATER E_Comparison_GREATER F_Comparison_GREATER_ordinal S_Comparison_AT_LEAST E_Comparison_AT_LEAST F_Comparison_AT_LEAST_ordinal p e ha hc hk s m _ below hf ((Spec.applies_iff_loose hf).mp happ).1 ⟨rfl, State.Warmed39.refl s, rfl⟩ trivial
  refine ⟨n, _, h1, h2, h3, hpost _ _ _ _ _ _ ⟨Cond.after_iff.mpr rfl, Cond.after_iff.mpr (eq_i res_at (Term.int_eval (1)) rfl), trivial⟩ ⟨hq.1, hq.2.1, (hq.2.2.sift fun y hy => Or.inr (N y hy)).mono (by decide) (by decide)⟩⟩
theorem main_1_1 : Claimed_1_1 := comes_1 fun _ _ _ _ _ _ h hF => ⟨h.1, hF⟩
theorem main_1_2 : Claimed_1_2 := comes_1 fun _ _ _ _ _ _ h hF => ⟨h.2.1, hF⟩
end Jvm.Pilot.@@N@@
namespace Jvm.Pilot.@@N@@
open Jvm Jvm.ClassFile Sem Op Lib Jvm.Free Jvm.Stand Jvm.Pilot.@@N@@.Jvm.D
/-! MADE BY PROGRAM (witnessworld.py) out of the Statement's table words and the real class files: 12 classes; the members and pool entries that the words name. The judged class is class 1, her method 2. -/
namespace start1
open Jvm.ClassFile
def u (s : String) : CpInfo := .utf8 (stringToUtf16 s)
/-- a pool by its gaps: so many unusable entries, then the entry; so many at the end -/
def gap : Nat → List CpInfo → List CpInfo
  | 0, r => r
  | n + 1, r => .unusable :: gap n r
def poolList (es : List (Nat × CpInfo)) (last : Nat) : List CpInfo := es.foldr (fun e r => gap e.1 (e.2 :: r)) (gap last [])
def pool (es : List (Nat × CpInfo)) (last : Nat) : Array CpInfo := ⟨poolList es last⟩
def fileOf (pool : Array CpInfo) (this : Nat) (attrs : Array Attribute := #[]) (ms : Array MethodInfo := #[]) (fl : Nat := 33) (sup : Nat := 0) (ifs : Array Nat := #[]) (fds : Array FieldInfo := #[]) : ClassFile where
  minorVersion := 0
  majorVersion := 65
  constantPool := pool
  accessFlags := fl
  thisClass := this
  superClass := sup
  interfaces := ifs
  fields := fds
  methods := ms
  attributes := attrs
def plain (name : String) (sup : Option ClassId) : Class where
  name := name
  kind := .ordinary
  loader := none
  accessFlags := 33
  super := sup
  interfaces := #[]
  cf := none
  fields := #[]
  methods := #[]
  instanceTypes := #[]
  staticTypes := #[]
  resolved := #[]
  callSites := []
  init := .initialized
  statics := none
  mirror := none

def pool0 : Array CpInfo := pool [(5, u "<init>"), (0, u "()V"), (1, .class_ 10), (1, u "java/lang/Object")] 113

def k0m0 : Method := { name := "<init>", desc := "()V", sig := { parameters := [], returnType := none }, accessFlags := 1, code := none }
/-- java/lang/Object -/
def k0 : Class := { plain "java/lang/Object" none with
  accessFlags := 33
  interfaces := #[]
  cf := some (fileOf pool0 8 #[] #[{ accessFlags := 1, nameIndex := 5, descriptorIndex := 6, attributes := #[] }] 33 0 #[] #[])
  fields := #[]
  methods := #[k0m0]
  instanceTypes := #[]
  staticTypes := #[]
  resolved := Array.replicate 124 none
  statics := none }

def pool1 : Array CpInfo := pool [(2, .class_ 4), (1, u "java/lang/Object"), (0, u "<init>"), (0, u "()V"), (0, .fieldref 8 9), (0, .class_ 10), (0, .nameAndType 11 12), (0, u "com/example/esfahan/esfahan/model/Comparison"), (0, u "EQUAL"), (0, u "Lcom/example/esfahan/esfahan/model/Comparison;"), (0, .fieldref 8 14), (0, .nameAndType 15 12), (0, u "NOT_EQUAL"), (0, .fieldref 8 17), (0, .nameAndType 18 12), (0, u "LESS"), (0, .fieldref 8 20), (0, .nameAndType 21 12), (0, u "AT_MOST"), (0, .fieldref 8 23), (0, .nameAndType 24 12), (0, u "GREATER"), (0, .fieldref 8 26), (0, .nameAndType 27 12), (0, u "AT_LEAST"), (0, .integer 2147483647), (0, .methodref 30 31), (0, .class_ 32), (0, .nameAndType 33 34), (0, u "com/example/esfahan/esfahan/model/ComparisonIsOrderingPinLaw"), (0, u "pick"), (0, u "(I)Lcom/example/esfahan/esfahan/model/Comparison;"), (0, .methodref 8 36), (0, .nameAndType 37 38), (0, u "isOrdering"), (0, u "()Z"), (0, .methodref 8 40), (0, .nameAndType 41 42), (0, u "holdsForSign"), (0, u "(I)Z"), (3, u "law")] 2

def k1m0 : Method := { name := "<init>", desc := "()V", sig := { parameters := [], returnType := none }, accessFlags := 1, code := none }
def k1c1 : Code := { maxStack := 2, maxLocals := 1, code := method_2_code, exceptionTable := #[], attributes := #[] }
def k1m1 : Method := { name := "pick", desc := "(I)Lcom/example/esfahan/esfahan/model/Comparison;", sig := { parameters := [.int], returnType := some (.object "com/example/esfahan/esfahan/model/Comparison") }, accessFlags := 10, code := some k1c1 }
def k1c2 : Code := { maxStack := 3, maxLocals := 6, code := code, exceptionTable := #[], attributes := #[] }
def k1m2 : Method := { name := "law", desc := "(I)Z", sig := { parameters := [.int], returnType := some .boolean }, accessFlags := 9, code := some k1c2 }
/-- com/example/esfahan/esfahan/model/ComparisonIsOrderingPinLaw -/
def k1 : Class := { plain "com/example/esfahan/esfahan/model/ComparisonIsOrderingPinLaw" (some 0) with
  accessFlags := 49
  interfaces := #[]
  cf := some (fileOf pool1 30 #[] #[{ accessFlags := 1, nameIndex := 5, descriptorIndex := 6, attributes := #[] }, { accessFlags := 10, nameIndex := 33, descriptorIndex := 34, attributes := #[] }, { accessFlags := 9, nameIndex := 46, descriptorIndex := 42, attributes := #[] }] 49 2 #[] #[])
  fields := #[]
  methods := #[k1m0, k1m1, k1m2]
  instanceTypes := #[]
  staticTypes := #[]
  resolved := Array.replicate 49 none
  statics := none }

def pool2 : Array CpInfo := pool [(1, .class_ 2), (0, u "java/lang/constant/Constable"), (0, .class_ 4), (0, u "java/lang/Object")] 6

/-- java/lang/constant/Constable -/
def k2 : Class := { plain "java/lang/constant/Constable" (some 0) with
  accessFlags := 1537
  interfaces := #[]
  cf := some (fileOf pool2 1 #[] #[] 1537 3 #[] #[])
  fields := #[]
  methods := #[]
  instanceTypes := #[]
  staticTypes := #[]
  resolved := Array.replicate 11 none
  statics := none }

def pool3 : Array CpInfo := pool [(1, .class_ 2), (0, u "java/lang/Comparable"), (0, .class_ 4), (0, u "java/lang/Object")] 7

/-- java/lang/Comparable -/
def k3 : Class := { plain "java/lang/Comparable" (some 0) with
  accessFlags := 1537
  interfaces := #[]
  cf := some (fileOf pool3 1 #[] #[] 1537 3 #[] #[])
  fields := #[]
  methods := #[]
  instanceTypes := #[]
  staticTypes := #[]
  resolved := Array.replicate 12 none
  statics := none }

def pool4 : Array CpInfo := pool [(1, .class_ 2), (0, u "java/io/Serializable"), (0, .class_ 4), (0, u "java/lang/Object")] 2

/-- java/io/Serializable -/
def k4 : Class := { plain "java/io/Serializable" (some 0) with
  accessFlags := 1537
  interfaces := #[]
  cf := some (fileOf pool4 1 #[] #[] 1537 3 #[] #[])
  fields := #[]
  methods := #[]
  instanceTypes := #[]
  staticTypes := #[]
  resolved := Array.replicate 7 none
  statics := none }

def pool5 : Array CpInfo := pool [(2, .class_ 4), (1, u "java/lang/Enum"), (0, u "name"), (0, u "Ljava/lang/String;"), (0, .fieldref 2 8), (0, .nameAndType 9 10), (0, u "ordinal"), (0, u "I"), (1, .class_ 14), (1, u "java/lang/Object"), (4, u "hash"), (86, .class_ 108), (1, u "java/lang/Enum$EnumDesc"), (2, .class_ 112), (0, u "java/lang/constant/Constable"), (0, .class_ 114), (0, u "java/lang/Comparable"), (0, .class_ 116), (0, u "java/io/Serializable"), (9, u "()I")] 77

def k5c0 : Code := { maxStack := 1, maxLocals := 1, code := jdk_37_method_2_code, exceptionTable := #[], attributes := #[] }
def k5m0 : Method := { name := "ordinal", desc := "()I", sig := { parameters := [], returnType := some .int }, accessFlags := 17, code := some k5c0 }
/-- java/lang/Enum -/
def k5 : Class := { plain "java/lang/Enum" (some 0) with
  accessFlags := 1057
  interfaces := #[2, 3, 4]
  cf := some (fileOf pool5 2 #[.nestMembers #[106]] #[{ accessFlags := 17, nameIndex := 9, descriptorIndex := 126, attributes := #[] }] 1057 12 #[111, 113, 115] #[{ accessFlags := 18, nameIndex := 5, descriptorIndex := 6, attributes := #[] }, { accessFlags := 18, nameIndex := 9, descriptorIndex := 10, attributes := #[] }, { accessFlags := 2, nameIndex := 19, descriptorIndex := 10, attributes := #[] }])
  fields := #[{ name := "name", type := (.object "java/lang/String"), accessFlags := 18, slot := 0, constantValue := 0 }, { name := "ordinal", type := .int, accessFlags := 18, slot := 1, constantValue := 0 }, { name := "hash", type := .int, accessFlags := 2, slot := 2, constantValue := 0 }]
  methods := #[k5m0]
  instanceTypes := #[(.object "java/lang/String"), .int, .int]
  staticTypes := #[]
  resolved := Array.replicate 204 none
  statics := none }

def pool6 : Array CpInfo := pool [(1, .class_ 2), (0, u "com/example/esfahan/esfahan/model/Comparison"), (0, .fieldref 1 4), (0, .nameAndType 5 6), (0, u "EQUAL"), (0, u "Lcom/example/esfahan/esfahan/model/Comparison;"), (0, .fieldref 1 8), (0, .nameAndType 9 6), (0, u "NOT_EQUAL"), (2, u "LESS"), (2, u "AT_MOST"), (2, u "GREATER"), (2, u "AT_LEAST"), (2, u "$VALUES"), (0, u "[Lcom/example/esfahan/esfahan/model/Comparison;"), (6, .class_ 34), (1, u "java/lang/Enum"), (8, u "symbol"), (0, u "Ljava/lang/String;"), (22, u "isOrdering"), (0, u "()Z"), (17, u "holdsForSign"), (0, u "(I)Z"), (13, .methodref 1 102), (0, .nameAndType 103 104), (0, u "ordinal"), (0, u "()I")] 63

def k6c0 : Code := { maxStack := 2, maxLocals := 1, code := prog_47_method_6_code, exceptionTable := #[], attributes := #[] }
def k6m0 : Method := { name := "isOrdering", desc := "()Z", sig := { parameters := [], returnType := some .boolean }, accessFlags := 1, code := some k6c0 }
def k6c1 : Code := { maxStack := 4, maxLocals := 2, code := prog_47_method_10_code, exceptionTable := #[], attributes := #[] }
def k6m1 : Method := { name := "holdsForSign", desc := "(I)Z", sig := { parameters := [.int], returnType := some .boolean }, accessFlags := 1, code := some k6c1 }
/-- com/example/esfahan/esfahan/model/Comparison -/
def k6 : Class := { plain "com/example/esfahan/esfahan/model/Comparison" (some 5) with
  accessFlags := 16433
  interfaces := #[]
  cf := some (fileOf pool6 1 #[] #[{ accessFlags := 1, nameIndex := 67, descriptorIndex := 68, attributes := #[] }, { accessFlags := 1, nameIndex := 86, descriptorIndex := 87, attributes := #[] }] 16433 32 #[] #[{ accessFlags := 16409, nameIndex := 5, descriptorIndex := 6, attributes := #[] }, { accessFlags := 16409, nameIndex := 9, descriptorIndex := 6, attributes := #[] }, { accessFlags := 16409, nameIndex := 12, descriptorIndex := 6, attributes := #[] }, { accessFlags := 16409, nameIndex := 15, descriptorIndex := 6, attributes := #[] }, { accessFlags := 16409, nameIndex := 18, descriptorIndex := 6, attributes := #[] }, { accessFlags := 16409, nameIndex := 21, descriptorIndex := 6, attributes := #[] }, { accessFlags := 18, nameIndex := 43, descriptorIndex := 44, attributes := #[] }, { accessFlags := 4122, nameIndex := 24, descriptorIndex := 25, attributes := #[] }])
  fields := #[{ name := "EQUAL", type := (.object "com/example/esfahan/esfahan/model/Comparison"), accessFlags := 16409, slot := 0, constantValue := 0 }, { name := "NOT_EQUAL", type := (.object "com/example/esfahan/esfahan/model/Comparison"), accessFlags := 16409, slot := 1, constantValue := 0 }, { name := "LESS", type := (.object "com/example/esfahan/esfahan/model/Comparison"), accessFlags := 16409, slot := 2, constantValue := 0 }, { name := "AT_MOST", type := (.object "com/example/esfahan/esfahan/model/Comparison"), accessFlags := 16409, slot := 3, constantValue := 0 }, { name := "GREATER", type := (.object "com/example/esfahan/esfahan/model/Comparison"), accessFlags := 16409, slot := 4, constantValue := 0 }, { name := "AT_LEAST", type := (.object "com/example/esfahan/esfahan/model/Comparison"), accessFlags := 16409, slot := 5, constantValue := 0 }, { name := "symbol", type := (.object "java/lang/String"), accessFlags := 18, slot := 3, constantValue := 0 }, { name := "$VALUES", type := (.array (.object "com/example/esfahan/esfahan/model/Comparison")), accessFlags := 4122, slot := 6, constantValue := 0 }]
  methods := #[k6m0, k6m1]
  instanceTypes := #[(.object "java/lang/String"), .int, .int, (.object "java/lang/String")]
  staticTypes := #[(.object "com/example/esfahan/esfahan/model/Comparison"), (.object "com/example/esfahan/esfahan/model/Comparison"), (.object "com/example/esfahan/esfahan/model/Comparison"), (.object "com/example/esfahan/esfahan/model/Comparison"), (.object "com/example/esfahan/esfahan/model/Comparison"), (.object "com/example/esfahan/esfahan/model/Comparison"), (.array (.object "com/example/esfahan/esfahan/model/Comparison"))]
  resolved := Array.replicate 168 none
  statics := some 0 }

def pool7 : Array CpInfo := pool [(1, u "java/lang/Cloneable"), (0, .class_ 1), (0, u "java/lang/Object"), (0, .class_ 3)] 3

/-- java/lang/Cloneable -/
def k7 : Class := { plain "java/lang/Cloneable" (some 0) with
  accessFlags := 1537
  interfaces := #[]
  cf := some (fileOf pool7 2 #[] #[] 1537 4 #[] #[])
  fields := #[]
  methods := #[]
  instanceTypes := #[]
  staticTypes := #[]
  resolved := Array.replicate 8 none
  statics := none }

/-- the primitive byte -/
def k8 : Class := { plain "byte" none with kind := .primitive 'B', accessFlags := 0x411 }
/-- [B -/
def k9 : Class := { plain "[B" (some 0) with kind := .array 8 .byte, interfaces := #[7, 4], accessFlags := 1041 }

/-- the primitive int -/
def k10 : Class := { plain "int" none with kind := .primitive 'I', accessFlags := 0x411 }
/-- [I -/
def k11 : Class := { plain "[I" (some 0) with kind := .array 10 .int, interfaces := #[7, 4], accessFlags := 1041 }

def heap : Heap := #[{ cls := 6, slots := #[.ref 1, .ref 2, .ref 3, .ref 4, .ref 5, .ref 6, .null], vm := .statics 6 },
  { cls := 6, slots := #[.null, .int 0, .int 0, .null], vm := .none },
  { cls := 6, slots := #[.null, .int 1, .int 0, .null], vm := .none },
  { cls := 6, slots := #[.null, .int 2, .int 0, .null], vm := .none },
  { cls := 6, slots := #[.null, .int 3, .int 0, .null], vm := .none },
  { cls := 6, slots := #[.null, .int 4, .int 0, .null], vm := .none },
  { cls := 6, slots := #[.null, .int 5, .int 0, .null], vm := .none }]
def classes : Array Class := #[k0, k1, k2, k3, k4, k5, k6, k7, k8, k9, k10, k11]
def interned : List (Array UInt16 × Addr) := []
def slotsUsed : Nat := 31
def theMethod : MethodId := ⟨1, 2⟩
def args0 : Array Value := #[.int 5]
def aboutOver (below : List Frame) : State where
  vm := { classes := classes, interned := interned.toArray }
  heap := heap
  slotsUsed := slotsUsed
  threads := #[{ frames := .invoking theMethod args0 :: below }]
def below0 : List Frame := [.native { method := ⟨0, 0⟩, args := #[] }]
def about1 : State := aboutOver below0
def p0 : Program := .bare "" "" ""
def e0 : Env := launch0.env 0 0 0
theorem w_frames : about1.frames = Frame.invoking theMethod args0 :: below0 := rfl
set_option maxRecDepth 65536 in
theorem w_args : argsFit about1.vm theMethod args0 = true := by decide +kernel
set_option maxRecDepth 65536 in
theorem w_heap : heapFits about1 = true := by decide +kernel
set_option maxRecDepth 65536 in
theorem w_runnable : about1.curStatus? = some .runnable := by decide +kernel
set_option maxRecDepth 65536 in
theorem w_alone : about1.alone = true := by decide +kernel
set_option maxRecDepth 65536 in
theorem w_named : about1.methodNamed? x = some theMethod := by decide +kernel
set_option maxRecDepth 65536 in
theorem w_hears : about1.hears theMethod below0 = true := by decide +kernel
set_option maxRecDepth 65536 in
theorem w_ripe : about1.ripe theMethod args0 below0 = true := by decide +kernel
theorem w_running : about1.status = .running := rfl
set_option maxRecDepth 65536 in
theorem w_room : about1.hasRoom e0.platform room_1 = true :=
  launch0.hasRoom_least _ room_1 (by decide +kernel) (by decide +kernel) (by decide +kernel) (by decide +kernel) (by decide +kernel) (by decide +kernel)
theorem allAtoms_all (ts : List Jvm.Cond) (a : Array Jvm.Value) (st : Jvm.State) : (allAtoms ts).before a st = ts.all (fun c => c.before a st) := by
  induction ts with
  | nil => rfl
  | cons c t ih =>
    show (Jvm.Cond.and c (allAtoms t)).before a st = _
    rw [Jvm.Cond.before_and, ih, List.all_cons]
def words1 : List Jvm.Cond := Jvm.Cond.code x code maxLocals ret :: tables_1
/-- a 'code' word, met by the world's own term for the bytes: nothing is compared byte by byte -/
theorem code_word {y : MethodName} {bytes : ByteArray} {mx : Nat} {rt : Option FieldType} {a : Array Value} {s : State} {m : MethodId} {meth : Method} {c : Code} (h1 : s.methodNamed? y = some m) (h2 : s.vm.method? m = some meth) (h3 : meth.code = some c) (h4 : c.code = bytes)
    (h5 : (c.maxLocals == mx && c.exceptionTable.isEmpty && decide (c.maxStack ≤ mostOperands) && decide (meth.sig.returnType = rt) && !meth.locks && decide (parseMethodDescriptor y.desc = some meth.sig)) = true) : (Jvm.Cond.code y bytes mx rt).before a s = true := by
  simp only [Bool.and_eq_true, beq_iff_eq, Bool.not_eq_true', decide_eq_true_eq] at h5
  obtain ⟨⟨⟨⟨⟨g1, g2⟩, g3⟩, g4⟩, g5⟩, g6⟩ := h5
  simp [Cond.before, Cond.holds, Cond.value, h1, h2, h3, h4, g1, g2, g3, g4, g5, g6]
def isCode : Jvm.Cond → Bool
  | .code _ _ _ _ => true
  | _ => false
theorem all_split {L : List Jvm.Cond} {P : Jvm.Cond → Bool} (h1 : L.all (fun c => isCode c || P c) = true) (h2 : ∀ c ∈ L.filter isCode, P c = true) : L.all P = true := by
  refine List.all_eq_true.mpr fun c hc => ?_
  have h := List.all_eq_true.mp h1 c hc
  rcases Bool.eq_false_or_eq_true (isCode c) with hi | hi
  · exact h2 c (List.mem_filter.mpr ⟨hc, hi⟩)
  · simpa [hi] using h
set_option maxRecDepth 65536 in
theorem w_c0 : (Jvm.Cond.code x code maxLocals ret).before args0 about1 = true := code_word (m := ⟨1, 2⟩) (meth := k1m2) (c := k1c2) (by decide +kernel) rfl rfl rfl (by decide +kernel)
set_option maxRecDepth 65536 in
theorem w_c1 : (Jvm.Cond.code ({ cls := "com/example/esfahan/esfahan/model/ComparisonIsOrderingPinLaw", name := "pick", desc := "(I)Lcom/example/esfahan/esfahan/model/Comparison;" } : Jvm.MethodName) method_2_code (1 : Nat) (Option.some (Jvm.ClassFile.FieldType.object "com/example/esfahan/esfahan/model/Comparison"))).before args0 about1 = true := code_word (m := ⟨1, 1⟩) (meth := k1m1) (c := k1c1) (by decide +kernel) rfl rfl rfl (by decide +kernel)
set_option maxRecDepth 65536 in
theorem w_c2 : (Jvm.Cond.code ({ cls := "com/example/esfahan/esfahan/model/Comparison", name := "isOrdering", desc := "()Z" } : Jvm.MethodName) prog_47_method_6_code (1 : Nat) (Option.some Jvm.ClassFile.FieldType.boolean)).before args0 about1 = true := code_word (m := ⟨6, 0⟩) (meth := k6m0) (c := k6c0) (by decide +kernel) rfl rfl rfl (by decide +kernel)
set_option maxRecDepth 65536 in
theorem w_c3 : (Jvm.Cond.code ({ cls := "com/example/esfahan/esfahan/model/Comparison", name := "holdsForSign", desc := "(I)Z" } : Jvm.MethodName) prog_47_method_10_code (2 : Nat) (Option.some Jvm.ClassFile.FieldType.boolean)).before args0 about1 = true := code_word (m := ⟨6, 1⟩) (meth := k6m1) (c := k6c1) (by decide +kernel) rfl rfl rfl (by decide +kernel)
set_option maxRecDepth 65536 in
theorem w_c4 : (Jvm.Cond.code ({ cls := "java/lang/Enum", name := "ordinal", desc := "()I" } : Jvm.MethodName) jdk_37_method_2_code (1 : Nat) (Option.some Jvm.ClassFile.FieldType.int)).before args0 about1 = true := code_word (m := ⟨5, 0⟩) (meth := k5m0) (c := k5c0) (by decide +kernel) rfl rfl rfl (by decide +kernel)
def codes1 : List Jvm.Cond := [Jvm.Cond.code x code maxLocals ret, Jvm.Cond.code ({ cls := "com/example/esfahan/esfahan/model/ComparisonIsOrderingPinLaw", name := "pick", desc := "(I)Lcom/example/esfahan/esfahan/model/Comparison;" } : Jvm.MethodName) method_2_code (1 : Nat) (Option.some (Jvm.ClassFile.FieldType.object "com/example/esfahan/esfahan/model/Comparison")), Jvm.Cond.code ({ cls := "com/example/esfahan/esfahan/model/Comparison", name := "isOrdering", desc := "()Z" } : Jvm.MethodName) prog_47_method_6_code (1 : Nat) (Option.some Jvm.ClassFile.FieldType.boolean), Jvm.Cond.code ({ cls := "com/example/esfahan/esfahan/model/Comparison", name := "holdsForSign", desc := "(I)Z" } : Jvm.MethodName) prog_47_method_10_code (2 : Nat) (Option.some Jvm.ClassFile.FieldType.boolean), Jvm.Cond.code ({ cls := "java/lang/Enum", name := "ordinal", desc := "()I" } : Jvm.MethodName) jdk_37_method_2_code (1 : Nat) (Option.some Jvm.ClassFile.FieldType.int)]
set_option maxRecDepth 65536 in
theorem codes_eq : words1.filter isCode = codes1 := rfl
theorem w_codes : ∀ c ∈ words1.filter isCode, c.before args0 about1 = true := by
  rw [codes_eq]
  intro c hc
  simp only [codes1, List.mem_cons, List.not_mem_nil, or_false] at hc
  rcases hc with rfl | rfl | rfl | rfl | rfl
  · exact w_c0
  · exact w_c1
  · exact w_c2
  · exact w_c3
  · exact w_c4
set_option maxRecDepth 65536 in
theorem w_t1 : (words1.take 24).all (fun c => isCode c || c.before args0 about1) = true := by decide +kernel
set_option maxRecDepth 65536 in
theorem w_t2 : (words1.drop 24).all (fun c => isCode c || c.before args0 about1) = true := by decide +kernel
theorem w_tables : (allAtoms (Jvm.Cond.code x code maxLocals ret :: tables_1)).before args0 about1 = true := by
  rw [allAtoms_all]
  show words1.all (fun c => c.before args0 about1) = true
  refine all_split ?_ w_codes
  rw [← List.take_append_drop 24 words1, List.all_append, w_t1, w_t2]
  rfl
set_option maxRecDepth 65536 in
theorem w_case : (Jvm.Cond.and given_1 narrow_1).before args0 about1 = true := by decide +kernel
theorem w_applies : (headSpec (Jvm.Cond.code x code maxLocals ret :: tables_1) room_1).applies x e0.platform about1 = true :=
  (Spec.applies_iff w_frames).mpr ⟨w_running, w_runnable, w_alone, w_named, w_hears, w_ripe, w_room, w_tables⟩
theorem atStart : AtStart classFile x code maxLocals ret World_1 tables_1 room_1 Calls_1 rest_1 Pre_1 launch0 p0 e0 about1 theMethod args0 below0 :=
  ⟨lists_1, trivial, launch0.admits_env _ _ _, launch0.least_env, fairChoices_fair.cas, fairChoices_fair.clock, w_frames, w_args, w_heap, w_applies, trivial, trivial, w_case⟩
end start1
theorem witness_1 : WitnessClaimed_1 := ⟨start1.p0, start1.e0, start1.about1, start1.theMethod, start1.args0, start1.below0, start1.atStart⟩
end Jvm.Pilot.@@N@@
