import JvmDerived
import JvmDerived.Pilot.@@N@@Statement
import JvmDerived.Pilot.@@N@@Code
set_option linter.unusedVariables false
set_option linter.unusedSimpArgs false
/- laws to paste: narrow_ch, pair_says, chr8_lo8, low_at, wide_lo, wide_hi, shr0 (cut by pick.py; bodies as the Statement names them) -/
namespace Jvm.Pilot.@@N@@
namespace StrChars
open Jvm Sem ClassFile Op Lib Jvm.Stand Jvm.Free.XT Jvm.Free.ALB Jvm.Free.JM Jvm.Free
open Jvm.Lib.Cold (StaticIs)
/-- the byte that i2b leaves of a char -/
def lo8 (x : Int32) : Int32 := x.toInt8.toInt32
/-- the byte, read back as charAt reads it, is the char -/
theorem lo8_mask {x : Int32} (h0 : ¬ x < 0) (h1 : ¬ 255 < x) : lo8 x &&& 255 = x := by
  have t : ∀ k : Fin 256, lo8 (Int32.ofNat k.val) &&& 255 = Int32.ofNat k.val := by decide +kernel
  rw [Int32.lt_iff_toInt_lt] at h0 h1
  have e0 : (0 : Int32).toInt = 0 := rfl
  have e1 : (255 : Int32).toInt = 255 := rfl
  obtain ⟨k, hk⟩ : ∃ k : Nat, x.toInt = k := ⟨x.toInt.toNat, by omega⟩
  have hx : x = Int32.ofNat k := Int32.toInt_inj.mp (by rw [hk, Int32.toInt_ofNat_small (by omega)])
  rw [hx]
  exact t ⟨k, by omega⟩
end StrChars
namespace StrChars
open Jvm Sem ClassFile Op Lib Jvm.Stand Jvm.Free.XT Jvm.Free.ALB Jvm.Free.JM Jvm.Free
open Jvm.Lib.Cold (StaticIs)
def hi8 (x : Int32) : Int32 := lo8 (x >>> ((8 : Int32) &&& 31))
/-- what StringUTF16.getChar makes of two bytes -/
def pairCh (u v : Int32) : Int32 := (((u &&& 255) <<< ((0 : Int32) &&& 31)) ||| ((v &&& 255) <<< ((8 : Int32) &&& 31))).toUInt32.toUInt16.toUInt32.toInt32
theorem shr0 (c : Int32) : c >>> ((0 : Int32) &&& 31) = c := by
  have e : ((0 : Int32) &&& 31) = 0 := by decide
  rw [e]
  apply Int32.toBitVec_inj.mp
  rw [Int32.toBitVec_shiftRight]
  have e1 : ((0 : Int32).toBitVec.smod 32) = 0#32 := by decide
  rw [e1, BitVec.sshiftRight_eq']
  exact BitVec.sshiftRight_zero
theorem lo8_and (x : Int32) : (lo8 x &&& 255).toBitVec.toNat = x.toBitVec.toNat % 256 := by
  have h : (lo8 x).toBitVec = (x.toBitVec.signExtend 8).signExtend 32 := by rw [lo8, Int8.toBitVec_toInt32, Int32.toBitVec_toInt8]
  rw [Int32.toBitVec_and, BitVec.toNat_and, h]
  have e : ((x.toBitVec.signExtend 8).signExtend 32).toNat % 256 = x.toBitVec.toNat % 256 := by
    rw [BitVec.toNat_signExtend]
    have hlt := x.toBitVec.isLt
    simp only [BitVec.toNat_setWidth, BitVec.toNat_signExtend]
    split <;> split <;> omega
  rw [← e]
  exact Nat.and_two_pow_sub_one_eq_mod _ 8
theorem pair_says {c : Int32} (h0 : ¬ c < 0) (h1 : ¬ 65535 < c) : pairCh (lo8 c) (hi8 c) = c := by
  rw [Int32.lt_iff_toInt_lt] at h0 h1
  have e0 : (0 : Int32).toInt = 0 := rfl
  have e1 : (65535 : Int32).toInt = 65535 := rfl
  have hc : c.toInt = c.toBitVec.toNat := by
    have := c.toBitVec.isLt
    have e : c.toInt = c.toBitVec.toInt := rfl
    rw [e] at h0 h1
    rw [e]
    rw [BitVec.toInt_eq_toNat_cond] at h0 h1 ⊢
    split at h0 <;> split <;> omega
  have hn : c.toBitVec.toNat < 65536 := by omega
  have a1 := lo8_and c
  have a2 : (hi8 c &&& 255).toBitVec.toNat = c.toBitVec.toNat / 256 := by
    rw [hi8, lo8_and]
    have e : ((8 : Int32) &&& 31) = 8 := by decide
    rw [e, Int32.toBitVec_shiftRight]
    have e2 : ((8 : Int32).toBitVec.smod 32) = 8#32 := by decide
    rw [e2, BitVec.sshiftRight_eq', BitVec.toNat_sshiftRight_of_msb_false (by rw [BitVec.msb_eq_false_iff_two_mul_lt]; omega)]
    show c.toBitVec.toNat >>> 8 % 256 = _
    rw [Nat.shiftRight_eq_div_pow]
    omega
  unfold pairCh
  apply Int32.toBitVec_inj.mp
  apply BitVec.eq_of_toNat_eq
  have f0 : ((0 : Int32) &&& 31) = 0 := by decide
  have f8 : ((8 : Int32) &&& 31) = 8 := by decide
  rw [f0, f8]
  have g : (((lo8 c &&& 255) <<< (0 : Int32)) ||| ((hi8 c &&& 255) <<< (8 : Int32))).toBitVec.toNat = c.toBitVec.toNat := by
    rw [Int32.toBitVec_or, Int32.toBitVec_shiftLeft, Int32.toBitVec_shiftLeft]
    have s0 : ((0 : Int32).toBitVec.smod 32) = 0#32 := by decide
    have s8 : ((8 : Int32).toBitVec.smod 32) = 8#32 := by decide
    rw [s0, s8, BitVec.toNat_or]
    simp only [BitVec.shiftLeft_eq', BitVec.toNat_shiftLeft, a1, a2]
    show (c.toBitVec.toNat % 256) <<< 0 % 2 ^ 32 ||| (c.toBitVec.toNat / 256) <<< 8 % 2 ^ 32 = _
    rw [Nat.shiftLeft_zero, Nat.mod_eq_of_lt (show c.toBitVec.toNat % 256 < 2 ^ 32 by omega), Nat.mod_eq_of_lt (show (c.toBitVec.toNat / 256) <<< 8 < 2 ^ 32 by rw [Nat.shiftLeft_eq]; omega), Nat.or_comm, ← Nat.shiftLeft_add_eq_or_of_lt (by omega), Nat.shiftLeft_eq]
    omega
  show BitVec.toNat (((((lo8 c &&& 255) <<< (0 : Int32)) ||| ((hi8 c &&& 255) <<< (8 : Int32))).toBitVec.setWidth 16).setWidth 32) = _
  rw [BitVec.toNat_setWidth, BitVec.toNat_setWidth, g]
  omega
end StrChars
namespace StrChars
open Jvm Sem ClassFile Op Lib Jvm.Stand Jvm.Free.XT Jvm.Free.ALB Jvm.Free.JM Jvm.Free
open Jvm.Lib.Cold (StaticIs)
/-- charAt's cast of a byte read back -/
def chr8 (u : Int32) : Int32 := (u &&& 255).toUInt32.toUInt16.toUInt32.toInt32
theorem chr8_lo8 {c : Int32} (h0 : ¬ c < 0) (h1 : ¬ 255 < c) : chr8 (lo8 c) = c := by
  have t : ∀ k : Fin 256, (Int32.ofNat k.val).toUInt32.toUInt16.toUInt32.toInt32 = Int32.ofNat k.val := by decide +kernel
  unfold chr8
  rw [lo8_mask h0 h1]
  rw [Int32.lt_iff_toInt_lt] at h0 h1
  have e0 : (0 : Int32).toInt = 0 := rfl
  have e1 : (255 : Int32).toInt = 255 := rfl
  obtain ⟨k, hk⟩ : ∃ k : Nat, c.toInt = k := ⟨c.toInt.toNat, by omega⟩
  have hx : c = Int32.ofNat k := Int32.toInt_inj.mp (by rw [hk, Int32.toInt_ofNat_small (by omega)])
  rw [hx]
  exact t ⟨k, by omega⟩
theorem narrow_ch {c : Int32} (h0 : ¬ c < 0) (h1 : ¬ 65535 < c) : narrow .char (.int c) = .int c := by
  have q : narrow .char (.int (pairCh (lo8 c) (hi8 c))) = .int (pairCh (lo8 c) (hi8 c)) := narrow_c _
  rwa [pair_says h0 h1] at q
end StrChars
namespace StrChars.Road
open Jvm Sem ClassFile Op Lib Jvm.Stand Jvm.Free Jvm.Free.XT
open Jvm.Lib.Cold (StaticIs)
/-- the bytes of the chars cs, low before high -/
def wideBytes : List Int32 → List Value
  | [] => []
  | c :: cs => .int (lo8 c) :: .int (hi8 c) :: wideBytes cs
theorem wide_lo (d : Value) : ∀ (cs : List Int32) (j : Nat), j < cs.length → (wideBytes cs).getD (2 * j) d = .int (lo8 (cs.getD j 0))
  | [], j, h => absurd h (Nat.not_lt_zero j)
  | c :: cs, 0, _ => rfl
  | c :: cs, j + 1, h => by
    have q := wide_lo d cs j (by simpa using h)
    rw [show 2 * (j + 1) = 2 * j + 1 + 1 from by omega]
    simpa [wideBytes] using q
theorem wide_hi (d : Value) : ∀ (cs : List Int32) (j : Nat), j < cs.length → (wideBytes cs).getD (2 * j + 1) d = .int (hi8 (cs.getD j 0))
  | [], j, h => absurd h (Nat.not_lt_zero j)
  | c :: cs, 0, _ => rfl
  | c :: cs, j + 1, h => by
    have q := wide_hi d cs j (by simpa using h)
    rw [show 2 * (j + 1) + 1 = 2 * j + 1 + 1 + 1 from by omega]
    simpa [wideBytes] using q
theorem low_at (d : Value) (cs : List Int32) (j : Nat) (h : j < cs.length) : (cs.map fun c => Value.int (lo8 c)).getD j d = .int (lo8 (cs.getD j 0)) := by
  simp [List.getD_eq_getElem?_getD, h]
end StrChars.Road
end Jvm.Pilot.@@N@@

namespace Jvm.Pilot.@@N@@
open Jvm Jvm.ClassFile Sem Op Lib Jvm.Free Jvm.Stand Jvm.LawKit Jvm.RoadKit Bundle Jvm.Pilot.@@N@@.Jvm.D
theorem own_lt {x y : Int32} (h : x < y) : if_icmp.holds .lt x y = true ∧ if_icmp.holds .ge x y = false := by simp [if_icmp.holds, h, Int32.not_le.mpr h]
def own_Goes (p : Program) (e : Env) (below : List Frame) (s : State) (Q : Option Value → Heap → List Loc → Prop) (kc ks : Nat) (U : State) : Prop :=
  ∃ t o, Steps p.tables e below U t ∧ t.status = .running ∧ Ended t below o ∧ ∃ v L, o = .returned v ∧ Q v t.heap L ∧ FrameEnd s o t L kc ks
theorem own_go {p : Program} {e : Env} {below : List Frame} {s : State} {Q : Option Value → Heap → List Loc → Prop} {kc ks : Nat} {U V : State} (h : ∀ t, Steps p.tables e below V t → Steps p.tables e below U t) (g : own_Goes p e below s Q kc ks V) : own_Goes p e below s Q kc ks U := by
  obtain ⟨t, o, h1, r⟩ := g
  exact ⟨t, o, h t h1, r⟩
theorem own_out {p : Program} {l : Launch} {e : Env} {R : Room} {s : State} {m : MethodId} {args : Array Value} {below : List Frame} {meth : Method} {c : Code} {T : State} {locs : List Loc} {cells slots : Nat} {h : Heap} {Q : Option Value → Heap → List Loc → Prop} {kc ks : Nat} {U : State} {v : Option Value}
    (X : Stand p l e R s m args below meth c T locs cells slots) (hlk : meth.locks = false) (hv : meth.sig.returnType = none → v = none)
    (hs : ∀ fs, (∀ (f : JFrame) (acts : List Action), f.method = m → f.locked = none → f.entered = [] → (doReturn e (T.setTop f) acts v).1 = T.setFrames fs) → Steps p.tables e below U (T.setFrames fs))
    (eT : T.heap = h) (hQ : Q v h locs) (hc : cells ≤ kc) (hsl : slots ≤ ks) : own_Goes p e below s Q kc ks U := by
  obtain ⟨fs, hr, hrun, hended, hW, hsame⟩ := X.leave hv hlk
  subst eT
  exact ⟨_, _, hs fs hr, hrun, hended, _, _, rfl, hQ, ⟨_, rfl⟩, hW, hsame.mono hc hsl⟩
theorem own_ks {h0 h : Heap} {ws : List Addr} (K : Keep h0 h ws) : h0.size ≤ h.size := K.1
theorem own_cmpL (x : Int64) : XT.cmpL x x = 0 := by simp [XT.cmpL]
theorem own_vne {a b : Int32} (h : a ≠ b) : Value.int a ≠ .int b := fun q => h (Value.int.inj q)
theorem own_nn (x : Int32) : ¬ (x &&& 2147483647) < 0 := fun h => absurd ((XT.and_neg32 x 2147483647).mp h).2 (by decide)
theorem own_ns {Z : State} {n0 : Nat} {h : Heap} (O : Old Z n0 h) : n0 ≤ h.size := O.1 ▸ O.2.1
theorem own_lk {p : Program} {l : Launch} {x : MethodName} {S : Spec} {code : ByteArray} {maxLocals : Nat} {ret : Option FieldType} {e : Env} {s : State} {m : MethodId} {args : Array Value} {below : List Frame} {meth : Method} {c : Code} {s₁ : State} (B : BodyLoose p l x S code maxLocals ret e s m args below meth c s₁) : meth.locks = false := B.notSynchronized
theorem own_if (cd : ClassFile.Cond) {x : Int32} {b : Bool} (h : if_icmp.holds cd x 0 = b) : ifCond.holds cd x = b := by rw [if0]; exact h
theorem own_aeq {a b : Addr} (h : a = b) : XT.acmp .eq (.ref a) (.ref b) = true ∧ XT.acmp .ne (.ref a) (.ref b) = false := by subst h; exact ⟨XT.aa_eq_t rfl, XT.aa_ne_f rfl⟩
theorem own_ane {a b : Addr} (h : ¬ a = b) : XT.acmp .eq (.ref a) (.ref b) = false ∧ XT.acmp .ne (.ref a) (.ref b) = true := ⟨XT.aa_eq_f (fun q => h (Value.ref.inj q)), XT.aa_ne_t (fun q => h (Value.ref.inj q))⟩
theorem own_eqI {args : Array Value} {s : State} {u : Term} {k : Int32} (h : (Jvm.Cond.eq u (.int k)).value args s none s [] = some true) : u.eval args s none [] s = some (.int k) := by
  simp only [Jvm.Cond.value] at h
  cases hf : u.eval args s none [] s with
  | none => simp [hf] at h
  | some v => cases v <;> simp [hf, Term.eval] at h; subst h; rfl
theorem own_eqJ {args : Array Value} {s : State} {u : Term} {k : Int64} (h : (Jvm.Cond.eq u (.long k)).value args s none s [] = some true) : u.eval args s none [] s = some (.long k) := by
  simp only [Jvm.Cond.value] at h
  cases hf : u.eval args s none [] s with
  | none => simp [hf] at h
  | some v => cases v <;> simp [hf, Term.eval] at h; subst h; rfl
theorem own_cl_gt (x y : Int64) : 0 < XT.cmpL x y ↔ y < x := by
  unfold XT.cmpL
  by_cases h : y < x
  · simp [h]
  · by_cases g : x = y
    · subst g; simp [h]
    · simp [h, g]
theorem own_cl_lt (x y : Int64) : XT.cmpL x y < 0 ↔ x < y := by
  unfold XT.cmpL
  by_cases h : y < x
  · have : ¬ x < y := fun q => by rw [Int64.lt_iff_toInt_lt] at h q; omega
    simp [h, this]
  · by_cases g : x = y
    · subst g; simp [h]
    · have : x < y := by
        rw [Int64.lt_iff_toInt_lt] at h ⊢
        have ne : x.toInt ≠ y.toInt := fun q => g (Int64.toInt_inj.mp q)
        omega
      simp [h, g, this]
theorem own_privateBack {p : Program} {l : Launch} {e : Env} {R : Room} {s : State} {m : MethodId} {args : Array Value} {below : List Frame} {meth : Method} {c : Code} {T : State} {locs : List Loc} {cells slots : Nat}
    (X : Stand p l e R s m args below meth c T locs cells slots) (hexec : p.tables.exec = Jvm.exec) {own : String} {index k : Nat} {y : MethodName} {bytes : ByteArray} {maxL : Nat} {ret : Option FieldType}
    (hown : s.vm.findClass own = some m.cls) (hlink : (Jvm.Cond.methodLink own index y).before args s = true) (hinst : (Jvm.Cond.instanceMethod y).before args s = true) (hmk : (Jvm.Cond.instantiable y.cls k).before args s = true)
    (hpriv : s.PrivateAt y) (hcode : (Jvm.Cond.code y bytes maxL ret).before args s = true) (hy : y.cls ≠ "java/lang/invoke/MethodHandle" ∧ y.cls ≠ "java/lang/invoke/VarHandle")
    {W : Nat} {Pre : Free.Pt → Array Value → Prop} {Post : Free.Pt → Array Value → Option Value → Free.Pt → Prop} (hK : Free.Back l R p e below s args y 3 W Pre Post)
    {g : JFrame} (hg : g.method = m) (hsize : g.locals.size = c.maxLocals) {s₀ : State} (hcome : Steps p.tables e below s₀ (T.setTop g)) {a : Addr} {cell : Cell} (hcell : T.heap[a]? = some cell) (hobj : ∀ q, cell.vm ≠ .statics q)
    {argsL rest : List Value} (hlen : ∀ sig, parseMethodDescriptor y.desc = some sig → argsL.length = sig.parameters.length)
    (hstack : g.stack = argsL.reverse ++ .ref a :: rest) (hW : 2 * g.monitorRoom + (rest.map fun v => v.category).sum ≤ W) (hdg : decode c.code g.pc = .ok (.invokevirtual index, 3))
    (hpre : ∀ vm₁, s.WarmedH vm₁ → Pre ⟨T.setVm vm₁, locs, cells, slots⟩ (.ref a :: argsL).toArray) :
    ∃ (v : Option Value) (vm₁ : Vm) (B : Free.Pt), s.WarmedH vm₁ ∧ Stand p l e R s m args below meth c B.U B.locs B.cells B.slots ∧ Post ⟨T.setVm vm₁, locs, cells, slots⟩ (.ref a :: argsL).toArray v B ∧
      Steps p.tables e below s₀ (B.U.setTop { g with pc := g.pc + 3, stack := v.toList ++ rest }) := by
  obtain ⟨mk, r, named, found, inst, abs⟩ := Cond.instanceMethod_spec hinst
  obtain ⟨r', cM, found', -, -, -, -, -, -, sig⟩ := Cond.code_spec named hcode
  cases found.symm.trans found'
  obtain ⟨cC, kC, k1, k2, -, k4, -⟩ := Cond.instantiable_spec hmk
  cases (findClass_of_methodNamed named).symm.trans k1
  have face : kC.isInterface = false := (Bool.or_eq_false_iff.mp k4).1
  have sel : selectMethod e.platform s.vm cell.cls mk = .method mk := selectMethod_private found (hpriv mk r named found)
  obtain ⟨vm₁, X₁, go⟩ := X.invokevirtual hexec hown hlink named found inst k2 face hy (a := a) (cell := cell) hcell hobj sel found abs k2 face (g := g) hg (argsL := argsL) (rest := rest) (hlen _ sig) hstack hdg
  obtain ⟨v, B, X', post, back⟩ := hK m meth c ⟨T.setVm vm₁, locs, cells, slots⟩ { g with stack := rest } (.invokevirtual index) mk (.ref a :: argsL).toArray X₁ hg hsize hdg hW (X₁.named named) (hpre vm₁ X₁.warmed)
  exact ⟨v, vm₁, B, X₁.warmed, X', post, (hcome.trans (go _ fun acts => by rw [doInvoke_state]; exact Steps.refl _)).trans back⟩
theorem own_fitR {C : String} {v : Value} (h : v.isRef = true) : fits (.object C) v = true := by rcases ref_cases h with rfl | ⟨a, rfl⟩ <;> rfl
theorem own_fI {args : Array Value} {s : State} {t : Term} {a : Addr} {O n d : String} {k : Int32} (ev : t.eval args s none [] s = some (.ref a)) (h : (Jvm.Cond.eq (.field t O n d) (.int k)).value args s none s [] = some true) : Fld s s.heap a O n d (.int k) := by
  refine Fld.start ?_
  simp only [Jvm.Cond.value, fld_at ev] at h
  cases hf : s.fieldOf? a O n d with
  | none => simp [hf] at h
  | some v => cases v <;> simp [hf, Term.eval] at h; subst h; rfl
theorem own_fJ {args : Array Value} {s : State} {t : Term} {a : Addr} {O n d : String} {k : Int64} (ev : t.eval args s none [] s = some (.ref a)) (h : (Jvm.Cond.eq (.field t O n d) (.long k)).value args s none s [] = some true) : Fld s s.heap a O n d (.long k) := by
  refine Fld.start ?_
  simp only [Jvm.Cond.value, fld_at ev] at h
  cases hf : s.fieldOf? a O n d with
  | none => simp [hf] at h
  | some v => cases v <;> simp [hf, Term.eval] at h; subst h; rfl
theorem own_fN {args : Array Value} {s : State} {t : Term} {a : Addr} {O n d : String} (ev : t.eval args s none [] s = some (.ref a)) (h : (Jvm.Cond.eq (.field t O n d) .null).value args s none s [] = some true) : Fld s s.heap a O n d .null := Fld.start ((fld_at ev).symm.trans (null_v h))
theorem pn_0 : plainName "org/graticule/read/SpanDigitsEndPinLaw" = true := by first | (simp [plainName, overriddenIn]; done) | decide +kernel
theorem pn_1 : plainName "java/lang/StringUTF16" = true := by first | (simp [plainName, overriddenIn]; done) | decide +kernel
theorem pn_2 : plainName "java/lang/String" = true := by first | (simp [plainName, overriddenIn]; done) | decide +kernel
theorem pn_3 : plainName "jdk/internal/util/Preconditions" = true := by first | (simp [plainName, overriddenIn]; done) | decide +kernel
theorem pn_4 : plainName "java/lang/StringLatin1" = true := by first | (simp [plainName, overriddenIn]; done) | decide +kernel
theorem pn_5 : plainName "java/lang/Record" = true := by first | (simp [plainName, overriddenIn]; done) | decide +kernel
theorem pn_6 : plainName "java/util/Objects" = true := by first | (simp [plainName, overriddenIn]; done) | decide +kernel
theorem pn_7 : plainName "org/graticule/read/Span" = true := by first | (simp [plainName, overriddenIn]; done) | decide +kernel
theorem pd_0 : parseMethodDescriptor "(I)I" = some ⟨[.int], some .int⟩ := by decide +kernel
theorem pd_1 : parseMethodDescriptor "(I)[B" = some ⟨[.int], some (.array .byte)⟩ := by decide +kernel
theorem pd_2 : parseMethodDescriptor "([BII)V" = some ⟨[(.array .byte), .int, .int], none⟩ := by decide +kernel
theorem pd_3 : parseMethodDescriptor "([CI[BII)I" = some ⟨[(.array .char), .int, (.array .byte), .int, .int], some .int⟩ := by decide +kernel
theorem pd_4 : parseMethodDescriptor "([CII)[B" = some ⟨[(.array .char), .int, .int], some (.array .byte)⟩ := by decide +kernel
theorem pd_5 : parseMethodDescriptor "([BI)C" = some ⟨[(.array .byte), .int], some .char⟩ := by decide +kernel
theorem pd_6 : parseMethodDescriptor "([BI)B" = some ⟨[(.array .byte), .int], some .byte⟩ := by decide +kernel
theorem pd_7 : parseMethodDescriptor "([CIILjava/lang/Void;)V" = some ⟨[(.array .char), .int, .int, (.object "java/lang/Void")], none⟩ := by decide +kernel
theorem pd_8 : parseMethodDescriptor "()B" = some ⟨[], some .byte⟩ := by decide +kernel
theorem pd_9 : parseMethodDescriptor "(IILjava/util/function/BiFunction;)I" = some ⟨[.int, .int, (.object "java/util/function/BiFunction")], some .int⟩ := by decide +kernel
theorem pd_10 : parseMethodDescriptor "([B)I" = some ⟨[(.array .byte)], some .int⟩ := by decide +kernel
theorem pd_11 : parseMethodDescriptor "(II)V" = some ⟨[.int, .int], none⟩ := by decide +kernel
theorem pd_12 : parseMethodDescriptor "(I[B)V" = some ⟨[.int, (.array .byte)], none⟩ := by decide +kernel
theorem pd_13 : parseMethodDescriptor "()Z" = some ⟨[], some .boolean⟩ := by decide +kernel
theorem pd_14 : parseMethodDescriptor "(IIILjava/util/function/BiFunction;)I" = some ⟨[.int, .int, .int, (.object "java/util/function/BiFunction")], some .int⟩ := by decide +kernel
theorem pd_15 : parseMethodDescriptor "()V" = some ⟨[], none⟩ := by decide +kernel
theorem pd_16 : parseMethodDescriptor "()I" = some ⟨[], some .int⟩ := by decide +kernel
theorem pd_17 : parseMethodDescriptor "(III)I" = some ⟨[.int, .int, .int], some .int⟩ := by decide +kernel
theorem pd_18 : parseMethodDescriptor "(I)C" = some ⟨[.int], some .char⟩ := by decide +kernel
theorem pd_19 : parseMethodDescriptor "(C)Z" = some ⟨[.char], some .boolean⟩ := by decide +kernel
theorem pd_20 : parseMethodDescriptor "(JI)C" = some ⟨[.long, .int], some .char⟩ := by decide +kernel
theorem pd_21 : parseMethodDescriptor "([C)V" = some ⟨[(.array .char)], none⟩ := by decide +kernel
theorem pd_22 : parseMethodDescriptor "(Ljava/lang/String;II)V" = some ⟨[(.object "java/lang/String"), .int, .int], none⟩ := by decide +kernel
theorem pd_23 : parseMethodDescriptor "(IIII[C)Z" = some ⟨[.int, .int, .int, .int, (.array .char)], some .boolean⟩ := by decide +kernel
theorem own_allc {P : Int32 → Prop} {y : Int32} {L : List Int32} (q : P y) (r : ∀ x ∈ L, P x) : ∀ x ∈ y :: L, P x := fun x z => (List.mem_cons.mp z).elim (fun u => u ▸ q) (r x)
theorem own_c16 (x : Int32) : ¬ (x.toUInt32.toUInt16.toUInt32.toInt32) < 0 ∧ ¬ (65535 : Int32) < (x.toUInt32.toUInt16.toUInt32.toInt32) := by
  generalize x.toUInt32.toUInt16 = u
  have e : u.toUInt32.toInt32 = Int32.ofNat u.toNat := by
    apply Int32.toBitVec_inj.mp
    show u.toUInt32.toBitVec = BitVec.ofNat 32 u.toNat
    apply BitVec.eq_of_toNat_eq
    have h := u.toNat_lt
    simp
  have h := u.toNat_lt
  rw [e, Int32.lt_iff_toInt_lt, Int32.lt_iff_toInt_lt, Int32.toInt_ofNat_of_lt (by omega)]
  have e1 : (65535 : Int32).toInt = 65535 := rfl
  have e0 : (0 : Int32).toInt = 0 := rfl
  omega
theorem own_n16 {r : Int32} (h : ¬ r < 0 ∧ ¬ (65535 : Int32) < r) : nar .char r = r := by
  show r.toUInt32.toUInt16.toUInt32.toInt32 = r
  obtain ⟨h1, h2⟩ := h
  rw [Int32.lt_iff_toInt_lt] at h1 h2
  have e1 : (65535 : Int32).toInt = 65535 := rfl
  have e0 : (0 : Int32).toInt = 0 := rfl
  have e : r = Int32.ofNat r.toInt.toNat := by
    apply Int32.toInt_inj.mp
    rw [Int32.toInt_ofNat_of_lt (by omega)]
    omega
  rw [e]
  have hk : r.toInt.toNat < 65536 := by omega
  generalize r.toInt.toNat = k at hk
  apply Int32.toBitVec_inj.mp
  apply BitVec.eq_of_toNat_eq
  show ((Int32.ofNat k).toUInt32.toUInt16.toUInt32.toBitVec).toNat = (BitVec.ofNat 32 k).toNat
  have q : (Int32.ofNat k).toUInt32 = UInt32.ofNat k := rfl
  rw [q]
  simp
  omega
theorem own_ltN {a b : Nat} (ha : a < 100) (hb : b < 100) : Int32.ofNat a < Int32.ofNat b ↔ a < b := by
  rw [Int32.lt_iff_toInt_lt, Int32.toInt_ofNat_of_lt (by omega), Int32.toInt_ofNat_of_lt (by omega)]
  omega
theorem own_eqN {a b : Nat} (ha : a < 100) (hb : b < 100) (h : Int32.ofNat a = Int32.ofNat b) : a = b := by
  have q := congrArg Int32.toInt h
  rw [Int32.toInt_ofNat_of_lt (by omega), Int32.toInt_ofNat_of_lt (by omega)] at q
  omega
theorem own_addN (a b : Nat) : Int32.ofNat a + Int32.ofNat b = Int32.ofNat (a + b) := (Int32.ofNat_add a b).symm
theorem own_subN {a b : Nat} (h : b ≤ a) : Int32.ofNat a - Int32.ofNat b = Int32.ofNat (a - b) := by
  have q : Int32.ofNat a = Int32.ofNat (a - b) + Int32.ofNat b := by rw [own_addN, Nat.sub_add_cancel h]
  rw [q]
  exact Int32.add_sub_cancel _ _
theorem own_clampN {a : Nat} (h : a < 100) : (Int32.ofNat a).toNatClampNeg = a := by
  show (Int32.ofNat a).toInt.toNat = a
  rw [Int32.toInt_ofNat_of_lt (by omega)]
  omega
theorem own_rem {x : Int32} {k : Nat} (hx : ¬ x < 0) (hk : 0 < k) (h2 : k < 100) : ∃ q : Nat, q < k ∧ x % Int32.ofNat k = Int32.ofNat q := by
  rw [XT.negI32] at hx
  have e : (x % Int32.ofNat k).toInt = x.toInt.tmod k := by rw [Int32.toInt_mod, Int32.toInt_ofNat_of_lt (by omega)]
  have b1 : 0 ≤ x.toInt.tmod k := Int.tmod_nonneg _ (by omega)
  have b2 : x.toInt.tmod k < k := Int.tmod_lt_of_pos _ (by omega)
  refine ⟨(x.toInt.tmod k).toNat, by omega, ?_⟩
  apply Int32.toInt_inj.mp
  rw [e, Int32.toInt_ofNat_of_lt (by omega)]
  omega
theorem own_nn7 (x : Int32) : ¬ (x &&& 7) < 0 := fun h => absurd ((XT.and_neg32 x 7).mp h).2 (by decide)
theorem own_nzN {k : Nat} (h : 0 < k) (h2 : k < 100) : Int32.ofNat k ≠ 0 := fun e => by
  have q := own_eqN (a := k) (b := 0) h2 (by omega) e
  omega
theorem own_gd (c0 c1 c2 c3 c4 c5 : Int32) (n : Nat) : ([.int c0, .int c1, .int c2, .int c3, .int c4, .int c5] : List Value).getD n (.int 0) = .int (([c0, c1, c2, c3, c4, c5] : List Int32).getD n 0) := by
  match n with
  | 0 | 1 | 2 | 3 | 4 | 5 => rfl
  | n + 6 => rfl
theorem own_gdm (cs : List Int32) (n : Nat) : (cs.map Value.int).getD n (.int 0) = .int (cs.getD n 0) := by
  simp [List.getD_eq_getElem?_getD]
theorem own_narb (x : Int32) : nar .byte (x.toInt8.toInt32) = x.toInt8.toInt32 := by simp [nar]
theorem own_shl1 {j : Nat} (h : j < 6) : Int32.ofNat j <<< ((1 : Int32) &&& 31) = Int32.ofNat (2 * j) := by
  have t : ∀ k : Fin 6, Int32.ofNat k.val <<< ((1 : Int32) &&& 31) = Int32.ofNat (2 * k.val) := by decide
  exact t ⟨j, h⟩

def own_dig (c : Int32) : Prop := ¬ c < 48 ∧ ¬ (57 : Int32) < c
theorem own_first {c0 c1 c2 c3 c4 c5 : Int32} (h : ¬ ∀ c ∈ ([c0, c1, c2, c3, c4, c5] : List Int32), ¬ (255 : Int32) < c) :
    (255 : Int32) < c0 ∨ (¬ (255 : Int32) < c0 ∧ (255 : Int32) < c1) ∨ (¬ (255 : Int32) < c0 ∧ ¬ (255 : Int32) < c1 ∧ (255 : Int32) < c2) ∨ (¬ (255 : Int32) < c0 ∧ ¬ (255 : Int32) < c1 ∧ ¬ (255 : Int32) < c2 ∧ (255 : Int32) < c3) ∨ (¬ (255 : Int32) < c0 ∧ ¬ (255 : Int32) < c1 ∧ ¬ (255 : Int32) < c2 ∧ ¬ (255 : Int32) < c3 ∧ (255 : Int32) < c4) ∨ (¬ (255 : Int32) < c0 ∧ ¬ (255 : Int32) < c1 ∧ ¬ (255 : Int32) < c2 ∧ ¬ (255 : Int32) < c3 ∧ ¬ (255 : Int32) < c4 ∧ (255 : Int32) < c5) := by
  by_cases h0 : (255 : Int32) < c0
  · exact Or.inl h0
  by_cases h1 : (255 : Int32) < c1
  · exact Or.inr (Or.inl ⟨h0, h1⟩)
  by_cases h2 : (255 : Int32) < c2
  · exact Or.inr (Or.inr (Or.inl ⟨h0, h1, h2⟩))
  by_cases h3 : (255 : Int32) < c3
  · exact Or.inr (Or.inr (Or.inr (Or.inl ⟨h0, h1, h2, h3⟩)))
  by_cases h4 : (255 : Int32) < c4
  · exact Or.inr (Or.inr (Or.inr (Or.inr (Or.inl ⟨h0, h1, h2, h3, h4⟩))))
  by_cases h5 : (255 : Int32) < c5
  · exact Or.inr (Or.inr (Or.inr (Or.inr (Or.inr ⟨h0, h1, h2, h3, h4, h5⟩))))
  refine absurd ?_ h
  intro c hc
  simp only [List.mem_cons, List.not_mem_nil, or_false] at hc
  rcases hc with rfl | rfl | rfl | rfl | rfl | rfl <;> assumption
theorem own_six4 {c0 c1 c2 c3 c4 c5 : Int32} {P : Int32 → Prop} (h : ∀ c ∈ ([c0, c1, c2, c3, c4, c5] : List Int32), P c) : P c0 ∧ P c1 ∧ P c2 ∧ P c3 ∧ P c4 ∧ P c5 := ⟨h _ (by simp), h _ (by simp), h _ (by simp), h _ (by simp), h _ (by simp), h _ (by simp)⟩
theorem own_getD_mem {cs : List Int32} {j : Nat} (h : j < cs.length) : cs.getD j 0 ∈ cs := by
  simp only [List.getD_eq_getElem?_getD, List.getElem?_eq_getElem h, Option.getD_some]
  exact List.getElem_mem _
theorem own_nnN {a : Nat} (h : a < 100) : ¬ Int32.ofNat a < 0 := fun q => absurd ((own_ltN (a := a) (b := 0) h (by omega)).mp q) (by omega)
theorem own_inb {a z : Nat} (h : a < z) (hz : z < 100) : ¬ Int32.ofNat a < 0 ∧ Int32.ofNat a < Int32.ofNat z := ⟨own_nnN (by omega), (own_ltN (by omega) hz).mpr h⟩
def own_Cod (cs : List Int32) (cd N2 : Int32) (vs : List Value) : Prop := (cd = 0 ∧ N2 = 6 ∧ vs = (cs.map fun c => Value.int (StrChars.lo8 c)) ∧ ∀ c ∈ cs, ¬ (255 : Int32) < c) ∨ (cd = 1 ∧ N2 = 12 ∧ vs = StrChars.Road.wideBytes cs)
theorem own_compact {args : Array Value} {s : State} (h1 : (Jvm.Cond.isInt (.static "java/lang/String" "COMPACT_STRINGS" "Z")).value args s none s [] = some true) (h2 : (Jvm.Cond.not (.eq (.static "java/lang/String" "COMPACT_STRINGS" "Z") (.int 0))).value args s none s [] = some true) (h3 : (Jvm.Cond.initializedFor "java/lang/String" "COMPACT_STRINGS" "Z").before args s = true) :
    ∃ z : Int32, Sta s s.heap "java/lang/String" "COMPACT_STRINGS" "Z" (.int z) ∧ ¬ z = 0 := by
  obtain ⟨z, ev⟩ := is_v h1
  refine ⟨z, Sta.start ev (Or.inl h3), fun q => ?_⟩
  have h4 := not_v h2
  rw [eq_i ev (Term.int_eval (0)) (by rw [q])] at h4
  cases h4
theorem d1_0 : decode method_2_code 0 = .ok (.lload_n 0, 1) := by decide +kernel
theorem d1_1 : decode method_2_code 1 = .ok (.bipush 17, 2) := by decide +kernel
theorem d1_3 : decode method_2_code 3 = .ok (.iload_n 2, 1) := by decide +kernel
theorem d1_4 : decode method_2_code 4 = .ok (.imul, 1) := by decide +kernel
theorem d1_5 : decode method_2_code 5 = .ok (.lushr, 1) := by decide +kernel
theorem d1_6 : decode method_2_code 6 = .ok (.ldc2_w 7, 3) := by decide +kernel
theorem d1_9 : decode method_2_code 9 = .ok (.land, 1) := by decide +kernel
theorem d1_10 : decode method_2_code 10 = .ok (.lstore_n 3, 1) := by decide +kernel
theorem d1_11 : decode method_2_code 11 = .ok (.lload_n 3, 1) := by decide +kernel
theorem d1_12 : decode method_2_code 12 = .ok (.ldc2_w 9, 3) := by decide +kernel
theorem d1_15 : decode method_2_code 15 = .ok (.land, 1) := by decide +kernel
theorem d1_16 : decode method_2_code 16 = .ok (.l2i, 1) := by decide +kernel
theorem d1_17 : decode method_2_code 17 = .ok (.istore 5, 2) := by decide +kernel
theorem d1_19 : decode method_2_code 19 = .ok (.lload_n 3, 1) := by decide +kernel
theorem d1_20 : decode method_2_code 20 = .ok (.ldc2_w 11, 3) := by decide +kernel
theorem d1_23 : decode method_2_code 23 = .ok (.land, 1) := by decide +kernel
theorem d1_24 : decode method_2_code 24 = .ok (.lconst 0, 1) := by decide +kernel
theorem d1_25 : decode method_2_code 25 = .ok (.lcmp, 1) := by decide +kernel
theorem d1_26 : decode method_2_code 26 = .ok (.ifCond .eq 13, 3) := by decide +kernel
theorem d1_39 : decode method_2_code 39 = .ok (.iload 5, 2) := by decide +kernel
theorem d1_41 : decode method_2_code 41 = .ok (.i2c, 1) := by decide +kernel
theorem d1_42 : decode method_2_code 42 = .ok (.ireturn, 1) := by decide +kernel
theorem d1_29 : decode method_2_code 29 = .ok (.bipush 48, 2) := by decide +kernel
theorem d1_31 : decode method_2_code 31 = .ok (.iload 5, 2) := by decide +kernel
theorem d1_33 : decode method_2_code 33 = .ok (.bipush 10, 2) := by decide +kernel
theorem d1_35 : decode method_2_code 35 = .ok (.irem, 1) := by decide +kernel
theorem d1_36 : decode method_2_code 36 = .ok (.iadd, 1) := by decide +kernel
theorem d1_37 : decode method_2_code 37 = .ok (.i2c, 1) := by decide +kernel
theorem d1_38 : decode method_2_code 38 = .ok (.ireturn, 1) := by decide +kernel
theorem ef_ch (m : MethodId) (y : Int64) (j : Int32) : entryFrame m #[(.long y), (.int j)] 6 = mkF m 0 #[.val (.long y), .second, .val (.int j), .unset, .unset, .unset] [] := by
  first | (simp [entryFrame, mkF, argsToLocals, Value.category]; done) | rfl
def Q_ch (Z : State) (y : Int64) (j : Int32) (h0 : Heap) (n0 : Nat) (v : Option Value) (h : Heap) (L : List Loc) : Prop := ∃ r : Int32, v = some (.int r) ∧ Fr n0 L ∧ h = h0 ∧ (¬ r < 0 ∧ ¬ (65535 : Int32) < r)
set_option maxRecDepth 65536 in
set_option maxHeartbeats 40000000 in
theorem rm_ch (l : Launch) (Z : State) (a0 : Array Value) (hw : ∀ d ∈ tables_1, d.before a0 Z = true) (ws : List Jvm.Cond) (y : Int64) (j : Int32) (h0 : Heap) (n0 : Nat) (O0 : Old Z n0 h0) :
    MetFree l (⟨"org/graticule/read/SpanDigitsEndPinLaw", "ch", "(JI)C"⟩ : MethodName) (head1 (Jvm.Cond.code (⟨"org/graticule/read/SpanDigitsEndPinLaw", "ch", "(JI)C"⟩ : MethodName) method_2_code 6 (some .char) :: ws) ({ frames := 0, cells := 0, slots := 0, locals := 0 } : Room)) (fun av_ U => av_ = #[(.long y), (.int j)] ∧ Z.Warmed39 U.vm ∧ U.heap = h0) (fun _ _ _ _ _ => True) (fun _ U o_ U' => ∃ v L, o_ = .returned v ∧ Q_ch Z y j h0 n0 v U'.heap L ∧ FrameEnd U o_ U' L ({ frames := 0, cells := 0, slots := 0, locals := 0 } : Room).cells ({ frames := 0, cells := 0, slots := 0, locals := 0 } : Room).slots) := by
  refine MetFree.of_bodySF (plainFor_of_name pn_0) hisR ?_
  intro p e s m args below meth c s₁ Bd hml0 hP hK
  obtain ⟨rfl, hZ, hh⟩ := hP
  have hx := Bd.exec
  have hby := Bd.bytes
  have hml : c.maxLocals = 6 := hml0
  have hown : s.vm.findClass "org/graticule/read/SpanDigitsEndPinLaw" = some m.cls := findClass_of_methodNamed Bd.named
  have hnm := (name_of_methodNamed Bd.named Bd.method).1
  have hlk := own_lk Bd
  have hret := Bd.returns
  have X0 : Stand p l e ({ frames := 0, cells := 0, slots := 0, locals := 0 } : Room) s m #[(.long y), (.int j)] below meth c s₁ [] 0 0 := Stand.of_body Bd
  have e0 : s₁.heap = h0 := by rw [← hh, Bd.state]; rfl
  have N0 := Fr.nil n0
  show own_Goes p e below s (Q_ch Z y j h0 n0) ({ frames := 0, cells := 0, slots := 0, locals := 0 } : Room).cells ({ frames := 0, cells := 0, slots := 0, locals := 0 } : Room).slots (s₁.setTop (entryFrame m #[(.long y), (.int j)] 6))
  refine own_go (fun _ ww => castTop (ef_ch m y j) ww) ?_
  show own_Goes _ _ _ _ _ _ _ (s₁.setTop (mkF m 0 #[.val (.long y), .second, .val (.int j), .unset, .unset, .unset] []))
  refine own_go (fun _ ww => XT.lloadN X0.here hx rfl (hb hby d1_0) rfl  ww) ?_
  show own_Goes _ _ _ _ _ _ _ (s₁.setTop (mkF m 1 #[.val (.long y), .second, .val (.int j), .unset, .unset, .unset] [(.long y)]))
  refine own_go (fun _ ww => XS.bipush X0.here hx rfl (hb hby d1_1) ww) ?_
  show own_Goes _ _ _ _ _ _ _ (s₁.setTop (mkF m 3 #[.val (.long y), .second, .val (.int j), .unset, .unset, .unset] [(.int (17 : Int32)), (.long y)]))
  refine own_go (fun _ ww => XS.iloadN X0.here hx rfl (hb hby d1_3) rfl  ww) ?_
  show own_Goes _ _ _ _ _ _ _ (s₁.setTop (mkF m 4 #[.val (.long y), .second, .val (.int j), .unset, .unset, .unset] [(.int j), (.int (17 : Int32)), (.long y)]))
  refine own_go (fun _ ww => XS.imul X0.here hx rfl (hb hby d1_4) rfl ww) ?_
  show own_Goes _ _ _ _ _ _ _ (s₁.setTop (mkF m 5 #[.val (.long y), .second, .val (.int j), .unset, .unset, .unset] [(.int ((17 : Int32) * j)), (.long y)]))
  refine own_go (fun _ ww => XT.lushr X0.here hx rfl (hb hby d1_5) rfl ww) ?_
  show own_Goes _ _ _ _ _ _ _ (s₁.setTop (mkF m 6 #[.val (.long y), .second, .val (.int j), .unset, .unset, .unset] [(.long (XT.ushrL y ((17 : Int32) * j)))]))
  refine own_go (fun _ ww => X0.ldc2J hx hown (mvT hZ (hw _ (List.mem_of_getElem? (i := 5) rfl))) rfl (hb hby d1_6) ww) ?_
  show own_Goes _ _ _ _ _ _ _ (s₁.setTop (mkF m 9 #[.val (.long y), .second, .val (.int j), .unset, .unset, .unset] [(.long (131071 : Int64)), (.long (XT.ushrL y ((17 : Int32) * j)))]))
  refine own_go (fun _ ww => XT.land X0.here hx rfl (hb hby d1_9) rfl ww) ?_
  show own_Goes _ _ _ _ _ _ _ (s₁.setTop (mkF m 10 #[.val (.long y), .second, .val (.int j), .unset, .unset, .unset] [(.long ((XT.ushrL y ((17 : Int32) * j)) &&& (131071 : Int64)))]))
  refine own_go (fun _ ww => XT.lstoreN X0.here hx rfl (hb hby d1_10) rfl (l' := #[.val (.long y), .second, .val (.int j), .val (.long ((XT.ushrL y ((17 : Int32) * j)) &&& (131071 : Int64))), .second, .unset]) rfl ww) ?_
  show own_Goes _ _ _ _ _ _ _ (s₁.setTop (mkF m 11 #[.val (.long y), .second, .val (.int j), .val (.long ((XT.ushrL y ((17 : Int32) * j)) &&& (131071 : Int64))), .second, .unset] []))
  refine own_go (fun _ ww => XT.lloadN X0.here hx rfl (hb hby d1_11) rfl  ww) ?_
  show own_Goes _ _ _ _ _ _ _ (s₁.setTop (mkF m 12 #[.val (.long y), .second, .val (.int j), .val (.long ((XT.ushrL y ((17 : Int32) * j)) &&& (131071 : Int64))), .second, .unset] [(.long ((XT.ushrL y ((17 : Int32) * j)) &&& (131071 : Int64)))]))
  refine own_go (fun _ ww => X0.ldc2J hx hown (mvT hZ (hw _ (List.mem_of_getElem? (i := 6) rfl))) rfl (hb hby d1_12) ww) ?_
  show own_Goes _ _ _ _ _ _ _ (s₁.setTop (mkF m 15 #[.val (.long y), .second, .val (.int j), .val (.long ((XT.ushrL y ((17 : Int32) * j)) &&& (131071 : Int64))), .second, .unset] [(.long (65535 : Int64)), (.long ((XT.ushrL y ((17 : Int32) * j)) &&& (131071 : Int64)))]))
  refine own_go (fun _ ww => XT.land X0.here hx rfl (hb hby d1_15) rfl ww) ?_
  show own_Goes _ _ _ _ _ _ _ (s₁.setTop (mkF m 16 #[.val (.long y), .second, .val (.int j), .val (.long ((XT.ushrL y ((17 : Int32) * j)) &&& (131071 : Int64))), .second, .unset] [(.long (((XT.ushrL y ((17 : Int32) * j)) &&& (131071 : Int64)) &&& (65535 : Int64)))]))
  refine own_go (fun _ ww => XT.l2i X0.here hx rfl (hb hby d1_16) rfl ww) ?_
  show own_Goes _ _ _ _ _ _ _ (s₁.setTop (mkF m 17 #[.val (.long y), .second, .val (.int j), .val (.long ((XT.ushrL y ((17 : Int32) * j)) &&& (131071 : Int64))), .second, .unset] [(.int ((((XT.ushrL y ((17 : Int32) * j)) &&& (131071 : Int64)) &&& (65535 : Int64)).toInt32))]))
  refine own_go (fun _ ww => XS.istore X0.here hx rfl (hb hby d1_17) rfl (l' := #[.val (.long y), .second, .val (.int j), .val (.long ((XT.ushrL y ((17 : Int32) * j)) &&& (131071 : Int64))), .second, .val (.int ((((XT.ushrL y ((17 : Int32) * j)) &&& (131071 : Int64)) &&& (65535 : Int64)).toInt32))]) rfl ww) ?_
  show own_Goes _ _ _ _ _ _ _ (s₁.setTop (mkF m 19 #[.val (.long y), .second, .val (.int j), .val (.long ((XT.ushrL y ((17 : Int32) * j)) &&& (131071 : Int64))), .second, .val (.int ((((XT.ushrL y ((17 : Int32) * j)) &&& (131071 : Int64)) &&& (65535 : Int64)).toInt32))] []))
  refine own_go (fun _ ww => XT.lloadN X0.here hx rfl (hb hby d1_19) rfl  ww) ?_
  show own_Goes _ _ _ _ _ _ _ (s₁.setTop (mkF m 20 #[.val (.long y), .second, .val (.int j), .val (.long ((XT.ushrL y ((17 : Int32) * j)) &&& (131071 : Int64))), .second, .val (.int ((((XT.ushrL y ((17 : Int32) * j)) &&& (131071 : Int64)) &&& (65535 : Int64)).toInt32))] [(.long ((XT.ushrL y ((17 : Int32) * j)) &&& (131071 : Int64)))]))
  refine own_go (fun _ ww => X0.ldc2J hx hown (mvT hZ (hw _ (List.mem_of_getElem? (i := 7) rfl))) rfl (hb hby d1_20) ww) ?_
  show own_Goes _ _ _ _ _ _ _ (s₁.setTop (mkF m 23 #[.val (.long y), .second, .val (.int j), .val (.long ((XT.ushrL y ((17 : Int32) * j)) &&& (131071 : Int64))), .second, .val (.int ((((XT.ushrL y ((17 : Int32) * j)) &&& (131071 : Int64)) &&& (65535 : Int64)).toInt32))] [(.long (65536 : Int64)), (.long ((XT.ushrL y ((17 : Int32) * j)) &&& (131071 : Int64)))]))
  refine own_go (fun _ ww => XT.land X0.here hx rfl (hb hby d1_23) rfl ww) ?_
  show own_Goes _ _ _ _ _ _ _ (s₁.setTop (mkF m 24 #[.val (.long y), .second, .val (.int j), .val (.long ((XT.ushrL y ((17 : Int32) * j)) &&& (131071 : Int64))), .second, .val (.int ((((XT.ushrL y ((17 : Int32) * j)) &&& (131071 : Int64)) &&& (65535 : Int64)).toInt32))] [(.long (((XT.ushrL y ((17 : Int32) * j)) &&& (131071 : Int64)) &&& (65536 : Int64)))]))
  refine own_go (fun _ ww => XT.lconst X0.here hx rfl (hb hby d1_24) ww) ?_
  show own_Goes _ _ _ _ _ _ _ (s₁.setTop (mkF m 25 #[.val (.long y), .second, .val (.int j), .val (.long ((XT.ushrL y ((17 : Int32) * j)) &&& (131071 : Int64))), .second, .val (.int ((((XT.ushrL y ((17 : Int32) * j)) &&& (131071 : Int64)) &&& (65535 : Int64)).toInt32))] [(.long (0 : Int64)), (.long (((XT.ushrL y ((17 : Int32) * j)) &&& (131071 : Int64)) &&& (65536 : Int64)))]))
  refine own_go (fun _ ww => XT.lcmp X0.here hx rfl (hb hby d1_25) rfl ww) ?_
  show own_Goes _ _ _ _ _ _ _ (s₁.setTop (mkF m 26 #[.val (.long y), .second, .val (.int j), .val (.long ((XT.ushrL y ((17 : Int32) * j)) &&& (131071 : Int64))), .second, .val (.int ((((XT.ushrL y ((17 : Int32) * j)) &&& (131071 : Int64)) &&& (65535 : Int64)).toInt32))] [(.int (XT.cmpL (((XT.ushrL y ((17 : Int32) * j)) &&& (131071 : Int64)) &&& (65536 : Int64)) (0 : Int64)))]))
  by_cases hc1 : (XT.cmpL (((XT.ushrL y ((17 : Int32) * j)) &&& (131071 : Int64)) &&& (65536 : Int64)) (0 : Int64)) = (0 : Int32)
  ·
    refine own_go (fun _ ww => XS.ifYes X0.here hx rfl (pc0 := 26) (pc' := 39) rfl (hb hby d1_26) rfl (own_if .eq (teq hc1).1) (by decide) (by decide) ww) ?_
    show own_Goes _ _ _ _ _ _ _ (s₁.setTop (mkF m 39 #[.val (.long y), .second, .val (.int j), .val (.long ((XT.ushrL y ((17 : Int32) * j)) &&& (131071 : Int64))), .second, .val (.int ((((XT.ushrL y ((17 : Int32) * j)) &&& (131071 : Int64)) &&& (65535 : Int64)).toInt32))] []))
    refine own_go (fun _ ww => XS.iload X0.here hx rfl (hb hby d1_39) rfl  ww) ?_
    show own_Goes _ _ _ _ _ _ _ (s₁.setTop (mkF m 41 #[.val (.long y), .second, .val (.int j), .val (.long ((XT.ushrL y ((17 : Int32) * j)) &&& (131071 : Int64))), .second, .val (.int ((((XT.ushrL y ((17 : Int32) * j)) &&& (131071 : Int64)) &&& (65535 : Int64)).toInt32))] [(.int ((((XT.ushrL y ((17 : Int32) * j)) &&& (131071 : Int64)) &&& (65535 : Int64)).toInt32))]))
    refine own_go (fun _ ww => XT.i2c X0.here hx rfl (hb hby d1_41) rfl ww) ?_
    show own_Goes _ _ _ _ _ _ _ (s₁.setTop (mkF m 42 #[.val (.long y), .second, .val (.int j), .val (.long ((XT.ushrL y ((17 : Int32) * j)) &&& (131071 : Int64))), .second, .val (.int ((((XT.ushrL y ((17 : Int32) * j)) &&& (131071 : Int64)) &&& (65535 : Int64)).toInt32))] [(.int (((((XT.ushrL y ((17 : Int32) * j)) &&& (131071 : Int64)) &&& (65535 : Int64)).toInt32).toUInt32.toUInt16.toUInt32.toInt32))]))
    exact own_out X0 hlk (v := some (.int (((((XT.ushrL y ((17 : Int32) * j)) &&& (131071 : Int64)) &&& (65535 : Int64)).toInt32).toUInt32.toUInt16.toUInt32.toInt32))) (fun h => by rw [hret] at h; cases h) (fun fs hr => retOut X0 hx (t := .char) hret (XT.narrow_c _) (Or.inl ⟨rfl, by simp, _, rfl⟩) (hb hby d1_42) hr) e0 ⟨_, rfl, N0, rfl, own_c16 _⟩ (by decide) (by decide)
  ·
    refine own_go (fun _ ww => XS.ifNo X0.here hx rfl (hb hby d1_26) rfl (own_if .eq (feq hc1).1) ww) ?_
    show own_Goes _ _ _ _ _ _ _ (s₁.setTop (mkF m 29 #[.val (.long y), .second, .val (.int j), .val (.long ((XT.ushrL y ((17 : Int32) * j)) &&& (131071 : Int64))), .second, .val (.int ((((XT.ushrL y ((17 : Int32) * j)) &&& (131071 : Int64)) &&& (65535 : Int64)).toInt32))] []))
    refine own_go (fun _ ww => XS.bipush X0.here hx rfl (hb hby d1_29) ww) ?_
    show own_Goes _ _ _ _ _ _ _ (s₁.setTop (mkF m 31 #[.val (.long y), .second, .val (.int j), .val (.long ((XT.ushrL y ((17 : Int32) * j)) &&& (131071 : Int64))), .second, .val (.int ((((XT.ushrL y ((17 : Int32) * j)) &&& (131071 : Int64)) &&& (65535 : Int64)).toInt32))] [(.int (48 : Int32))]))
    refine own_go (fun _ ww => XS.iload X0.here hx rfl (hb hby d1_31) rfl  ww) ?_
    show own_Goes _ _ _ _ _ _ _ (s₁.setTop (mkF m 33 #[.val (.long y), .second, .val (.int j), .val (.long ((XT.ushrL y ((17 : Int32) * j)) &&& (131071 : Int64))), .second, .val (.int ((((XT.ushrL y ((17 : Int32) * j)) &&& (131071 : Int64)) &&& (65535 : Int64)).toInt32))] [(.int ((((XT.ushrL y ((17 : Int32) * j)) &&& (131071 : Int64)) &&& (65535 : Int64)).toInt32)), (.int (48 : Int32))]))
    refine own_go (fun _ ww => XS.bipush X0.here hx rfl (hb hby d1_33) ww) ?_
    show own_Goes _ _ _ _ _ _ _ (s₁.setTop (mkF m 35 #[.val (.long y), .second, .val (.int j), .val (.long ((XT.ushrL y ((17 : Int32) * j)) &&& (131071 : Int64))), .second, .val (.int ((((XT.ushrL y ((17 : Int32) * j)) &&& (131071 : Int64)) &&& (65535 : Int64)).toInt32))] [(.int (10 : Int32)), (.int ((((XT.ushrL y ((17 : Int32) * j)) &&& (131071 : Int64)) &&& (65535 : Int64)).toInt32)), (.int (48 : Int32))]))
    refine own_go (fun _ ww => iremM X0 hx rfl (hb hby d1_35) rfl (by decide) ww) ?_
    show own_Goes _ _ _ _ _ _ _ (s₁.setTop (mkF m 36 #[.val (.long y), .second, .val (.int j), .val (.long ((XT.ushrL y ((17 : Int32) * j)) &&& (131071 : Int64))), .second, .val (.int ((((XT.ushrL y ((17 : Int32) * j)) &&& (131071 : Int64)) &&& (65535 : Int64)).toInt32))] [(.int (((((XT.ushrL y ((17 : Int32) * j)) &&& (131071 : Int64)) &&& (65535 : Int64)).toInt32) % (10 : Int32))), (.int (48 : Int32))]))
    refine own_go (fun _ ww => XS.iadd X0.here hx rfl (hb hby d1_36) rfl ww) ?_
    show own_Goes _ _ _ _ _ _ _ (s₁.setTop (mkF m 37 #[.val (.long y), .second, .val (.int j), .val (.long ((XT.ushrL y ((17 : Int32) * j)) &&& (131071 : Int64))), .second, .val (.int ((((XT.ushrL y ((17 : Int32) * j)) &&& (131071 : Int64)) &&& (65535 : Int64)).toInt32))] [(.int ((48 : Int32) + (((((XT.ushrL y ((17 : Int32) * j)) &&& (131071 : Int64)) &&& (65535 : Int64)).toInt32) % (10 : Int32))))]))
    refine own_go (fun _ ww => XT.i2c X0.here hx rfl (hb hby d1_37) rfl ww) ?_
    show own_Goes _ _ _ _ _ _ _ (s₁.setTop (mkF m 38 #[.val (.long y), .second, .val (.int j), .val (.long ((XT.ushrL y ((17 : Int32) * j)) &&& (131071 : Int64))), .second, .val (.int ((((XT.ushrL y ((17 : Int32) * j)) &&& (131071 : Int64)) &&& (65535 : Int64)).toInt32))] [(.int (((48 : Int32) + (((((XT.ushrL y ((17 : Int32) * j)) &&& (131071 : Int64)) &&& (65535 : Int64)).toInt32) % (10 : Int32))).toUInt32.toUInt16.toUInt32.toInt32))]))
    exact own_out X0 hlk (v := some (.int (((48 : Int32) + (((((XT.ushrL y ((17 : Int32) * j)) &&& (131071 : Int64)) &&& (65535 : Int64)).toInt32) % (10 : Int32))).toUInt32.toUInt16.toUInt32.toInt32))) (fun h => by rw [hret] at h; cases h) (fun fs hr => retOut X0 hx (t := .char) hret (XT.narrow_c _) (Or.inl ⟨rfl, by simp, _, rfl⟩) (hb hby d1_38) hr) e0 ⟨_, rfl, N0, rfl, own_c16 _⟩ (by decide) (by decide)
theorem d6_0 : decode jdk_52_method_21_code 0 = .ok (.iconst 0, 1) := by decide +kernel
theorem d6_1 : decode jdk_52_method_21_code 1 = .ok (.istore 5, 2) := by decide +kernel
theorem d6_3 : decode jdk_52_method_21_code 3 = .ok (.iload 5, 2) := by decide +kernel
theorem d6_5 : decode jdk_52_method_21_code 5 = .ok (.iload 4, 2) := by decide +kernel
theorem d6_7 : decode jdk_52_method_21_code 7 = .ok (.if_icmp .ge 37, 3) := by decide +kernel
theorem d6_10 : decode jdk_52_method_21_code 10 = .ok (.aload_n 0, 1) := by decide +kernel
theorem d6_11 : decode jdk_52_method_21_code 11 = .ok (.iload_n 1, 1) := by decide +kernel
theorem d6_12 : decode jdk_52_method_21_code 12 = .ok (.caload, 1) := by decide +kernel
theorem d6_13 : decode jdk_52_method_21_code 13 = .ok (.istore 6, 2) := by decide +kernel
theorem d6_15 : decode jdk_52_method_21_code 15 = .ok (.iload 6, 2) := by decide +kernel
theorem d6_17 : decode jdk_52_method_21_code 17 = .ok (.sipush 255, 3) := by decide +kernel
theorem d6_20 : decode jdk_52_method_21_code 20 = .ok (.if_icmp .le 6, 3) := by decide +kernel
theorem d6_23 : decode jdk_52_method_21_code 23 = .ok (.iload 5, 2) := by decide +kernel
theorem d6_25 : decode jdk_52_method_21_code 25 = .ok (.ireturn, 1) := by decide +kernel
theorem ef_cm5_0 (m : MethodId) (b : Addr) (kb : ClassId) (d : Addr) (kd : ClassId) (c0 : Int32) (c1 : Int32) (c2 : Int32) (c3 : Int32) (c4 : Int32) (c5 : Int32) : entryFrame m #[(.ref b), (.int (0 : Int32)), (.ref d), (.int (0 : Int32)), (.int (6 : Int32))] 7 = mkF m 0 #[.val (.ref b), .val (.int (0 : Int32)), .val (.ref d), .val (.int (0 : Int32)), .val (.int (6 : Int32)), .unset, .unset] [] := by
  first | (simp [entryFrame, mkF, argsToLocals, Value.category]; done) | rfl
def Q_cm5_0 (Z : State) (b : Addr) (kb : ClassId) (d : Addr) (kd : ClassId) (c0 : Int32) (c1 : Int32) (c2 : Int32) (c3 : Int32) (c4 : Int32) (c5 : Int32) (h0 : Heap) (n0 : Nat) (v : Option Value) (h : Heap) (L : List Loc) : Prop := v = some (.int (0 : Int32)) ∧ Fr n0 L ∧ Keep h0 h [d]
set_option maxRecDepth 65536 in
set_option maxHeartbeats 40000000 in
theorem rm_cm5_0 (l : Launch) (Z : State) (a0 : Array Value) (hw : ∀ d ∈ tables_1, d.before a0 Z = true) (ws : List Jvm.Cond) (b : Addr) (kb : ClassId) (d : Addr) (kd : ClassId) (c0 : Int32) (c1 : Int32) (c2 : Int32) (c3 : Int32) (c4 : Int32) (c5 : Int32) (h0 : Heap) (n0 : Nat) (O0 : Old Z n0 h0) (Vb : Arv Z h0 b kb .char (6 : Int32) [(.int c0), (.int c1), (.int c2), (.int c3), (.int c4), (.int c5)] (.int (0 : Int32))) (Vd : Arv Z h0 d kd .byte (6 : Int32) [(.int (0 : Int32)), (.int (0 : Int32)), (.int (0 : Int32)), (.int (0 : Int32)), (.int (0 : Int32)), (.int (0 : Int32))] (.int (0 : Int32))) (g_d : n0 ≤ d) (nbd : b ≠ d) (hgt : (255 : Int32) < c0) :
    MetFree l (⟨"java/lang/StringUTF16", "compress", "([CI[BII)I"⟩ : MethodName) (head1 (Jvm.Cond.code (⟨"java/lang/StringUTF16", "compress", "([CI[BII)I"⟩ : MethodName) jdk_52_method_21_code 7 (some .int) :: ws) ({ frames := 0, cells := 0, slots := 0, locals := 0 } : Room)) (fun av_ U => av_ = #[(.ref b), (.int (0 : Int32)), (.ref d), (.int (0 : Int32)), (.int (6 : Int32))] ∧ Z.Warmed39 U.vm ∧ U.heap = h0) (fun _ _ _ _ _ => True) (fun _ U o_ U' => ∃ v L, o_ = .returned v ∧ Q_cm5_0 Z b kb d kd c0 c1 c2 c3 c4 c5 h0 n0 v U'.heap L ∧ FrameEnd U o_ U' L ({ frames := 0, cells := 0, slots := 0, locals := 0 } : Room).cells ({ frames := 0, cells := 0, slots := 0, locals := 0 } : Room).slots) := by
  refine MetFree.of_bodySF (plainFor_of_name pn_1) hisR ?_
  intro p e s m args below meth c s₁ Bd hml0 hP hK
  obtain ⟨rfl, hZ, hh⟩ := hP
  have hx := Bd.exec
  have hby := Bd.bytes
  have hml : c.maxLocals = 7 := hml0
  have hown : s.vm.findClass "java/lang/StringUTF16" = some m.cls := findClass_of_methodNamed Bd.named
  have hnm := (name_of_methodNamed Bd.named Bd.method).1
  have hlk := own_lk Bd
  have hret := Bd.returns
  have X0 : Stand p l e ({ frames := 0, cells := 0, slots := 0, locals := 0 } : Room) s m #[(.ref b), (.int (0 : Int32)), (.ref d), (.int (0 : Int32)), (.int (6 : Int32))] below meth c s₁ [] 0 0 := Stand.of_body Bd
  have e0 : s₁.heap = h0 := by rw [← hh, Bd.state]; rfl
  have N0 := Fr.nil n0
  show own_Goes p e below s (Q_cm5_0 Z b kb d kd c0 c1 c2 c3 c4 c5 h0 n0) ({ frames := 0, cells := 0, slots := 0, locals := 0 } : Room).cells ({ frames := 0, cells := 0, slots := 0, locals := 0 } : Room).slots (s₁.setTop (entryFrame m #[(.ref b), (.int (0 : Int32)), (.ref d), (.int (0 : Int32)), (.int (6 : Int32))] 7))
  refine own_go (fun _ ww => castTop (ef_cm5_0 m b kb d kd c0 c1 c2 c3 c4 c5) ww) ?_
  show own_Goes _ _ _ _ _ _ _ (s₁.setTop (mkF m 0 #[.val (.ref b), .val (.int (0 : Int32)), .val (.ref d), .val (.int (0 : Int32)), .val (.int (6 : Int32)), .unset, .unset] []))
  refine own_go (fun _ ww => XS.iconst X0.here hx rfl (hb hby d6_0) ww) ?_
  show own_Goes _ _ _ _ _ _ _ (s₁.setTop (mkF m 1 #[.val (.ref b), .val (.int (0 : Int32)), .val (.ref d), .val (.int (0 : Int32)), .val (.int (6 : Int32)), .unset, .unset] [(.int (0 : Int32))]))
  refine own_go (fun _ ww => XS.istore X0.here hx rfl (hb hby d6_1) rfl (l' := #[.val (.ref b), .val (.int (0 : Int32)), .val (.ref d), .val (.int (0 : Int32)), .val (.int (6 : Int32)), .val (.int (0 : Int32)), .unset]) rfl ww) ?_
  show own_Goes _ _ _ _ _ _ _ (s₁.setTop (mkF m 3 #[.val (.ref b), .val (.int (0 : Int32)), .val (.ref d), .val (.int (0 : Int32)), .val (.int (6 : Int32)), .val (.int (0 : Int32)), .unset] []))
  refine own_go (fun _ ww => XS.iload X0.here hx rfl (hb hby d6_3) rfl  ww) ?_
  show own_Goes _ _ _ _ _ _ _ (s₁.setTop (mkF m 5 #[.val (.ref b), .val (.int (0 : Int32)), .val (.ref d), .val (.int (0 : Int32)), .val (.int (6 : Int32)), .val (.int (0 : Int32)), .unset] [(.int (0 : Int32))]))
  refine own_go (fun _ ww => XS.iload X0.here hx rfl (hb hby d6_5) rfl  ww) ?_
  show own_Goes _ _ _ _ _ _ _ (s₁.setTop (mkF m 7 #[.val (.ref b), .val (.int (0 : Int32)), .val (.ref d), .val (.int (0 : Int32)), .val (.int (6 : Int32)), .val (.int (0 : Int32)), .unset] [(.int (6 : Int32)), (.int (0 : Int32))]))
  refine own_go (fun _ ww => XS.icmpNo X0.here hx rfl (hb hby d6_7) rfl (tlt (by decide : (0 : Int32) < (6 : Int32))).2.1 ww) ?_
  show own_Goes _ _ _ _ _ _ _ (s₁.setTop (mkF m 10 #[.val (.ref b), .val (.int (0 : Int32)), .val (.ref d), .val (.int (0 : Int32)), .val (.int (6 : Int32)), .val (.int (0 : Int32)), .unset] []))
  refine own_go (fun _ ww => XS.aloadN X0.here hx rfl (hb hby d6_10) rfl rfl ww) ?_
  show own_Goes _ _ _ _ _ _ _ (s₁.setTop (mkF m 11 #[.val (.ref b), .val (.int (0 : Int32)), .val (.ref d), .val (.int (0 : Int32)), .val (.int (6 : Int32)), .val (.int (0 : Int32)), .unset] [(.ref b)]))
  refine own_go (fun _ ww => XS.iloadN X0.here hx rfl (hb hby d6_11) rfl  ww) ?_
  show own_Goes _ _ _ _ _ _ _ (s₁.setTop (mkF m 12 #[.val (.ref b), .val (.int (0 : Int32)), .val (.ref d), .val (.int (0 : Int32)), .val (.int (6 : Int32)), .val (.int (0 : Int32)), .unset] [(.int (0 : Int32)), (.ref b)]))
  obtain ⟨cl2, Ar2, -, S2, -, H2, -⟩ := id Vb
  have hin2 := inb_of (j := (0 : Int32)) S2 ⟨by decide, by decide⟩
  have hat2 : cl2.slots[((0 : Int32)).toNatClampNeg]? = some (.int c0) := Has.at H2 hin2 rfl
  refine own_go (fun _ ww => X0.caload hx (j := (0 : Int32)) (v := (.int c0)) (by rw [e0]; exact Ar2.1) (State.isArrayOf_alike hZ.alike Ar2.2.1) Ar2.2.2 hin2 hat2 (g := (mkF m 12 #[.val (.ref b), .val (.int (0 : Int32)), .val (.ref d), .val (.int (0 : Int32)), .val (.int (6 : Int32)), .val (.int (0 : Int32)), .unset] [(.int (0 : Int32)), (.ref b)])) rfl rfl (hb hby d6_12) _ ww) ?_
  show own_Goes _ _ _ _ _ _ _ (s₁.setTop (mkF m 13 #[.val (.ref b), .val (.int (0 : Int32)), .val (.ref d), .val (.int (0 : Int32)), .val (.int (6 : Int32)), .val (.int (0 : Int32)), .unset] [(.int c0)]))
  refine own_go (fun _ ww => XS.istore X0.here hx rfl (hb hby d6_13) rfl (l' := #[.val (.ref b), .val (.int (0 : Int32)), .val (.ref d), .val (.int (0 : Int32)), .val (.int (6 : Int32)), .val (.int (0 : Int32)), .val (.int c0)]) rfl ww) ?_
  show own_Goes _ _ _ _ _ _ _ (s₁.setTop (mkF m 15 #[.val (.ref b), .val (.int (0 : Int32)), .val (.ref d), .val (.int (0 : Int32)), .val (.int (6 : Int32)), .val (.int (0 : Int32)), .val (.int c0)] []))
  refine own_go (fun _ ww => XS.iload X0.here hx rfl (hb hby d6_15) rfl  ww) ?_
  show own_Goes _ _ _ _ _ _ _ (s₁.setTop (mkF m 17 #[.val (.ref b), .val (.int (0 : Int32)), .val (.ref d), .val (.int (0 : Int32)), .val (.int (6 : Int32)), .val (.int (0 : Int32)), .val (.int c0)] [(.int c0)]))
  refine own_go (fun _ ww => XS.sipush X0.here hx rfl (hb hby d6_17) ww) ?_
  show own_Goes _ _ _ _ _ _ _ (s₁.setTop (mkF m 20 #[.val (.ref b), .val (.int (0 : Int32)), .val (.ref d), .val (.int (0 : Int32)), .val (.int (6 : Int32)), .val (.int (0 : Int32)), .val (.int c0)] [(.int (255 : Int32)), (.int c0)]))
  refine own_go (fun _ ww => XS.icmpNo X0.here hx rfl (hb hby d6_20) rfl (tlt hgt).2.2.2 ww) ?_
  show own_Goes _ _ _ _ _ _ _ (s₁.setTop (mkF m 23 #[.val (.ref b), .val (.int (0 : Int32)), .val (.ref d), .val (.int (0 : Int32)), .val (.int (6 : Int32)), .val (.int (0 : Int32)), .val (.int c0)] []))
  refine own_go (fun _ ww => XS.iload X0.here hx rfl (hb hby d6_23) rfl  ww) ?_
  show own_Goes _ _ _ _ _ _ _ (s₁.setTop (mkF m 25 #[.val (.ref b), .val (.int (0 : Int32)), .val (.ref d), .val (.int (0 : Int32)), .val (.int (6 : Int32)), .val (.int (0 : Int32)), .val (.int c0)] [(.int (0 : Int32))]))
  exact own_out X0 hlk (v := some (.int (0 : Int32))) (fun h => by rw [hret] at h; cases h) (fun fs hr => retOut X0 hx (t := .int) hret rfl (Or.inl ⟨rfl, by simp, _, rfl⟩) (hb hby d6_25) hr) e0 ⟨rfl, N0, (Keep.refl h0 [d])⟩ (by decide) (by decide)
theorem d6_26 : decode jdk_52_method_21_code 26 = .ok (.aload_n 2, 1) := by decide +kernel
theorem d6_27 : decode jdk_52_method_21_code 27 = .ok (.iload_n 3, 1) := by decide +kernel
theorem d6_28 : decode jdk_52_method_21_code 28 = .ok (.iload 6, 2) := by decide +kernel
theorem d6_30 : decode jdk_52_method_21_code 30 = .ok (.i2b, 1) := by decide +kernel
theorem d6_31 : decode jdk_52_method_21_code 31 = .ok (.bastore, 1) := by decide +kernel
theorem d6_32 : decode jdk_52_method_21_code 32 = .ok (.iinc 1 1, 3) := by decide +kernel
theorem d6_35 : decode jdk_52_method_21_code 35 = .ok (.iinc 3 1, 3) := by decide +kernel
theorem d6_38 : decode jdk_52_method_21_code 38 = .ok (.iinc 5 1, 3) := by decide +kernel
theorem d6_41 : decode jdk_52_method_21_code 41 = .ok (.goto (-38), 3) := by decide +kernel
theorem ef_cm5_1 (m : MethodId) (b : Addr) (kb : ClassId) (d : Addr) (kd : ClassId) (c0 : Int32) (c1 : Int32) (c2 : Int32) (c3 : Int32) (c4 : Int32) (c5 : Int32) : entryFrame m #[(.ref b), (.int (0 : Int32)), (.ref d), (.int (0 : Int32)), (.int (6 : Int32))] 7 = mkF m 0 #[.val (.ref b), .val (.int (0 : Int32)), .val (.ref d), .val (.int (0 : Int32)), .val (.int (6 : Int32)), .unset, .unset] [] := by
  first | (simp [entryFrame, mkF, argsToLocals, Value.category]; done) | rfl
def Q_cm5_1 (Z : State) (b : Addr) (kb : ClassId) (d : Addr) (kd : ClassId) (c0 : Int32) (c1 : Int32) (c2 : Int32) (c3 : Int32) (c4 : Int32) (c5 : Int32) (h0 : Heap) (n0 : Nat) (v : Option Value) (h : Heap) (L : List Loc) : Prop := v = some (.int (1 : Int32)) ∧ Fr n0 L ∧ Keep h0 h [d]
set_option maxRecDepth 65536 in
set_option maxHeartbeats 40000000 in
theorem rm_cm5_1 (l : Launch) (Z : State) (a0 : Array Value) (hw : ∀ d ∈ tables_1, d.before a0 Z = true) (ws : List Jvm.Cond) (b : Addr) (kb : ClassId) (d : Addr) (kd : ClassId) (c0 : Int32) (c1 : Int32) (c2 : Int32) (c3 : Int32) (c4 : Int32) (c5 : Int32) (h0 : Heap) (n0 : Nat) (O0 : Old Z n0 h0) (Vb : Arv Z h0 b kb .char (6 : Int32) [(.int c0), (.int c1), (.int c2), (.int c3), (.int c4), (.int c5)] (.int (0 : Int32))) (Vd : Arv Z h0 d kd .byte (6 : Int32) [(.int (0 : Int32)), (.int (0 : Int32)), (.int (0 : Int32)), (.int (0 : Int32)), (.int (0 : Int32)), (.int (0 : Int32))] (.int (0 : Int32))) (g_d : n0 ≤ d) (nbd : b ≠ d) (le0 : ¬ (255 : Int32) < c0) (hgt : (255 : Int32) < c1) :
    MetFree l (⟨"java/lang/StringUTF16", "compress", "([CI[BII)I"⟩ : MethodName) (head1 (Jvm.Cond.code (⟨"java/lang/StringUTF16", "compress", "([CI[BII)I"⟩ : MethodName) jdk_52_method_21_code 7 (some .int) :: ws) ({ frames := 0, cells := 0, slots := 0, locals := 0 } : Room)) (fun av_ U => av_ = #[(.ref b), (.int (0 : Int32)), (.ref d), (.int (0 : Int32)), (.int (6 : Int32))] ∧ Z.Warmed39 U.vm ∧ U.heap = h0) (fun _ _ _ _ _ => True) (fun _ U o_ U' => ∃ v L, o_ = .returned v ∧ Q_cm5_1 Z b kb d kd c0 c1 c2 c3 c4 c5 h0 n0 v U'.heap L ∧ FrameEnd U o_ U' L ({ frames := 0, cells := 0, slots := 0, locals := 0 } : Room).cells ({ frames := 0, cells := 0, slots := 0, locals := 0 } : Room).slots) := by
  refine MetFree.of_bodySF (plainFor_of_name pn_1) hisR ?_
  intro p e s m args below meth c s₁ Bd hml0 hP hK
  obtain ⟨rfl, hZ, hh⟩ := hP
  have hx := Bd.exec
  have hby := Bd.bytes
  have hml : c.maxLocals = 7 := hml0
  have hown : s.vm.findClass "java/lang/StringUTF16" = some m.cls := findClass_of_methodNamed Bd.named
  have hnm := (name_of_methodNamed Bd.named Bd.method).1
  have hlk := own_lk Bd
  have hret := Bd.returns
  have X0 : Stand p l e ({ frames := 0, cells := 0, slots := 0, locals := 0 } : Room) s m #[(.ref b), (.int (0 : Int32)), (.ref d), (.int (0 : Int32)), (.int (6 : Int32))] below meth c s₁ [] 0 0 := Stand.of_body Bd
  have e0 : s₁.heap = h0 := by rw [← hh, Bd.state]; rfl
  have N0 := Fr.nil n0
  show own_Goes p e below s (Q_cm5_1 Z b kb d kd c0 c1 c2 c3 c4 c5 h0 n0) ({ frames := 0, cells := 0, slots := 0, locals := 0 } : Room).cells ({ frames := 0, cells := 0, slots := 0, locals := 0 } : Room).slots (s₁.setTop (entryFrame m #[(.ref b), (.int (0 : Int32)), (.ref d), (.int (0 : Int32)), (.int (6 : Int32))] 7))
  refine own_go (fun _ ww => castTop (ef_cm5_1 m b kb d kd c0 c1 c2 c3 c4 c5) ww) ?_
  show own_Goes _ _ _ _ _ _ _ (s₁.setTop (mkF m 0 #[.val (.ref b), .val (.int (0 : Int32)), .val (.ref d), .val (.int (0 : Int32)), .val (.int (6 : Int32)), .unset, .unset] []))
  refine own_go (fun _ ww => XS.iconst X0.here hx rfl (hb hby d6_0) ww) ?_
  show own_Goes _ _ _ _ _ _ _ (s₁.setTop (mkF m 1 #[.val (.ref b), .val (.int (0 : Int32)), .val (.ref d), .val (.int (0 : Int32)), .val (.int (6 : Int32)), .unset, .unset] [(.int (0 : Int32))]))
  refine own_go (fun _ ww => XS.istore X0.here hx rfl (hb hby d6_1) rfl (l' := #[.val (.ref b), .val (.int (0 : Int32)), .val (.ref d), .val (.int (0 : Int32)), .val (.int (6 : Int32)), .val (.int (0 : Int32)), .unset]) rfl ww) ?_
  show own_Goes _ _ _ _ _ _ _ (s₁.setTop (mkF m 3 #[.val (.ref b), .val (.int (0 : Int32)), .val (.ref d), .val (.int (0 : Int32)), .val (.int (6 : Int32)), .val (.int (0 : Int32)), .unset] []))
  refine own_go (fun _ ww => XS.iload X0.here hx rfl (hb hby d6_3) rfl  ww) ?_
  show own_Goes _ _ _ _ _ _ _ (s₁.setTop (mkF m 5 #[.val (.ref b), .val (.int (0 : Int32)), .val (.ref d), .val (.int (0 : Int32)), .val (.int (6 : Int32)), .val (.int (0 : Int32)), .unset] [(.int (0 : Int32))]))
  refine own_go (fun _ ww => XS.iload X0.here hx rfl (hb hby d6_5) rfl  ww) ?_
  show own_Goes _ _ _ _ _ _ _ (s₁.setTop (mkF m 7 #[.val (.ref b), .val (.int (0 : Int32)), .val (.ref d), .val (.int (0 : Int32)), .val (.int (6 : Int32)), .val (.int (0 : Int32)), .unset] [(.int (6 : Int32)), (.int (0 : Int32))]))
  refine own_go (fun _ ww => XS.icmpNo X0.here hx rfl (hb hby d6_7) rfl (tlt (by decide : (0 : Int32) < (6 : Int32))).2.1 ww) ?_
  show own_Goes _ _ _ _ _ _ _ (s₁.setTop (mkF m 10 #[.val (.ref b), .val (.int (0 : Int32)), .val (.ref d), .val (.int (0 : Int32)), .val (.int (6 : Int32)), .val (.int (0 : Int32)), .unset] []))
  refine own_go (fun _ ww => XS.aloadN X0.here hx rfl (hb hby d6_10) rfl rfl ww) ?_
  show own_Goes _ _ _ _ _ _ _ (s₁.setTop (mkF m 11 #[.val (.ref b), .val (.int (0 : Int32)), .val (.ref d), .val (.int (0 : Int32)), .val (.int (6 : Int32)), .val (.int (0 : Int32)), .unset] [(.ref b)]))
  refine own_go (fun _ ww => XS.iloadN X0.here hx rfl (hb hby d6_11) rfl  ww) ?_
  show own_Goes _ _ _ _ _ _ _ (s₁.setTop (mkF m 12 #[.val (.ref b), .val (.int (0 : Int32)), .val (.ref d), .val (.int (0 : Int32)), .val (.int (6 : Int32)), .val (.int (0 : Int32)), .unset] [(.int (0 : Int32)), (.ref b)]))
  obtain ⟨cl3, Ar3, -, S3, -, H3, -⟩ := id Vb
  have hin3 := inb_of (j := (0 : Int32)) S3 ⟨by decide, by decide⟩
  have hat3 : cl3.slots[((0 : Int32)).toNatClampNeg]? = some (.int c0) := Has.at H3 hin3 rfl
  refine own_go (fun _ ww => X0.caload hx (j := (0 : Int32)) (v := (.int c0)) (by rw [e0]; exact Ar3.1) (State.isArrayOf_alike hZ.alike Ar3.2.1) Ar3.2.2 hin3 hat3 (g := (mkF m 12 #[.val (.ref b), .val (.int (0 : Int32)), .val (.ref d), .val (.int (0 : Int32)), .val (.int (6 : Int32)), .val (.int (0 : Int32)), .unset] [(.int (0 : Int32)), (.ref b)])) rfl rfl (hb hby d6_12) _ ww) ?_
  show own_Goes _ _ _ _ _ _ _ (s₁.setTop (mkF m 13 #[.val (.ref b), .val (.int (0 : Int32)), .val (.ref d), .val (.int (0 : Int32)), .val (.int (6 : Int32)), .val (.int (0 : Int32)), .unset] [(.int c0)]))
  refine own_go (fun _ ww => XS.istore X0.here hx rfl (hb hby d6_13) rfl (l' := #[.val (.ref b), .val (.int (0 : Int32)), .val (.ref d), .val (.int (0 : Int32)), .val (.int (6 : Int32)), .val (.int (0 : Int32)), .val (.int c0)]) rfl ww) ?_
  show own_Goes _ _ _ _ _ _ _ (s₁.setTop (mkF m 15 #[.val (.ref b), .val (.int (0 : Int32)), .val (.ref d), .val (.int (0 : Int32)), .val (.int (6 : Int32)), .val (.int (0 : Int32)), .val (.int c0)] []))
  refine own_go (fun _ ww => XS.iload X0.here hx rfl (hb hby d6_15) rfl  ww) ?_
  show own_Goes _ _ _ _ _ _ _ (s₁.setTop (mkF m 17 #[.val (.ref b), .val (.int (0 : Int32)), .val (.ref d), .val (.int (0 : Int32)), .val (.int (6 : Int32)), .val (.int (0 : Int32)), .val (.int c0)] [(.int c0)]))
  refine own_go (fun _ ww => XS.sipush X0.here hx rfl (hb hby d6_17) ww) ?_
  show own_Goes _ _ _ _ _ _ _ (s₁.setTop (mkF m 20 #[.val (.ref b), .val (.int (0 : Int32)), .val (.ref d), .val (.int (0 : Int32)), .val (.int (6 : Int32)), .val (.int (0 : Int32)), .val (.int c0)] [(.int (255 : Int32)), (.int c0)]))
  refine own_go (fun _ ww => XS.icmpYes X0.here hx rfl (pc0 := 20) (pc' := 26) rfl (hb hby d6_20) rfl (flt le0).2.2.2 (by decide) (by decide) ww) ?_
  show own_Goes _ _ _ _ _ _ _ (s₁.setTop (mkF m 26 #[.val (.ref b), .val (.int (0 : Int32)), .val (.ref d), .val (.int (0 : Int32)), .val (.int (6 : Int32)), .val (.int (0 : Int32)), .val (.int c0)] []))
  refine own_go (fun _ ww => XS.aloadN X0.here hx rfl (hb hby d6_26) rfl rfl ww) ?_
  show own_Goes _ _ _ _ _ _ _ (s₁.setTop (mkF m 27 #[.val (.ref b), .val (.int (0 : Int32)), .val (.ref d), .val (.int (0 : Int32)), .val (.int (6 : Int32)), .val (.int (0 : Int32)), .val (.int c0)] [(.ref d)]))
  refine own_go (fun _ ww => XS.iloadN X0.here hx rfl (hb hby d6_27) rfl  ww) ?_
  show own_Goes _ _ _ _ _ _ _ (s₁.setTop (mkF m 28 #[.val (.ref b), .val (.int (0 : Int32)), .val (.ref d), .val (.int (0 : Int32)), .val (.int (6 : Int32)), .val (.int (0 : Int32)), .val (.int c0)] [(.int (0 : Int32)), (.ref d)]))
  refine own_go (fun _ ww => XS.iload X0.here hx rfl (hb hby d6_28) rfl  ww) ?_
  show own_Goes _ _ _ _ _ _ _ (s₁.setTop (mkF m 30 #[.val (.ref b), .val (.int (0 : Int32)), .val (.ref d), .val (.int (0 : Int32)), .val (.int (6 : Int32)), .val (.int (0 : Int32)), .val (.int c0)] [(.int c0), (.int (0 : Int32)), (.ref d)]))
  refine own_go (fun _ ww => XT.i2b X0.here hx rfl (hb hby d6_30) rfl ww) ?_
  show own_Goes _ _ _ _ _ _ _ (s₁.setTop (mkF m 31 #[.val (.ref b), .val (.int (0 : Int32)), .val (.ref d), .val (.int (0 : Int32)), .val (.int (6 : Int32)), .val (.int (0 : Int32)), .val (.int c0)] [(.int (c0.toInt8.toInt32)), (.int (0 : Int32)), (.ref d)]))
  obtain ⟨cl4, Ar4, q4, S4, M4, H4, U4⟩ := id Vd
  obtain ⟨T4, h4, X4, e4, W4, st4⟩ := stB X0 hx hZ e0 Ar4 (j := (0 : Int32)) (inb_of S4 ⟨by decide, by decide⟩) (g := (mkF m 31 #[.val (.ref b), .val (.int (0 : Int32)), .val (.ref d), .val (.int (0 : Int32)), .val (.int (6 : Int32)), .val (.int (0 : Int32)), .val (.int c0)] [(.int (c0.toInt8.toInt32)), (.int (0 : Int32)), (.ref d)])) rfl rfl (hb hby d6_31)
  have nr4 : nar .byte (c0.toInt8.toInt32) = (c0.toInt8.toInt32) := (own_narb _)
  rw [nr4] at W4
  have ft4 : fits .byte (.int (c0.toInt8.toInt32)) = true := (fits_nar_byte _)
  have f5 : Arv Z h4 b kb .char (6 : Int32) [(.int c0), (.int c1), (.int c2), (.int c3), (.int c4), (.int c5)] (.int (0 : Int32)) := (Vb.other W4 nbd)
  have f6 : Arv Z h4 d kd .byte (6 : Int32) [(.int (c0.toInt8.toInt32)), (.int (0 : Int32)), (.int (0 : Int32)), (.int (0 : Int32)), (.int (0 : Int32)), (.int (0 : Int32))] (.int (0 : Int32)) := (Arv.set Ar4 q4 S4 M4 H4 U4 ft4 W4 0 rfl (Nat.le_of_ble_eq_true rfl))
  have N4 := Fr.snoc X4 N0 g_d
  have O4 := O0.wr W4 g_d
  have K4 := (Keep.refl h0 [d]).wr W4 (Or.inl (List.mem_of_getElem? (i := 0) rfl))
  refine own_go st4 ?_
  show own_Goes _ _ _ _ _ _ _ (T4.setTop (mkF m 32 #[.val (.ref b), .val (.int (0 : Int32)), .val (.ref d), .val (.int (0 : Int32)), .val (.int (6 : Int32)), .val (.int (0 : Int32)), .val (.int c0)] []))
  refine own_go (fun _ ww => XS.iinc X4.here hx rfl (hb hby d6_32) rfl (l' := #[.val (.ref b), .val (.int (1 : Int32)), .val (.ref d), .val (.int (0 : Int32)), .val (.int (6 : Int32)), .val (.int (0 : Int32)), .val (.int c0)]) rfl ww) ?_
  show own_Goes _ _ _ _ _ _ _ (T4.setTop (mkF m 35 #[.val (.ref b), .val (.int (1 : Int32)), .val (.ref d), .val (.int (0 : Int32)), .val (.int (6 : Int32)), .val (.int (0 : Int32)), .val (.int c0)] []))
  refine own_go (fun _ ww => XS.iinc X4.here hx rfl (hb hby d6_35) rfl (l' := #[.val (.ref b), .val (.int (1 : Int32)), .val (.ref d), .val (.int (1 : Int32)), .val (.int (6 : Int32)), .val (.int (0 : Int32)), .val (.int c0)]) rfl ww) ?_
  show own_Goes _ _ _ _ _ _ _ (T4.setTop (mkF m 38 #[.val (.ref b), .val (.int (1 : Int32)), .val (.ref d), .val (.int (1 : Int32)), .val (.int (6 : Int32)), .val (.int (0 : Int32)), .val (.int c0)] []))
  refine own_go (fun _ ww => XS.iinc X4.here hx rfl (hb hby d6_38) rfl (l' := #[.val (.ref b), .val (.int (1 : Int32)), .val (.ref d), .val (.int (1 : Int32)), .val (.int (6 : Int32)), .val (.int (1 : Int32)), .val (.int c0)]) rfl ww) ?_
  show own_Goes _ _ _ _ _ _ _ (T4.setTop (mkF m 41 #[.val (.ref b), .val (.int (1 : Int32)), .val (.ref d), .val (.int (1 : Int32)), .val (.int (6 : Int32)), .val (.int (1 : Int32)), .val (.int c0)] []))
  refine own_go (fun _ ww => XS.goto X4.here hx rfl (pc0 := 41) (pc' := 3) rfl (hb hby d6_41) (by decide) (by decide) ww) ?_
  show own_Goes _ _ _ _ _ _ _ (T4.setTop (mkF m 3 #[.val (.ref b), .val (.int (1 : Int32)), .val (.ref d), .val (.int (1 : Int32)), .val (.int (6 : Int32)), .val (.int (1 : Int32)), .val (.int c0)] []))
  refine own_go (fun _ ww => XS.iload X4.here hx rfl (hb hby d6_3) rfl  ww) ?_
  show own_Goes _ _ _ _ _ _ _ (T4.setTop (mkF m 5 #[.val (.ref b), .val (.int (1 : Int32)), .val (.ref d), .val (.int (1 : Int32)), .val (.int (6 : Int32)), .val (.int (1 : Int32)), .val (.int c0)] [(.int (1 : Int32))]))
  refine own_go (fun _ ww => XS.iload X4.here hx rfl (hb hby d6_5) rfl  ww) ?_
  show own_Goes _ _ _ _ _ _ _ (T4.setTop (mkF m 7 #[.val (.ref b), .val (.int (1 : Int32)), .val (.ref d), .val (.int (1 : Int32)), .val (.int (6 : Int32)), .val (.int (1 : Int32)), .val (.int c0)] [(.int (6 : Int32)), (.int (1 : Int32))]))
  refine own_go (fun _ ww => XS.icmpNo X4.here hx rfl (hb hby d6_7) rfl (tlt (by decide : (1 : Int32) < (6 : Int32))).2.1 ww) ?_
  show own_Goes _ _ _ _ _ _ _ (T4.setTop (mkF m 10 #[.val (.ref b), .val (.int (1 : Int32)), .val (.ref d), .val (.int (1 : Int32)), .val (.int (6 : Int32)), .val (.int (1 : Int32)), .val (.int c0)] []))
  refine own_go (fun _ ww => XS.aloadN X4.here hx rfl (hb hby d6_10) rfl rfl ww) ?_
  show own_Goes _ _ _ _ _ _ _ (T4.setTop (mkF m 11 #[.val (.ref b), .val (.int (1 : Int32)), .val (.ref d), .val (.int (1 : Int32)), .val (.int (6 : Int32)), .val (.int (1 : Int32)), .val (.int c0)] [(.ref b)]))
  refine own_go (fun _ ww => XS.iloadN X4.here hx rfl (hb hby d6_11) rfl  ww) ?_
  show own_Goes _ _ _ _ _ _ _ (T4.setTop (mkF m 12 #[.val (.ref b), .val (.int (1 : Int32)), .val (.ref d), .val (.int (1 : Int32)), .val (.int (6 : Int32)), .val (.int (1 : Int32)), .val (.int c0)] [(.int (1 : Int32)), (.ref b)]))
  obtain ⟨cl7, Ar7, -, S7, -, H7, -⟩ := id f5
  have hin7 := inb_of (j := (1 : Int32)) S7 ⟨by decide, by decide⟩
  have hat7 : cl7.slots[((1 : Int32)).toNatClampNeg]? = some (.int c1) := Has.at H7 hin7 rfl
  refine own_go (fun _ ww => X4.caload hx (j := (1 : Int32)) (v := (.int c1)) (by rw [e4]; exact Ar7.1) (State.isArrayOf_alike hZ.alike Ar7.2.1) Ar7.2.2 hin7 hat7 (g := (mkF m 12 #[.val (.ref b), .val (.int (1 : Int32)), .val (.ref d), .val (.int (1 : Int32)), .val (.int (6 : Int32)), .val (.int (1 : Int32)), .val (.int c0)] [(.int (1 : Int32)), (.ref b)])) rfl rfl (hb hby d6_12) _ ww) ?_
  show own_Goes _ _ _ _ _ _ _ (T4.setTop (mkF m 13 #[.val (.ref b), .val (.int (1 : Int32)), .val (.ref d), .val (.int (1 : Int32)), .val (.int (6 : Int32)), .val (.int (1 : Int32)), .val (.int c0)] [(.int c1)]))
  refine own_go (fun _ ww => XS.istore X4.here hx rfl (hb hby d6_13) rfl (l' := #[.val (.ref b), .val (.int (1 : Int32)), .val (.ref d), .val (.int (1 : Int32)), .val (.int (6 : Int32)), .val (.int (1 : Int32)), .val (.int c1)]) rfl ww) ?_
  show own_Goes _ _ _ _ _ _ _ (T4.setTop (mkF m 15 #[.val (.ref b), .val (.int (1 : Int32)), .val (.ref d), .val (.int (1 : Int32)), .val (.int (6 : Int32)), .val (.int (1 : Int32)), .val (.int c1)] []))
  refine own_go (fun _ ww => XS.iload X4.here hx rfl (hb hby d6_15) rfl  ww) ?_
  show own_Goes _ _ _ _ _ _ _ (T4.setTop (mkF m 17 #[.val (.ref b), .val (.int (1 : Int32)), .val (.ref d), .val (.int (1 : Int32)), .val (.int (6 : Int32)), .val (.int (1 : Int32)), .val (.int c1)] [(.int c1)]))
  refine own_go (fun _ ww => XS.sipush X4.here hx rfl (hb hby d6_17) ww) ?_
  show own_Goes _ _ _ _ _ _ _ (T4.setTop (mkF m 20 #[.val (.ref b), .val (.int (1 : Int32)), .val (.ref d), .val (.int (1 : Int32)), .val (.int (6 : Int32)), .val (.int (1 : Int32)), .val (.int c1)] [(.int (255 : Int32)), (.int c1)]))
  refine own_go (fun _ ww => XS.icmpNo X4.here hx rfl (hb hby d6_20) rfl (tlt hgt).2.2.2 ww) ?_
  show own_Goes _ _ _ _ _ _ _ (T4.setTop (mkF m 23 #[.val (.ref b), .val (.int (1 : Int32)), .val (.ref d), .val (.int (1 : Int32)), .val (.int (6 : Int32)), .val (.int (1 : Int32)), .val (.int c1)] []))
  refine own_go (fun _ ww => XS.iload X4.here hx rfl (hb hby d6_23) rfl  ww) ?_
  show own_Goes _ _ _ _ _ _ _ (T4.setTop (mkF m 25 #[.val (.ref b), .val (.int (1 : Int32)), .val (.ref d), .val (.int (1 : Int32)), .val (.int (6 : Int32)), .val (.int (1 : Int32)), .val (.int c1)] [(.int (1 : Int32))]))
  exact own_out X4 hlk (v := some (.int (1 : Int32))) (fun h => by rw [hret] at h; cases h) (fun fs hr => retOut X4 hx (t := .int) hret rfl (Or.inl ⟨rfl, by simp, _, rfl⟩) (hb hby d6_25) hr) e4 ⟨rfl, N4, K4⟩ (by decide) (by decide)
theorem ef_cm5_2 (m : MethodId) (b : Addr) (kb : ClassId) (d : Addr) (kd : ClassId) (c0 : Int32) (c1 : Int32) (c2 : Int32) (c3 : Int32) (c4 : Int32) (c5 : Int32) : entryFrame m #[(.ref b), (.int (0 : Int32)), (.ref d), (.int (0 : Int32)), (.int (6 : Int32))] 7 = mkF m 0 #[.val (.ref b), .val (.int (0 : Int32)), .val (.ref d), .val (.int (0 : Int32)), .val (.int (6 : Int32)), .unset, .unset] [] := by
  first | (simp [entryFrame, mkF, argsToLocals, Value.category]; done) | rfl
def Q_cm5_2 (Z : State) (b : Addr) (kb : ClassId) (d : Addr) (kd : ClassId) (c0 : Int32) (c1 : Int32) (c2 : Int32) (c3 : Int32) (c4 : Int32) (c5 : Int32) (h0 : Heap) (n0 : Nat) (v : Option Value) (h : Heap) (L : List Loc) : Prop := v = some (.int (2 : Int32)) ∧ Fr n0 L ∧ Keep h0 h [d]
set_option maxRecDepth 65536 in
set_option maxHeartbeats 40000000 in
theorem rm_cm5_2 (l : Launch) (Z : State) (a0 : Array Value) (hw : ∀ d ∈ tables_1, d.before a0 Z = true) (ws : List Jvm.Cond) (b : Addr) (kb : ClassId) (d : Addr) (kd : ClassId) (c0 : Int32) (c1 : Int32) (c2 : Int32) (c3 : Int32) (c4 : Int32) (c5 : Int32) (h0 : Heap) (n0 : Nat) (O0 : Old Z n0 h0) (Vb : Arv Z h0 b kb .char (6 : Int32) [(.int c0), (.int c1), (.int c2), (.int c3), (.int c4), (.int c5)] (.int (0 : Int32))) (Vd : Arv Z h0 d kd .byte (6 : Int32) [(.int (0 : Int32)), (.int (0 : Int32)), (.int (0 : Int32)), (.int (0 : Int32)), (.int (0 : Int32)), (.int (0 : Int32))] (.int (0 : Int32))) (g_d : n0 ≤ d) (nbd : b ≠ d) (le0 : ¬ (255 : Int32) < c0) (le1 : ¬ (255 : Int32) < c1) (hgt : (255 : Int32) < c2) :
    MetFree l (⟨"java/lang/StringUTF16", "compress", "([CI[BII)I"⟩ : MethodName) (head1 (Jvm.Cond.code (⟨"java/lang/StringUTF16", "compress", "([CI[BII)I"⟩ : MethodName) jdk_52_method_21_code 7 (some .int) :: ws) ({ frames := 0, cells := 0, slots := 0, locals := 0 } : Room)) (fun av_ U => av_ = #[(.ref b), (.int (0 : Int32)), (.ref d), (.int (0 : Int32)), (.int (6 : Int32))] ∧ Z.Warmed39 U.vm ∧ U.heap = h0) (fun _ _ _ _ _ => True) (fun _ U o_ U' => ∃ v L, o_ = .returned v ∧ Q_cm5_2 Z b kb d kd c0 c1 c2 c3 c4 c5 h0 n0 v U'.heap L ∧ FrameEnd U o_ U' L ({ frames := 0, cells := 0, slots := 0, locals := 0 } : Room).cells ({ frames := 0, cells := 0, slots := 0, locals := 0 } : Room).slots) := by
  refine MetFree.of_bodySF (plainFor_of_name pn_1) hisR ?_
  intro p e s m args below meth c s₁ Bd hml0 hP hK
  obtain ⟨rfl, hZ, hh⟩ := hP
  have hx := Bd.exec
  have hby := Bd.bytes
  have hml : c.maxLocals = 7 := hml0
  have hown : s.vm.findClass "java/lang/StringUTF16" = some m.cls := findClass_of_methodNamed Bd.named
  have hnm := (name_of_methodNamed Bd.named Bd.method).1
  have hlk := own_lk Bd
  have hret := Bd.returns
  have X0 : Stand p l e ({ frames := 0, cells := 0, slots := 0, locals := 0 } : Room) s m #[(.ref b), (.int (0 : Int32)), (.ref d), (.int (0 : Int32)), (.int (6 : Int32))] below meth c s₁ [] 0 0 := Stand.of_body Bd
  have e0 : s₁.heap = h0 := by rw [← hh, Bd.state]; rfl
  have N0 := Fr.nil n0
  show own_Goes p e below s (Q_cm5_2 Z b kb d kd c0 c1 c2 c3 c4 c5 h0 n0) ({ frames := 0, cells := 0, slots := 0, locals := 0 } : Room).cells ({ frames := 0, cells := 0, slots := 0, locals := 0 } : Room).slots (s₁.setTop (entryFrame m #[(.ref b), (.int (0 : Int32)), (.ref d), (.int (0 : Int32)), (.int (6 : Int32))] 7))
  refine own_go (fun _ ww => castTop (ef_cm5_2 m b kb d kd c0 c1 c2 c3 c4 c5) ww) ?_
  show own_Goes _ _ _ _ _ _ _ (s₁.setTop (mkF m 0 #[.val (.ref b), .val (.int (0 : Int32)), .val (.ref d), .val (.int (0 : Int32)), .val (.int (6 : Int32)), .unset, .unset] []))
  refine own_go (fun _ ww => XS.iconst X0.here hx rfl (hb hby d6_0) ww) ?_
  show own_Goes _ _ _ _ _ _ _ (s₁.setTop (mkF m 1 #[.val (.ref b), .val (.int (0 : Int32)), .val (.ref d), .val (.int (0 : Int32)), .val (.int (6 : Int32)), .unset, .unset] [(.int (0 : Int32))]))
  refine own_go (fun _ ww => XS.istore X0.here hx rfl (hb hby d6_1) rfl (l' := #[.val (.ref b), .val (.int (0 : Int32)), .val (.ref d), .val (.int (0 : Int32)), .val (.int (6 : Int32)), .val (.int (0 : Int32)), .unset]) rfl ww) ?_
  show own_Goes _ _ _ _ _ _ _ (s₁.setTop (mkF m 3 #[.val (.ref b), .val (.int (0 : Int32)), .val (.ref d), .val (.int (0 : Int32)), .val (.int (6 : Int32)), .val (.int (0 : Int32)), .unset] []))
  refine own_go (fun _ ww => XS.iload X0.here hx rfl (hb hby d6_3) rfl  ww) ?_
  show own_Goes _ _ _ _ _ _ _ (s₁.setTop (mkF m 5 #[.val (.ref b), .val (.int (0 : Int32)), .val (.ref d), .val (.int (0 : Int32)), .val (.int (6 : Int32)), .val (.int (0 : Int32)), .unset] [(.int (0 : Int32))]))
  refine own_go (fun _ ww => XS.iload X0.here hx rfl (hb hby d6_5) rfl  ww) ?_
  show own_Goes _ _ _ _ _ _ _ (s₁.setTop (mkF m 7 #[.val (.ref b), .val (.int (0 : Int32)), .val (.ref d), .val (.int (0 : Int32)), .val (.int (6 : Int32)), .val (.int (0 : Int32)), .unset] [(.int (6 : Int32)), (.int (0 : Int32))]))
  refine own_go (fun _ ww => XS.icmpNo X0.here hx rfl (hb hby d6_7) rfl (tlt (by decide : (0 : Int32) < (6 : Int32))).2.1 ww) ?_
  show own_Goes _ _ _ _ _ _ _ (s₁.setTop (mkF m 10 #[.val (.ref b), .val (.int (0 : Int32)), .val (.ref d), .val (.int (0 : Int32)), .val (.int (6 : Int32)), .val (.int (0 : Int32)), .unset] []))
  refine own_go (fun _ ww => XS.aloadN X0.here hx rfl (hb hby d6_10) rfl rfl ww) ?_
  show own_Goes _ _ _ _ _ _ _ (s₁.setTop (mkF m 11 #[.val (.ref b), .val (.int (0 : Int32)), .val (.ref d), .val (.int (0 : Int32)), .val (.int (6 : Int32)), .val (.int (0 : Int32)), .unset] [(.ref b)]))
  refine own_go (fun _ ww => XS.iloadN X0.here hx rfl (hb hby d6_11) rfl  ww) ?_
  show own_Goes _ _ _ _ _ _ _ (s₁.setTop (mkF m 12 #[.val (.ref b), .val (.int (0 : Int32)), .val (.ref d), .val (.int (0 : Int32)), .val (.int (6 : Int32)), .val (.int (0 : Int32)), .unset] [(.int (0 : Int32)), (.ref b)]))
  obtain ⟨cl8, Ar8, -, S8, -, H8, -⟩ := id Vb
  have hin8 := inb_of (j := (0 : Int32)) S8 ⟨by decide, by decide⟩
  have hat8 : cl8.slots[((0 : Int32)).toNatClampNeg]? = some (.int c0) := Has.at H8 hin8 rfl
  refine own_go (fun _ ww => X0.caload hx (j := (0 : Int32)) (v := (.int c0)) (by rw [e0]; exact Ar8.1) (State.isArrayOf_alike hZ.alike Ar8.2.1) Ar8.2.2 hin8 hat8 (g := (mkF m 12 #[.val (.ref b), .val (.int (0 : Int32)), .val (.ref d), .val (.int (0 : Int32)), .val (.int (6 : Int32)), .val (.int (0 : Int32)), .unset] [(.int (0 : Int32)), (.ref b)])) rfl rfl (hb hby d6_12) _ ww) ?_
  show own_Goes _ _ _ _ _ _ _ (s₁.setTop (mkF m 13 #[.val (.ref b), .val (.int (0 : Int32)), .val (.ref d), .val (.int (0 : Int32)), .val (.int (6 : Int32)), .val (.int (0 : Int32)), .unset] [(.int c0)]))
  refine own_go (fun _ ww => XS.istore X0.here hx rfl (hb hby d6_13) rfl (l' := #[.val (.ref b), .val (.int (0 : Int32)), .val (.ref d), .val (.int (0 : Int32)), .val (.int (6 : Int32)), .val (.int (0 : Int32)), .val (.int c0)]) rfl ww) ?_
  show own_Goes _ _ _ _ _ _ _ (s₁.setTop (mkF m 15 #[.val (.ref b), .val (.int (0 : Int32)), .val (.ref d), .val (.int (0 : Int32)), .val (.int (6 : Int32)), .val (.int (0 : Int32)), .val (.int c0)] []))
  refine own_go (fun _ ww => XS.iload X0.here hx rfl (hb hby d6_15) rfl  ww) ?_
  show own_Goes _ _ _ _ _ _ _ (s₁.setTop (mkF m 17 #[.val (.ref b), .val (.int (0 : Int32)), .val (.ref d), .val (.int (0 : Int32)), .val (.int (6 : Int32)), .val (.int (0 : Int32)), .val (.int c0)] [(.int c0)]))
  refine own_go (fun _ ww => XS.sipush X0.here hx rfl (hb hby d6_17) ww) ?_
  show own_Goes _ _ _ _ _ _ _ (s₁.setTop (mkF m 20 #[.val (.ref b), .val (.int (0 : Int32)), .val (.ref d), .val (.int (0 : Int32)), .val (.int (6 : Int32)), .val (.int (0 : Int32)), .val (.int c0)] [(.int (255 : Int32)), (.int c0)]))
  refine own_go (fun _ ww => XS.icmpYes X0.here hx rfl (pc0 := 20) (pc' := 26) rfl (hb hby d6_20) rfl (flt le0).2.2.2 (by decide) (by decide) ww) ?_
  show own_Goes _ _ _ _ _ _ _ (s₁.setTop (mkF m 26 #[.val (.ref b), .val (.int (0 : Int32)), .val (.ref d), .val (.int (0 : Int32)), .val (.int (6 : Int32)), .val (.int (0 : Int32)), .val (.int c0)] []))
  refine own_go (fun _ ww => XS.aloadN X0.here hx rfl (hb hby d6_26) rfl rfl ww) ?_
  show own_Goes _ _ _ _ _ _ _ (s₁.setTop (mkF m 27 #[.val (.ref b), .val (.int (0 : Int32)), .val (.ref d), .val (.int (0 : Int32)), .val (.int (6 : Int32)), .val (.int (0 : Int32)), .val (.int c0)] [(.ref d)]))
  refine own_go (fun _ ww => XS.iloadN X0.here hx rfl (hb hby d6_27) rfl  ww) ?_
  show own_Goes _ _ _ _ _ _ _ (s₁.setTop (mkF m 28 #[.val (.ref b), .val (.int (0 : Int32)), .val (.ref d), .val (.int (0 : Int32)), .val (.int (6 : Int32)), .val (.int (0 : Int32)), .val (.int c0)] [(.int (0 : Int32)), (.ref d)]))
  refine own_go (fun _ ww => XS.iload X0.here hx rfl (hb hby d6_28) rfl  ww) ?_
  show own_Goes _ _ _ _ _ _ _ (s₁.setTop (mkF m 30 #[.val (.ref b), .val (.int (0 : Int32)), .val (.ref d), .val (.int (0 : Int32)), .val (.int (6 : Int32)), .val (.int (0 : Int32)), .val (.int c0)] [(.int c0), (.int (0 : Int32)), (.ref d)]))
  refine own_go (fun _ ww => XT.i2b X0.here hx rfl (hb hby d6_30) rfl ww) ?_
  show own_Goes _ _ _ _ _ _ _ (s₁.setTop (mkF m 31 #[.val (.ref b), .val (.int (0 : Int32)), .val (.ref d), .val (.int (0 : Int32)), .val (.int (6 : Int32)), .val (.int (0 : Int32)), .val (.int c0)] [(.int (c0.toInt8.toInt32)), (.int (0 : Int32)), (.ref d)]))
  obtain ⟨cl9, Ar9, q9, S9, M9, H9, U9⟩ := id Vd
  obtain ⟨T9, h9, X9, e9, W9, st9⟩ := stB X0 hx hZ e0 Ar9 (j := (0 : Int32)) (inb_of S9 ⟨by decide, by decide⟩) (g := (mkF m 31 #[.val (.ref b), .val (.int (0 : Int32)), .val (.ref d), .val (.int (0 : Int32)), .val (.int (6 : Int32)), .val (.int (0 : Int32)), .val (.int c0)] [(.int (c0.toInt8.toInt32)), (.int (0 : Int32)), (.ref d)])) rfl rfl (hb hby d6_31)
  have nr9 : nar .byte (c0.toInt8.toInt32) = (c0.toInt8.toInt32) := (own_narb _)
  rw [nr9] at W9
  have ft9 : fits .byte (.int (c0.toInt8.toInt32)) = true := (fits_nar_byte _)
  have f10 : Arv Z h9 b kb .char (6 : Int32) [(.int c0), (.int c1), (.int c2), (.int c3), (.int c4), (.int c5)] (.int (0 : Int32)) := (Vb.other W9 nbd)
  have f11 : Arv Z h9 d kd .byte (6 : Int32) [(.int (c0.toInt8.toInt32)), (.int (0 : Int32)), (.int (0 : Int32)), (.int (0 : Int32)), (.int (0 : Int32)), (.int (0 : Int32))] (.int (0 : Int32)) := (Arv.set Ar9 q9 S9 M9 H9 U9 ft9 W9 0 rfl (Nat.le_of_ble_eq_true rfl))
  have N9 := Fr.snoc X9 N0 g_d
  have O9 := O0.wr W9 g_d
  have K9 := (Keep.refl h0 [d]).wr W9 (Or.inl (List.mem_of_getElem? (i := 0) rfl))
  refine own_go st9 ?_
  show own_Goes _ _ _ _ _ _ _ (T9.setTop (mkF m 32 #[.val (.ref b), .val (.int (0 : Int32)), .val (.ref d), .val (.int (0 : Int32)), .val (.int (6 : Int32)), .val (.int (0 : Int32)), .val (.int c0)] []))
  refine own_go (fun _ ww => XS.iinc X9.here hx rfl (hb hby d6_32) rfl (l' := #[.val (.ref b), .val (.int (1 : Int32)), .val (.ref d), .val (.int (0 : Int32)), .val (.int (6 : Int32)), .val (.int (0 : Int32)), .val (.int c0)]) rfl ww) ?_
  show own_Goes _ _ _ _ _ _ _ (T9.setTop (mkF m 35 #[.val (.ref b), .val (.int (1 : Int32)), .val (.ref d), .val (.int (0 : Int32)), .val (.int (6 : Int32)), .val (.int (0 : Int32)), .val (.int c0)] []))
  refine own_go (fun _ ww => XS.iinc X9.here hx rfl (hb hby d6_35) rfl (l' := #[.val (.ref b), .val (.int (1 : Int32)), .val (.ref d), .val (.int (1 : Int32)), .val (.int (6 : Int32)), .val (.int (0 : Int32)), .val (.int c0)]) rfl ww) ?_
  show own_Goes _ _ _ _ _ _ _ (T9.setTop (mkF m 38 #[.val (.ref b), .val (.int (1 : Int32)), .val (.ref d), .val (.int (1 : Int32)), .val (.int (6 : Int32)), .val (.int (0 : Int32)), .val (.int c0)] []))
  refine own_go (fun _ ww => XS.iinc X9.here hx rfl (hb hby d6_38) rfl (l' := #[.val (.ref b), .val (.int (1 : Int32)), .val (.ref d), .val (.int (1 : Int32)), .val (.int (6 : Int32)), .val (.int (1 : Int32)), .val (.int c0)]) rfl ww) ?_
  show own_Goes _ _ _ _ _ _ _ (T9.setTop (mkF m 41 #[.val (.ref b), .val (.int (1 : Int32)), .val (.ref d), .val (.int (1 : Int32)), .val (.int (6 : Int32)), .val (.int (1 : Int32)), .val (.int c0)] []))
  refine own_go (fun _ ww => XS.goto X9.here hx rfl (pc0 := 41) (pc' := 3) rfl (hb hby d6_41) (by decide) (by decide) ww) ?_
  show own_Goes _ _ _ _ _ _ _ (T9.setTop (mkF m 3 #[.val (.ref b), .val (.int (1 : Int32)), .val (.ref d), .val (.int (1 : Int32)), .val (.int (6 : Int32)), .val (.int (1 : Int32)), .val (.int c0)] []))
  refine own_go (fun _ ww => XS.iload X9.here hx rfl (hb hby d6_3) rfl  ww) ?_
  show own_Goes _ _ _ _ _ _ _ (T9.setTop (mkF m 5 #[.val (.ref b), .val (.int (1 : Int32)), .val (.ref d), .val (.int (1 : Int32)), .val (.int (6 : Int32)), .val (.int (1 : Int32)), .val (.int c0)] [(.int (1 : Int32))]))
  refine own_go (fun _ ww => XS.iload X9.here hx rfl (hb hby d6_5) rfl  ww) ?_
  show own_Goes _ _ _ _ _ _ _ (T9.setTop (mkF m 7 #[.val (.ref b), .val (.int (1 : Int32)), .val (.ref d), .val (.int (1 : Int32)), .val (.int (6 : Int32)), .val (.int (1 : Int32)), .val (.int c0)] [(.int (6 : Int32)), (.int (1 : Int32))]))
  refine own_go (fun _ ww => XS.icmpNo X9.here hx rfl (hb hby d6_7) rfl (tlt (by decide : (1 : Int32) < (6 : Int32))).2.1 ww) ?_
  show own_Goes _ _ _ _ _ _ _ (T9.setTop (mkF m 10 #[.val (.ref b), .val (.int (1 : Int32)), .val (.ref d), .val (.int (1 : Int32)), .val (.int (6 : Int32)), .val (.int (1 : Int32)), .val (.int c0)] []))
  refine own_go (fun _ ww => XS.aloadN X9.here hx rfl (hb hby d6_10) rfl rfl ww) ?_
  show own_Goes _ _ _ _ _ _ _ (T9.setTop (mkF m 11 #[.val (.ref b), .val (.int (1 : Int32)), .val (.ref d), .val (.int (1 : Int32)), .val (.int (6 : Int32)), .val (.int (1 : Int32)), .val (.int c0)] [(.ref b)]))
  refine own_go (fun _ ww => XS.iloadN X9.here hx rfl (hb hby d6_11) rfl  ww) ?_
  show own_Goes _ _ _ _ _ _ _ (T9.setTop (mkF m 12 #[.val (.ref b), .val (.int (1 : Int32)), .val (.ref d), .val (.int (1 : Int32)), .val (.int (6 : Int32)), .val (.int (1 : Int32)), .val (.int c0)] [(.int (1 : Int32)), (.ref b)]))
  obtain ⟨cl12, Ar12, -, S12, -, H12, -⟩ := id f10
  have hin12 := inb_of (j := (1 : Int32)) S12 ⟨by decide, by decide⟩
  have hat12 : cl12.slots[((1 : Int32)).toNatClampNeg]? = some (.int c1) := Has.at H12 hin12 rfl
  refine own_go (fun _ ww => X9.caload hx (j := (1 : Int32)) (v := (.int c1)) (by rw [e9]; exact Ar12.1) (State.isArrayOf_alike hZ.alike Ar12.2.1) Ar12.2.2 hin12 hat12 (g := (mkF m 12 #[.val (.ref b), .val (.int (1 : Int32)), .val (.ref d), .val (.int (1 : Int32)), .val (.int (6 : Int32)), .val (.int (1 : Int32)), .val (.int c0)] [(.int (1 : Int32)), (.ref b)])) rfl rfl (hb hby d6_12) _ ww) ?_
  show own_Goes _ _ _ _ _ _ _ (T9.setTop (mkF m 13 #[.val (.ref b), .val (.int (1 : Int32)), .val (.ref d), .val (.int (1 : Int32)), .val (.int (6 : Int32)), .val (.int (1 : Int32)), .val (.int c0)] [(.int c1)]))
  refine own_go (fun _ ww => XS.istore X9.here hx rfl (hb hby d6_13) rfl (l' := #[.val (.ref b), .val (.int (1 : Int32)), .val (.ref d), .val (.int (1 : Int32)), .val (.int (6 : Int32)), .val (.int (1 : Int32)), .val (.int c1)]) rfl ww) ?_
  show own_Goes _ _ _ _ _ _ _ (T9.setTop (mkF m 15 #[.val (.ref b), .val (.int (1 : Int32)), .val (.ref d), .val (.int (1 : Int32)), .val (.int (6 : Int32)), .val (.int (1 : Int32)), .val (.int c1)] []))
  refine own_go (fun _ ww => XS.iload X9.here hx rfl (hb hby d6_15) rfl  ww) ?_
  show own_Goes _ _ _ _ _ _ _ (T9.setTop (mkF m 17 #[.val (.ref b), .val (.int (1 : Int32)), .val (.ref d), .val (.int (1 : Int32)), .val (.int (6 : Int32)), .val (.int (1 : Int32)), .val (.int c1)] [(.int c1)]))
  refine own_go (fun _ ww => XS.sipush X9.here hx rfl (hb hby d6_17) ww) ?_
  show own_Goes _ _ _ _ _ _ _ (T9.setTop (mkF m 20 #[.val (.ref b), .val (.int (1 : Int32)), .val (.ref d), .val (.int (1 : Int32)), .val (.int (6 : Int32)), .val (.int (1 : Int32)), .val (.int c1)] [(.int (255 : Int32)), (.int c1)]))
  refine own_go (fun _ ww => XS.icmpYes X9.here hx rfl (pc0 := 20) (pc' := 26) rfl (hb hby d6_20) rfl (flt le1).2.2.2 (by decide) (by decide) ww) ?_
  show own_Goes _ _ _ _ _ _ _ (T9.setTop (mkF m 26 #[.val (.ref b), .val (.int (1 : Int32)), .val (.ref d), .val (.int (1 : Int32)), .val (.int (6 : Int32)), .val (.int (1 : Int32)), .val (.int c1)] []))
  refine own_go (fun _ ww => XS.aloadN X9.here hx rfl (hb hby d6_26) rfl rfl ww) ?_
  show own_Goes _ _ _ _ _ _ _ (T9.setTop (mkF m 27 #[.val (.ref b), .val (.int (1 : Int32)), .val (.ref d), .val (.int (1 : Int32)), .val (.int (6 : Int32)), .val (.int (1 : Int32)), .val (.int c1)] [(.ref d)]))
  refine own_go (fun _ ww => XS.iloadN X9.here hx rfl (hb hby d6_27) rfl  ww) ?_
  show own_Goes _ _ _ _ _ _ _ (T9.setTop (mkF m 28 #[.val (.ref b), .val (.int (1 : Int32)), .val (.ref d), .val (.int (1 : Int32)), .val (.int (6 : Int32)), .val (.int (1 : Int32)), .val (.int c1)] [(.int (1 : Int32)), (.ref d)]))
  refine own_go (fun _ ww => XS.iload X9.here hx rfl (hb hby d6_28) rfl  ww) ?_
  show own_Goes _ _ _ _ _ _ _ (T9.setTop (mkF m 30 #[.val (.ref b), .val (.int (1 : Int32)), .val (.ref d), .val (.int (1 : Int32)), .val (.int (6 : Int32)), .val (.int (1 : Int32)), .val (.int c1)] [(.int c1), (.int (1 : Int32)), (.ref d)]))
  refine own_go (fun _ ww => XT.i2b X9.here hx rfl (hb hby d6_30) rfl ww) ?_
  show own_Goes _ _ _ _ _ _ _ (T9.setTop (mkF m 31 #[.val (.ref b), .val (.int (1 : Int32)), .val (.ref d), .val (.int (1 : Int32)), .val (.int (6 : Int32)), .val (.int (1 : Int32)), .val (.int c1)] [(.int (c1.toInt8.toInt32)), (.int (1 : Int32)), (.ref d)]))
  obtain ⟨cl13, Ar13, q13, S13, M13, H13, U13⟩ := id f11
  obtain ⟨T13, h13, X13, e13, W13, st13⟩ := stB X9 hx hZ e9 Ar13 (j := (1 : Int32)) (inb_of S13 ⟨by decide, by decide⟩) (g := (mkF m 31 #[.val (.ref b), .val (.int (1 : Int32)), .val (.ref d), .val (.int (1 : Int32)), .val (.int (6 : Int32)), .val (.int (1 : Int32)), .val (.int c1)] [(.int (c1.toInt8.toInt32)), (.int (1 : Int32)), (.ref d)])) rfl rfl (hb hby d6_31)
  have nr13 : nar .byte (c1.toInt8.toInt32) = (c1.toInt8.toInt32) := (own_narb _)
  rw [nr13] at W13
  have ft13 : fits .byte (.int (c1.toInt8.toInt32)) = true := (fits_nar_byte _)
  have f14 : Arv Z h13 b kb .char (6 : Int32) [(.int c0), (.int c1), (.int c2), (.int c3), (.int c4), (.int c5)] (.int (0 : Int32)) := (f10.other W13 nbd)
  have f15 : Arv Z h13 d kd .byte (6 : Int32) [(.int (c0.toInt8.toInt32)), (.int (c1.toInt8.toInt32)), (.int (0 : Int32)), (.int (0 : Int32)), (.int (0 : Int32)), (.int (0 : Int32))] (.int (0 : Int32)) := (Arv.set Ar13 q13 S13 M13 H13 U13 ft13 W13 1 rfl (Nat.le_of_ble_eq_true rfl))
  have N13 := Fr.snoc X13 N9 g_d
  have O13 := O9.wr W13 g_d
  have K13 := K9.wr W13 (Or.inl (List.mem_of_getElem? (i := 0) rfl))
  refine own_go st13 ?_
  show own_Goes _ _ _ _ _ _ _ (T13.setTop (mkF m 32 #[.val (.ref b), .val (.int (1 : Int32)), .val (.ref d), .val (.int (1 : Int32)), .val (.int (6 : Int32)), .val (.int (1 : Int32)), .val (.int c1)] []))
  refine own_go (fun _ ww => XS.iinc X13.here hx rfl (hb hby d6_32) rfl (l' := #[.val (.ref b), .val (.int (2 : Int32)), .val (.ref d), .val (.int (1 : Int32)), .val (.int (6 : Int32)), .val (.int (1 : Int32)), .val (.int c1)]) rfl ww) ?_
  show own_Goes _ _ _ _ _ _ _ (T13.setTop (mkF m 35 #[.val (.ref b), .val (.int (2 : Int32)), .val (.ref d), .val (.int (1 : Int32)), .val (.int (6 : Int32)), .val (.int (1 : Int32)), .val (.int c1)] []))
  refine own_go (fun _ ww => XS.iinc X13.here hx rfl (hb hby d6_35) rfl (l' := #[.val (.ref b), .val (.int (2 : Int32)), .val (.ref d), .val (.int (2 : Int32)), .val (.int (6 : Int32)), .val (.int (1 : Int32)), .val (.int c1)]) rfl ww) ?_
  show own_Goes _ _ _ _ _ _ _ (T13.setTop (mkF m 38 #[.val (.ref b), .val (.int (2 : Int32)), .val (.ref d), .val (.int (2 : Int32)), .val (.int (6 : Int32)), .val (.int (1 : Int32)), .val (.int c1)] []))
  refine own_go (fun _ ww => XS.iinc X13.here hx rfl (hb hby d6_38) rfl (l' := #[.val (.ref b), .val (.int (2 : Int32)), .val (.ref d), .val (.int (2 : Int32)), .val (.int (6 : Int32)), .val (.int (2 : Int32)), .val (.int c1)]) rfl ww) ?_
  show own_Goes _ _ _ _ _ _ _ (T13.setTop (mkF m 41 #[.val (.ref b), .val (.int (2 : Int32)), .val (.ref d), .val (.int (2 : Int32)), .val (.int (6 : Int32)), .val (.int (2 : Int32)), .val (.int c1)] []))
  refine own_go (fun _ ww => XS.goto X13.here hx rfl (pc0 := 41) (pc' := 3) rfl (hb hby d6_41) (by decide) (by decide) ww) ?_
  show own_Goes _ _ _ _ _ _ _ (T13.setTop (mkF m 3 #[.val (.ref b), .val (.int (2 : Int32)), .val (.ref d), .val (.int (2 : Int32)), .val (.int (6 : Int32)), .val (.int (2 : Int32)), .val (.int c1)] []))
  refine own_go (fun _ ww => XS.iload X13.here hx rfl (hb hby d6_3) rfl  ww) ?_
  show own_Goes _ _ _ _ _ _ _ (T13.setTop (mkF m 5 #[.val (.ref b), .val (.int (2 : Int32)), .val (.ref d), .val (.int (2 : Int32)), .val (.int (6 : Int32)), .val (.int (2 : Int32)), .val (.int c1)] [(.int (2 : Int32))]))
  refine own_go (fun _ ww => XS.iload X13.here hx rfl (hb hby d6_5) rfl  ww) ?_
  show own_Goes _ _ _ _ _ _ _ (T13.setTop (mkF m 7 #[.val (.ref b), .val (.int (2 : Int32)), .val (.ref d), .val (.int (2 : Int32)), .val (.int (6 : Int32)), .val (.int (2 : Int32)), .val (.int c1)] [(.int (6 : Int32)), (.int (2 : Int32))]))
  refine own_go (fun _ ww => XS.icmpNo X13.here hx rfl (hb hby d6_7) rfl (tlt (by decide : (2 : Int32) < (6 : Int32))).2.1 ww) ?_
  show own_Goes _ _ _ _ _ _ _ (T13.setTop (mkF m 10 #[.val (.ref b), .val (.int (2 : Int32)), .val (.ref d), .val (.int (2 : Int32)), .val (.int (6 : Int32)), .val (.int (2 : Int32)), .val (.int c1)] []))
  refine own_go (fun _ ww => XS.aloadN X13.here hx rfl (hb hby d6_10) rfl rfl ww) ?_
  show own_Goes _ _ _ _ _ _ _ (T13.setTop (mkF m 11 #[.val (.ref b), .val (.int (2 : Int32)), .val (.ref d), .val (.int (2 : Int32)), .val (.int (6 : Int32)), .val (.int (2 : Int32)), .val (.int c1)] [(.ref b)]))
  refine own_go (fun _ ww => XS.iloadN X13.here hx rfl (hb hby d6_11) rfl  ww) ?_
  show own_Goes _ _ _ _ _ _ _ (T13.setTop (mkF m 12 #[.val (.ref b), .val (.int (2 : Int32)), .val (.ref d), .val (.int (2 : Int32)), .val (.int (6 : Int32)), .val (.int (2 : Int32)), .val (.int c1)] [(.int (2 : Int32)), (.ref b)]))
  obtain ⟨cl16, Ar16, -, S16, -, H16, -⟩ := id f14
  have hin16 := inb_of (j := (2 : Int32)) S16 ⟨by decide, by decide⟩
  have hat16 : cl16.slots[((2 : Int32)).toNatClampNeg]? = some (.int c2) := Has.at H16 hin16 rfl
  refine own_go (fun _ ww => X13.caload hx (j := (2 : Int32)) (v := (.int c2)) (by rw [e13]; exact Ar16.1) (State.isArrayOf_alike hZ.alike Ar16.2.1) Ar16.2.2 hin16 hat16 (g := (mkF m 12 #[.val (.ref b), .val (.int (2 : Int32)), .val (.ref d), .val (.int (2 : Int32)), .val (.int (6 : Int32)), .val (.int (2 : Int32)), .val (.int c1)] [(.int (2 : Int32)), (.ref b)])) rfl rfl (hb hby d6_12) _ ww) ?_
  show own_Goes _ _ _ _ _ _ _ (T13.setTop (mkF m 13 #[.val (.ref b), .val (.int (2 : Int32)), .val (.ref d), .val (.int (2 : Int32)), .val (.int (6 : Int32)), .val (.int (2 : Int32)), .val (.int c1)] [(.int c2)]))
  refine own_go (fun _ ww => XS.istore X13.here hx rfl (hb hby d6_13) rfl (l' := #[.val (.ref b), .val (.int (2 : Int32)), .val (.ref d), .val (.int (2 : Int32)), .val (.int (6 : Int32)), .val (.int (2 : Int32)), .val (.int c2)]) rfl ww) ?_
  show own_Goes _ _ _ _ _ _ _ (T13.setTop (mkF m 15 #[.val (.ref b), .val (.int (2 : Int32)), .val (.ref d), .val (.int (2 : Int32)), .val (.int (6 : Int32)), .val (.int (2 : Int32)), .val (.int c2)] []))
  refine own_go (fun _ ww => XS.iload X13.here hx rfl (hb hby d6_15) rfl  ww) ?_
  show own_Goes _ _ _ _ _ _ _ (T13.setTop (mkF m 17 #[.val (.ref b), .val (.int (2 : Int32)), .val (.ref d), .val (.int (2 : Int32)), .val (.int (6 : Int32)), .val (.int (2 : Int32)), .val (.int c2)] [(.int c2)]))
  refine own_go (fun _ ww => XS.sipush X13.here hx rfl (hb hby d6_17) ww) ?_
  show own_Goes _ _ _ _ _ _ _ (T13.setTop (mkF m 20 #[.val (.ref b), .val (.int (2 : Int32)), .val (.ref d), .val (.int (2 : Int32)), .val (.int (6 : Int32)), .val (.int (2 : Int32)), .val (.int c2)] [(.int (255 : Int32)), (.int c2)]))
  refine own_go (fun _ ww => XS.icmpNo X13.here hx rfl (hb hby d6_20) rfl (tlt hgt).2.2.2 ww) ?_
  show own_Goes _ _ _ _ _ _ _ (T13.setTop (mkF m 23 #[.val (.ref b), .val (.int (2 : Int32)), .val (.ref d), .val (.int (2 : Int32)), .val (.int (6 : Int32)), .val (.int (2 : Int32)), .val (.int c2)] []))
  refine own_go (fun _ ww => XS.iload X13.here hx rfl (hb hby d6_23) rfl  ww) ?_
  show own_Goes _ _ _ _ _ _ _ (T13.setTop (mkF m 25 #[.val (.ref b), .val (.int (2 : Int32)), .val (.ref d), .val (.int (2 : Int32)), .val (.int (6 : Int32)), .val (.int (2 : Int32)), .val (.int c2)] [(.int (2 : Int32))]))
  exact own_out X13 hlk (v := some (.int (2 : Int32))) (fun h => by rw [hret] at h; cases h) (fun fs hr => retOut X13 hx (t := .int) hret rfl (Or.inl ⟨rfl, by simp, _, rfl⟩) (hb hby d6_25) hr) e13 ⟨rfl, N13, K13⟩ (by decide) (by decide)
theorem ef_cm5_3 (m : MethodId) (b : Addr) (kb : ClassId) (d : Addr) (kd : ClassId) (c0 : Int32) (c1 : Int32) (c2 : Int32) (c3 : Int32) (c4 : Int32) (c5 : Int32) : entryFrame m #[(.ref b), (.int (0 : Int32)), (.ref d), (.int (0 : Int32)), (.int (6 : Int32))] 7 = mkF m 0 #[.val (.ref b), .val (.int (0 : Int32)), .val (.ref d), .val (.int (0 : Int32)), .val (.int (6 : Int32)), .unset, .unset] [] := by
  first | (simp [entryFrame, mkF, argsToLocals, Value.category]; done) | rfl
def Q_cm5_3 (Z : State) (b : Addr) (kb : ClassId) (d : Addr) (kd : ClassId) (c0 : Int32) (c1 : Int32) (c2 : Int32) (c3 : Int32) (c4 : Int32) (c5 : Int32) (h0 : Heap) (n0 : Nat) (v : Option Value) (h : Heap) (L : List Loc) : Prop := v = some (.int (3 : Int32)) ∧ Fr n0 L ∧ Keep h0 h [d]
set_option maxRecDepth 65536 in
set_option maxHeartbeats 40000000 in
theorem rm_cm5_3 (l : Launch) (Z : State) (a0 : Array Value) (hw : ∀ d ∈ tables_1, d.before a0 Z = true) (ws : List Jvm.Cond) (b : Addr) (kb : ClassId) (d : Addr) (kd : ClassId) (c0 : Int32) (c1 : Int32) (c2 : Int32) (c3 : Int32) (c4 : Int32) (c5 : Int32) (h0 : Heap) (n0 : Nat) (O0 : Old Z n0 h0) (Vb : Arv Z h0 b kb .char (6 : Int32) [(.int c0), (.int c1), (.int c2), (.int c3), (.int c4), (.int c5)] (.int (0 : Int32))) (Vd : Arv Z h0 d kd .byte (6 : Int32) [(.int (0 : Int32)), (.int (0 : Int32)), (.int (0 : Int32)), (.int (0 : Int32)), (.int (0 : Int32)), (.int (0 : Int32))] (.int (0 : Int32))) (g_d : n0 ≤ d) (nbd : b ≠ d) (le0 : ¬ (255 : Int32) < c0) (le1 : ¬ (255 : Int32) < c1) (le2 : ¬ (255 : Int32) < c2) (hgt : (255 : Int32) < c3) :
    MetFree l (⟨"java/lang/StringUTF16", "compress", "([CI[BII)I"⟩ : MethodName) (head1 (Jvm.Cond.code (⟨"java/lang/StringUTF16", "compress", "([CI[BII)I"⟩ : MethodName) jdk_52_method_21_code 7 (some .int) :: ws) ({ frames := 0, cells := 0, slots := 0, locals := 0 } : Room)) (fun av_ U => av_ = #[(.ref b), (.int (0 : Int32)), (.ref d), (.int (0 : Int32)), (.int (6 : Int32))] ∧ Z.Warmed39 U.vm ∧ U.heap = h0) (fun _ _ _ _ _ => True) (fun _ U o_ U' => ∃ v L, o_ = .returned v ∧ Q_cm5_3 Z b kb d kd c0 c1 c2 c3 c4 c5 h0 n0 v U'.heap L ∧ FrameEnd U o_ U' L ({ frames := 0, cells := 0, slots := 0, locals := 0 } : Room).cells ({ frames := 0, cells := 0, slots := 0, locals := 0 } : Room).slots) := by
  refine MetFree.of_bodySF (plainFor_of_name pn_1) hisR ?_
  intro p e s m args below meth c s₁ Bd hml0 hP hK
  obtain ⟨rfl, hZ, hh⟩ := hP
  have hx := Bd.exec
  have hby := Bd.bytes
  have hml : c.maxLocals = 7 := hml0
  have hown : s.vm.findClass "java/lang/StringUTF16" = some m.cls := findClass_of_methodNamed Bd.named
  have hnm := (name_of_methodNamed Bd.named Bd.method).1
  have hlk := own_lk Bd
  have hret := Bd.returns
  have X0 : Stand p l e ({ frames := 0, cells := 0, slots := 0, locals := 0 } : Room) s m #[(.ref b), (.int (0 : Int32)), (.ref d), (.int (0 : Int32)), (.int (6 : Int32))] below meth c s₁ [] 0 0 := Stand.of_body Bd
  have e0 : s₁.heap = h0 := by rw [← hh, Bd.state]; rfl
  have N0 := Fr.nil n0
  show own_Goes p e below s (Q_cm5_3 Z b kb d kd c0 c1 c2 c3 c4 c5 h0 n0) ({ frames := 0, cells := 0, slots := 0, locals := 0 } : Room).cells ({ frames := 0, cells := 0, slots := 0, locals := 0 } : Room).slots (s₁.setTop (entryFrame m #[(.ref b), (.int (0 : Int32)), (.ref d), (.int (0 : Int32)), (.int (6 : Int32))] 7))
  refine own_go (fun _ ww => castTop (ef_cm5_3 m b kb d kd c0 c1 c2 c3 c4 c5) ww) ?_
  show own_Goes _ _ _ _ _ _ _ (s₁.setTop (mkF m 0 #[.val (.ref b), .val (.int (0 : Int32)), .val (.ref d), .val (.int (0 : Int32)), .val (.int (6 : Int32)), .unset, .unset] []))
  refine own_go (fun _ ww => XS.iconst X0.here hx rfl (hb hby d6_0) ww) ?_
  show own_Goes _ _ _ _ _ _ _ (s₁.setTop (mkF m 1 #[.val (.ref b), .val (.int (0 : Int32)), .val (.ref d), .val (.int (0 : Int32)), .val (.int (6 : Int32)), .unset, .unset] [(.int (0 : Int32))]))
  refine own_go (fun _ ww => XS.istore X0.here hx rfl (hb hby d6_1) rfl (l' := #[.val (.ref b), .val (.int (0 : Int32)), .val (.ref d), .val (.int (0 : Int32)), .val (.int (6 : Int32)), .val (.int (0 : Int32)), .unset]) rfl ww) ?_
  show own_Goes _ _ _ _ _ _ _ (s₁.setTop (mkF m 3 #[.val (.ref b), .val (.int (0 : Int32)), .val (.ref d), .val (.int (0 : Int32)), .val (.int (6 : Int32)), .val (.int (0 : Int32)), .unset] []))
  refine own_go (fun _ ww => XS.iload X0.here hx rfl (hb hby d6_3) rfl  ww) ?_
  show own_Goes _ _ _ _ _ _ _ (s₁.setTop (mkF m 5 #[.val (.ref b), .val (.int (0 : Int32)), .val (.ref d), .val (.int (0 : Int32)), .val (.int (6 : Int32)), .val (.int (0 : Int32)), .unset] [(.int (0 : Int32))]))
  refine own_go (fun _ ww => XS.iload X0.here hx rfl (hb hby d6_5) rfl  ww) ?_
  show own_Goes _ _ _ _ _ _ _ (s₁.setTop (mkF m 7 #[.val (.ref b), .val (.int (0 : Int32)), .val (.ref d), .val (.int (0 : Int32)), .val (.int (6 : Int32)), .val (.int (0 : Int32)), .unset] [(.int (6 : Int32)), (.int (0 : Int32))]))
  refine own_go (fun _ ww => XS.icmpNo X0.here hx rfl (hb hby d6_7) rfl (tlt (by decide : (0 : Int32) < (6 : Int32))).2.1 ww) ?_
  show own_Goes _ _ _ _ _ _ _ (s₁.setTop (mkF m 10 #[.val (.ref b), .val (.int (0 : Int32)), .val (.ref d), .val (.int (0 : Int32)), .val (.int (6 : Int32)), .val (.int (0 : Int32)), .unset] []))
  refine own_go (fun _ ww => XS.aloadN X0.here hx rfl (hb hby d6_10) rfl rfl ww) ?_
  show own_Goes _ _ _ _ _ _ _ (s₁.setTop (mkF m 11 #[.val (.ref b), .val (.int (0 : Int32)), .val (.ref d), .val (.int (0 : Int32)), .val (.int (6 : Int32)), .val (.int (0 : Int32)), .unset] [(.ref b)]))
  refine own_go (fun _ ww => XS.iloadN X0.here hx rfl (hb hby d6_11) rfl  ww) ?_
  show own_Goes _ _ _ _ _ _ _ (s₁.setTop (mkF m 12 #[.val (.ref b), .val (.int (0 : Int32)), .val (.ref d), .val (.int (0 : Int32)), .val (.int (6 : Int32)), .val (.int (0 : Int32)), .unset] [(.int (0 : Int32)), (.ref b)]))
  obtain ⟨cl17, Ar17, -, S17, -, H17, -⟩ := id Vb
  have hin17 := inb_of (j := (0 : Int32)) S17 ⟨by decide, by decide⟩
  have hat17 : cl17.slots[((0 : Int32)).toNatClampNeg]? = some (.int c0) := Has.at H17 hin17 rfl
  refine own_go (fun _ ww => X0.caload hx (j := (0 : Int32)) (v := (.int c0)) (by rw [e0]; exact Ar17.1) (State.isArrayOf_alike hZ.alike Ar17.2.1) Ar17.2.2 hin17 hat17 (g := (mkF m 12 #[.val (.ref b), .val (.int (0 : Int32)), .val (.ref d), .val (.int (0 : Int32)), .val (.int (6 : Int32)), .val (.int (0 : Int32)), .unset] [(.int (0 : Int32)), (.ref b)])) rfl rfl (hb hby d6_12) _ ww) ?_
  show own_Goes _ _ _ _ _ _ _ (s₁.setTop (mkF m 13 #[.val (.ref b), .val (.int (0 : Int32)), .val (.ref d), .val (.int (0 : Int32)), .val (.int (6 : Int32)), .val (.int (0 : Int32)), .unset] [(.int c0)]))
  refine own_go (fun _ ww => XS.istore X0.here hx rfl (hb hby d6_13) rfl (l' := #[.val (.ref b), .val (.int (0 : Int32)), .val (.ref d), .val (.int (0 : Int32)), .val (.int (6 : Int32)), .val (.int (0 : Int32)), .val (.int c0)]) rfl ww) ?_
  show own_Goes _ _ _ _ _ _ _ (s₁.setTop (mkF m 15 #[.val (.ref b), .val (.int (0 : Int32)), .val (.ref d), .val (.int (0 : Int32)), .val (.int (6 : Int32)), .val (.int (0 : Int32)), .val (.int c0)] []))
  refine own_go (fun _ ww => XS.iload X0.here hx rfl (hb hby d6_15) rfl  ww) ?_
  show own_Goes _ _ _ _ _ _ _ (s₁.setTop (mkF m 17 #[.val (.ref b), .val (.int (0 : Int32)), .val (.ref d), .val (.int (0 : Int32)), .val (.int (6 : Int32)), .val (.int (0 : Int32)), .val (.int c0)] [(.int c0)]))
  refine own_go (fun _ ww => XS.sipush X0.here hx rfl (hb hby d6_17) ww) ?_
  show own_Goes _ _ _ _ _ _ _ (s₁.setTop (mkF m 20 #[.val (.ref b), .val (.int (0 : Int32)), .val (.ref d), .val (.int (0 : Int32)), .val (.int (6 : Int32)), .val (.int (0 : Int32)), .val (.int c0)] [(.int (255 : Int32)), (.int c0)]))
  refine own_go (fun _ ww => XS.icmpYes X0.here hx rfl (pc0 := 20) (pc' := 26) rfl (hb hby d6_20) rfl (flt le0).2.2.2 (by decide) (by decide) ww) ?_
  show own_Goes _ _ _ _ _ _ _ (s₁.setTop (mkF m 26 #[.val (.ref b), .val (.int (0 : Int32)), .val (.ref d), .val (.int (0 : Int32)), .val (.int (6 : Int32)), .val (.int (0 : Int32)), .val (.int c0)] []))
  refine own_go (fun _ ww => XS.aloadN X0.here hx rfl (hb hby d6_26) rfl rfl ww) ?_
  show own_Goes _ _ _ _ _ _ _ (s₁.setTop (mkF m 27 #[.val (.ref b), .val (.int (0 : Int32)), .val (.ref d), .val (.int (0 : Int32)), .val (.int (6 : Int32)), .val (.int (0 : Int32)), .val (.int c0)] [(.ref d)]))
  refine own_go (fun _ ww => XS.iloadN X0.here hx rfl (hb hby d6_27) rfl  ww) ?_
  show own_Goes _ _ _ _ _ _ _ (s₁.setTop (mkF m 28 #[.val (.ref b), .val (.int (0 : Int32)), .val (.ref d), .val (.int (0 : Int32)), .val (.int (6 : Int32)), .val (.int (0 : Int32)), .val (.int c0)] [(.int (0 : Int32)), (.ref d)]))
  refine own_go (fun _ ww => XS.iload X0.here hx rfl (hb hby d6_28) rfl  ww) ?_
  show own_Goes _ _ _ _ _ _ _ (s₁.setTop (mkF m 30 #[.val (.ref b), .val (.int (0 : Int32)), .val (.ref d), .val (.int (0 : Int32)), .val (.int (6 : Int32)), .val (.int (0 : Int32)), .val (.int c0)] [(.int c0), (.int (0 : Int32)), (.ref d)]))
  refine own_go (fun _ ww => XT.i2b X0.here hx rfl (hb hby d6_30) rfl ww) ?_
  show own_Goes _ _ _ _ _ _ _ (s₁.setTop (mkF m 31 #[.val (.ref b), .val (.int (0 : Int32)), .val (.ref d), .val (.int (0 : Int32)), .val (.int (6 : Int32)), .val (.int (0 : Int32)), .val (.int c0)] [(.int (c0.toInt8.toInt32)), (.int (0 : Int32)), (.ref d)]))
  obtain ⟨cl18, Ar18, q18, S18, M18, H18, U18⟩ := id Vd
  obtain ⟨T18, h18, X18, e18, W18, st18⟩ := stB X0 hx hZ e0 Ar18 (j := (0 : Int32)) (inb_of S18 ⟨by decide, by decide⟩) (g := (mkF m 31 #[.val (.ref b), .val (.int (0 : Int32)), .val (.ref d), .val (.int (0 : Int32)), .val (.int (6 : Int32)), .val (.int (0 : Int32)), .val (.int c0)] [(.int (c0.toInt8.toInt32)), (.int (0 : Int32)), (.ref d)])) rfl rfl (hb hby d6_31)
  have nr18 : nar .byte (c0.toInt8.toInt32) = (c0.toInt8.toInt32) := (own_narb _)
  rw [nr18] at W18
  have ft18 : fits .byte (.int (c0.toInt8.toInt32)) = true := (fits_nar_byte _)
  have f19 : Arv Z h18 b kb .char (6 : Int32) [(.int c0), (.int c1), (.int c2), (.int c3), (.int c4), (.int c5)] (.int (0 : Int32)) := (Vb.other W18 nbd)
  have f20 : Arv Z h18 d kd .byte (6 : Int32) [(.int (c0.toInt8.toInt32)), (.int (0 : Int32)), (.int (0 : Int32)), (.int (0 : Int32)), (.int (0 : Int32)), (.int (0 : Int32))] (.int (0 : Int32)) := (Arv.set Ar18 q18 S18 M18 H18 U18 ft18 W18 0 rfl (Nat.le_of_ble_eq_true rfl))
  have N18 := Fr.snoc X18 N0 g_d
  have O18 := O0.wr W18 g_d
  have K18 := (Keep.refl h0 [d]).wr W18 (Or.inl (List.mem_of_getElem? (i := 0) rfl))
  refine own_go st18 ?_
  show own_Goes _ _ _ _ _ _ _ (T18.setTop (mkF m 32 #[.val (.ref b), .val (.int (0 : Int32)), .val (.ref d), .val (.int (0 : Int32)), .val (.int (6 : Int32)), .val (.int (0 : Int32)), .val (.int c0)] []))
  refine own_go (fun _ ww => XS.iinc X18.here hx rfl (hb hby d6_32) rfl (l' := #[.val (.ref b), .val (.int (1 : Int32)), .val (.ref d), .val (.int (0 : Int32)), .val (.int (6 : Int32)), .val (.int (0 : Int32)), .val (.int c0)]) rfl ww) ?_
  show own_Goes _ _ _ _ _ _ _ (T18.setTop (mkF m 35 #[.val (.ref b), .val (.int (1 : Int32)), .val (.ref d), .val (.int (0 : Int32)), .val (.int (6 : Int32)), .val (.int (0 : Int32)), .val (.int c0)] []))
  refine own_go (fun _ ww => XS.iinc X18.here hx rfl (hb hby d6_35) rfl (l' := #[.val (.ref b), .val (.int (1 : Int32)), .val (.ref d), .val (.int (1 : Int32)), .val (.int (6 : Int32)), .val (.int (0 : Int32)), .val (.int c0)]) rfl ww) ?_
  show own_Goes _ _ _ _ _ _ _ (T18.setTop (mkF m 38 #[.val (.ref b), .val (.int (1 : Int32)), .val (.ref d), .val (.int (1 : Int32)), .val (.int (6 : Int32)), .val (.int (0 : Int32)), .val (.int c0)] []))
  refine own_go (fun _ ww => XS.iinc X18.here hx rfl (hb hby d6_38) rfl (l' := #[.val (.ref b), .val (.int (1 : Int32)), .val (.ref d), .val (.int (1 : Int32)), .val (.int (6 : Int32)), .val (.int (1 : Int32)), .val (.int c0)]) rfl ww) ?_
  show own_Goes _ _ _ _ _ _ _ (T18.setTop (mkF m 41 #[.val (.ref b), .val (.int (1 : Int32)), .val (.ref d), .val (.int (1 : Int32)), .val (.int (6 : Int32)), .val (.int (1 : Int32)), .val (.int c0)] []))
  refine own_go (fun _ ww => XS.goto X18.here hx rfl (pc0 := 41) (pc' := 3) rfl (hb hby d6_41) (by decide) (by decide) ww) ?_
  show own_Goes _ _ _ _ _ _ _ (T18.setTop (mkF m 3 #[.val (.ref b), .val (.int (1 : Int32)), .val (.ref d), .val (.int (1 : Int32)), .val (.int (6 : Int32)), .val (.int (1 : Int32)), .val (.int c0)] []))
  refine own_go (fun _ ww => XS.iload X18.here hx rfl (hb hby d6_3) rfl  ww) ?_
  show own_Goes _ _ _ _ _ _ _ (T18.setTop (mkF m 5 #[.val (.ref b), .val (.int (1 : Int32)), .val (.ref d), .val (.int (1 : Int32)), .val (.int (6 : Int32)), .val (.int (1 : Int32)), .val (.int c0)] [(.int (1 : Int32))]))
  refine own_go (fun _ ww => XS.iload X18.here hx rfl (hb hby d6_5) rfl  ww) ?_
  show own_Goes _ _ _ _ _ _ _ (T18.setTop (mkF m 7 #[.val (.ref b), .val (.int (1 : Int32)), .val (.ref d), .val (.int (1 : Int32)), .val (.int (6 : Int32)), .val (.int (1 : Int32)), .val (.int c0)] [(.int (6 : Int32)), (.int (1 : Int32))]))
  refine own_go (fun _ ww => XS.icmpNo X18.here hx rfl (hb hby d6_7) rfl (tlt (by decide : (1 : Int32) < (6 : Int32))).2.1 ww) ?_
  show own_Goes _ _ _ _ _ _ _ (T18.setTop (mkF m 10 #[.val (.ref b), .val (.int (1 : Int32)), .val (.ref d), .val (.int (1 : Int32)), .val (.int (6 : Int32)), .val (.int (1 : Int32)), .val (.int c0)] []))
  refine own_go (fun _ ww => XS.aloadN X18.here hx rfl (hb hby d6_10) rfl rfl ww) ?_
  show own_Goes _ _ _ _ _ _ _ (T18.setTop (mkF m 11 #[.val (.ref b), .val (.int (1 : Int32)), .val (.ref d), .val (.int (1 : Int32)), .val (.int (6 : Int32)), .val (.int (1 : Int32)), .val (.int c0)] [(.ref b)]))
  refine own_go (fun _ ww => XS.iloadN X18.here hx rfl (hb hby d6_11) rfl  ww) ?_
  show own_Goes _ _ _ _ _ _ _ (T18.setTop (mkF m 12 #[.val (.ref b), .val (.int (1 : Int32)), .val (.ref d), .val (.int (1 : Int32)), .val (.int (6 : Int32)), .val (.int (1 : Int32)), .val (.int c0)] [(.int (1 : Int32)), (.ref b)]))
  obtain ⟨cl21, Ar21, -, S21, -, H21, -⟩ := id f19
  have hin21 := inb_of (j := (1 : Int32)) S21 ⟨by decide, by decide⟩
  have hat21 : cl21.slots[((1 : Int32)).toNatClampNeg]? = some (.int c1) := Has.at H21 hin21 rfl
  refine own_go (fun _ ww => X18.caload hx (j := (1 : Int32)) (v := (.int c1)) (by rw [e18]; exact Ar21.1) (State.isArrayOf_alike hZ.alike Ar21.2.1) Ar21.2.2 hin21 hat21 (g := (mkF m 12 #[.val (.ref b), .val (.int (1 : Int32)), .val (.ref d), .val (.int (1 : Int32)), .val (.int (6 : Int32)), .val (.int (1 : Int32)), .val (.int c0)] [(.int (1 : Int32)), (.ref b)])) rfl rfl (hb hby d6_12) _ ww) ?_
  show own_Goes _ _ _ _ _ _ _ (T18.setTop (mkF m 13 #[.val (.ref b), .val (.int (1 : Int32)), .val (.ref d), .val (.int (1 : Int32)), .val (.int (6 : Int32)), .val (.int (1 : Int32)), .val (.int c0)] [(.int c1)]))
  refine own_go (fun _ ww => XS.istore X18.here hx rfl (hb hby d6_13) rfl (l' := #[.val (.ref b), .val (.int (1 : Int32)), .val (.ref d), .val (.int (1 : Int32)), .val (.int (6 : Int32)), .val (.int (1 : Int32)), .val (.int c1)]) rfl ww) ?_
  show own_Goes _ _ _ _ _ _ _ (T18.setTop (mkF m 15 #[.val (.ref b), .val (.int (1 : Int32)), .val (.ref d), .val (.int (1 : Int32)), .val (.int (6 : Int32)), .val (.int (1 : Int32)), .val (.int c1)] []))
  refine own_go (fun _ ww => XS.iload X18.here hx rfl (hb hby d6_15) rfl  ww) ?_
  show own_Goes _ _ _ _ _ _ _ (T18.setTop (mkF m 17 #[.val (.ref b), .val (.int (1 : Int32)), .val (.ref d), .val (.int (1 : Int32)), .val (.int (6 : Int32)), .val (.int (1 : Int32)), .val (.int c1)] [(.int c1)]))
  refine own_go (fun _ ww => XS.sipush X18.here hx rfl (hb hby d6_17) ww) ?_
  show own_Goes _ _ _ _ _ _ _ (T18.setTop (mkF m 20 #[.val (.ref b), .val (.int (1 : Int32)), .val (.ref d), .val (.int (1 : Int32)), .val (.int (6 : Int32)), .val (.int (1 : Int32)), .val (.int c1)] [(.int (255 : Int32)), (.int c1)]))
  refine own_go (fun _ ww => XS.icmpYes X18.here hx rfl (pc0 := 20) (pc' := 26) rfl (hb hby d6_20) rfl (flt le1).2.2.2 (by decide) (by decide) ww) ?_
  show own_Goes _ _ _ _ _ _ _ (T18.setTop (mkF m 26 #[.val (.ref b), .val (.int (1 : Int32)), .val (.ref d), .val (.int (1 : Int32)), .val (.int (6 : Int32)), .val (.int (1 : Int32)), .val (.int c1)] []))
  refine own_go (fun _ ww => XS.aloadN X18.here hx rfl (hb hby d6_26) rfl rfl ww) ?_
  show own_Goes _ _ _ _ _ _ _ (T18.setTop (mkF m 27 #[.val (.ref b), .val (.int (1 : Int32)), .val (.ref d), .val (.int (1 : Int32)), .val (.int (6 : Int32)), .val (.int (1 : Int32)), .val (.int c1)] [(.ref d)]))
  refine own_go (fun _ ww => XS.iloadN X18.here hx rfl (hb hby d6_27) rfl  ww) ?_
  show own_Goes _ _ _ _ _ _ _ (T18.setTop (mkF m 28 #[.val (.ref b), .val (.int (1 : Int32)), .val (.ref d), .val (.int (1 : Int32)), .val (.int (6 : Int32)), .val (.int (1 : Int32)), .val (.int c1)] [(.int (1 : Int32)), (.ref d)]))
  refine own_go (fun _ ww => XS.iload X18.here hx rfl (hb hby d6_28) rfl  ww) ?_
  show own_Goes _ _ _ _ _ _ _ (T18.setTop (mkF m 30 #[.val (.ref b), .val (.int (1 : Int32)), .val (.ref d), .val (.int (1 : Int32)), .val (.int (6 : Int32)), .val (.int (1 : Int32)), .val (.int c1)] [(.int c1), (.int (1 : Int32)), (.ref d)]))
  refine own_go (fun _ ww => XT.i2b X18.here hx rfl (hb hby d6_30) rfl ww) ?_
  show own_Goes _ _ _ _ _ _ _ (T18.setTop (mkF m 31 #[.val (.ref b), .val (.int (1 : Int32)), .val (.ref d), .val (.int (1 : Int32)), .val (.int (6 : Int32)), .val (.int (1 : Int32)), .val (.int c1)] [(.int (c1.toInt8.toInt32)), (.int (1 : Int32)), (.ref d)]))
  obtain ⟨cl22, Ar22, q22, S22, M22, H22, U22⟩ := id f20
  obtain ⟨T22, h22, X22, e22, W22, st22⟩ := stB X18 hx hZ e18 Ar22 (j := (1 : Int32)) (inb_of S22 ⟨by decide, by decide⟩) (g := (mkF m 31 #[.val (.ref b), .val (.int (1 : Int32)), .val (.ref d), .val (.int (1 : Int32)), .val (.int (6 : Int32)), .val (.int (1 : Int32)), .val (.int c1)] [(.int (c1.toInt8.toInt32)), (.int (1 : Int32)), (.ref d)])) rfl rfl (hb hby d6_31)
  have nr22 : nar .byte (c1.toInt8.toInt32) = (c1.toInt8.toInt32) := (own_narb _)
  rw [nr22] at W22
  have ft22 : fits .byte (.int (c1.toInt8.toInt32)) = true := (fits_nar_byte _)
  have f23 : Arv Z h22 b kb .char (6 : Int32) [(.int c0), (.int c1), (.int c2), (.int c3), (.int c4), (.int c5)] (.int (0 : Int32)) := (f19.other W22 nbd)
  have f24 : Arv Z h22 d kd .byte (6 : Int32) [(.int (c0.toInt8.toInt32)), (.int (c1.toInt8.toInt32)), (.int (0 : Int32)), (.int (0 : Int32)), (.int (0 : Int32)), (.int (0 : Int32))] (.int (0 : Int32)) := (Arv.set Ar22 q22 S22 M22 H22 U22 ft22 W22 1 rfl (Nat.le_of_ble_eq_true rfl))
  have N22 := Fr.snoc X22 N18 g_d
  have O22 := O18.wr W22 g_d
  have K22 := K18.wr W22 (Or.inl (List.mem_of_getElem? (i := 0) rfl))
  refine own_go st22 ?_
  show own_Goes _ _ _ _ _ _ _ (T22.setTop (mkF m 32 #[.val (.ref b), .val (.int (1 : Int32)), .val (.ref d), .val (.int (1 : Int32)), .val (.int (6 : Int32)), .val (.int (1 : Int32)), .val (.int c1)] []))
  refine own_go (fun _ ww => XS.iinc X22.here hx rfl (hb hby d6_32) rfl (l' := #[.val (.ref b), .val (.int (2 : Int32)), .val (.ref d), .val (.int (1 : Int32)), .val (.int (6 : Int32)), .val (.int (1 : Int32)), .val (.int c1)]) rfl ww) ?_
  show own_Goes _ _ _ _ _ _ _ (T22.setTop (mkF m 35 #[.val (.ref b), .val (.int (2 : Int32)), .val (.ref d), .val (.int (1 : Int32)), .val (.int (6 : Int32)), .val (.int (1 : Int32)), .val (.int c1)] []))
  refine own_go (fun _ ww => XS.iinc X22.here hx rfl (hb hby d6_35) rfl (l' := #[.val (.ref b), .val (.int (2 : Int32)), .val (.ref d), .val (.int (2 : Int32)), .val (.int (6 : Int32)), .val (.int (1 : Int32)), .val (.int c1)]) rfl ww) ?_
  show own_Goes _ _ _ _ _ _ _ (T22.setTop (mkF m 38 #[.val (.ref b), .val (.int (2 : Int32)), .val (.ref d), .val (.int (2 : Int32)), .val (.int (6 : Int32)), .val (.int (1 : Int32)), .val (.int c1)] []))
  refine own_go (fun _ ww => XS.iinc X22.here hx rfl (hb hby d6_38) rfl (l' := #[.val (.ref b), .val (.int (2 : Int32)), .val (.ref d), .val (.int (2 : Int32)), .val (.int (6 : Int32)), .val (.int (2 : Int32)), .val (.int c1)]) rfl ww) ?_
  show own_Goes _ _ _ _ _ _ _ (T22.setTop (mkF m 41 #[.val (.ref b), .val (.int (2 : Int32)), .val (.ref d), .val (.int (2 : Int32)), .val (.int (6 : Int32)), .val (.int (2 : Int32)), .val (.int c1)] []))
  refine own_go (fun _ ww => XS.goto X22.here hx rfl (pc0 := 41) (pc' := 3) rfl (hb hby d6_41) (by decide) (by decide) ww) ?_
  show own_Goes _ _ _ _ _ _ _ (T22.setTop (mkF m 3 #[.val (.ref b), .val (.int (2 : Int32)), .val (.ref d), .val (.int (2 : Int32)), .val (.int (6 : Int32)), .val (.int (2 : Int32)), .val (.int c1)] []))
  refine own_go (fun _ ww => XS.iload X22.here hx rfl (hb hby d6_3) rfl  ww) ?_
  show own_Goes _ _ _ _ _ _ _ (T22.setTop (mkF m 5 #[.val (.ref b), .val (.int (2 : Int32)), .val (.ref d), .val (.int (2 : Int32)), .val (.int (6 : Int32)), .val (.int (2 : Int32)), .val (.int c1)] [(.int (2 : Int32))]))
  refine own_go (fun _ ww => XS.iload X22.here hx rfl (hb hby d6_5) rfl  ww) ?_
  show own_Goes _ _ _ _ _ _ _ (T22.setTop (mkF m 7 #[.val (.ref b), .val (.int (2 : Int32)), .val (.ref d), .val (.int (2 : Int32)), .val (.int (6 : Int32)), .val (.int (2 : Int32)), .val (.int c1)] [(.int (6 : Int32)), (.int (2 : Int32))]))
  refine own_go (fun _ ww => XS.icmpNo X22.here hx rfl (hb hby d6_7) rfl (tlt (by decide : (2 : Int32) < (6 : Int32))).2.1 ww) ?_
  show own_Goes _ _ _ _ _ _ _ (T22.setTop (mkF m 10 #[.val (.ref b), .val (.int (2 : Int32)), .val (.ref d), .val (.int (2 : Int32)), .val (.int (6 : Int32)), .val (.int (2 : Int32)), .val (.int c1)] []))
  refine own_go (fun _ ww => XS.aloadN X22.here hx rfl (hb hby d6_10) rfl rfl ww) ?_
  show own_Goes _ _ _ _ _ _ _ (T22.setTop (mkF m 11 #[.val (.ref b), .val (.int (2 : Int32)), .val (.ref d), .val (.int (2 : Int32)), .val (.int (6 : Int32)), .val (.int (2 : Int32)), .val (.int c1)] [(.ref b)]))
  refine own_go (fun _ ww => XS.iloadN X22.here hx rfl (hb hby d6_11) rfl  ww) ?_
  show own_Goes _ _ _ _ _ _ _ (T22.setTop (mkF m 12 #[.val (.ref b), .val (.int (2 : Int32)), .val (.ref d), .val (.int (2 : Int32)), .val (.int (6 : Int32)), .val (.int (2 : Int32)), .val (.int c1)] [(.int (2 : Int32)), (.ref b)]))
  obtain ⟨cl25, Ar25, -, S25, -, H25, -⟩ := id f23
  have hin25 := inb_of (j := (2 : Int32)) S25 ⟨by decide, by decide⟩
  have hat25 : cl25.slots[((2 : Int32)).toNatClampNeg]? = some (.int c2) := Has.at H25 hin25 rfl
  refine own_go (fun _ ww => X22.caload hx (j := (2 : Int32)) (v := (.int c2)) (by rw [e22]; exact Ar25.1) (State.isArrayOf_alike hZ.alike Ar25.2.1) Ar25.2.2 hin25 hat25 (g := (mkF m 12 #[.val (.ref b), .val (.int (2 : Int32)), .val (.ref d), .val (.int (2 : Int32)), .val (.int (6 : Int32)), .val (.int (2 : Int32)), .val (.int c1)] [(.int (2 : Int32)), (.ref b)])) rfl rfl (hb hby d6_12) _ ww) ?_
  show own_Goes _ _ _ _ _ _ _ (T22.setTop (mkF m 13 #[.val (.ref b), .val (.int (2 : Int32)), .val (.ref d), .val (.int (2 : Int32)), .val (.int (6 : Int32)), .val (.int (2 : Int32)), .val (.int c1)] [(.int c2)]))
  refine own_go (fun _ ww => XS.istore X22.here hx rfl (hb hby d6_13) rfl (l' := #[.val (.ref b), .val (.int (2 : Int32)), .val (.ref d), .val (.int (2 : Int32)), .val (.int (6 : Int32)), .val (.int (2 : Int32)), .val (.int c2)]) rfl ww) ?_
  show own_Goes _ _ _ _ _ _ _ (T22.setTop (mkF m 15 #[.val (.ref b), .val (.int (2 : Int32)), .val (.ref d), .val (.int (2 : Int32)), .val (.int (6 : Int32)), .val (.int (2 : Int32)), .val (.int c2)] []))
  refine own_go (fun _ ww => XS.iload X22.here hx rfl (hb hby d6_15) rfl  ww) ?_
  show own_Goes _ _ _ _ _ _ _ (T22.setTop (mkF m 17 #[.val (.ref b), .val (.int (2 : Int32)), .val (.ref d), .val (.int (2 : Int32)), .val (.int (6 : Int32)), .val (.int (2 : Int32)), .val (.int c2)] [(.int c2)]))
  refine own_go (fun _ ww => XS.sipush X22.here hx rfl (hb hby d6_17) ww) ?_
  show own_Goes _ _ _ _ _ _ _ (T22.setTop (mkF m 20 #[.val (.ref b), .val (.int (2 : Int32)), .val (.ref d), .val (.int (2 : Int32)), .val (.int (6 : Int32)), .val (.int (2 : Int32)), .val (.int c2)] [(.int (255 : Int32)), (.int c2)]))
  refine own_go (fun _ ww => XS.icmpYes X22.here hx rfl (pc0 := 20) (pc' := 26) rfl (hb hby d6_20) rfl (flt le2).2.2.2 (by decide) (by decide) ww) ?_
  show own_Goes _ _ _ _ _ _ _ (T22.setTop (mkF m 26 #[.val (.ref b), .val (.int (2 : Int32)), .val (.ref d), .val (.int (2 : Int32)), .val (.int (6 : Int32)), .val (.int (2 : Int32)), .val (.int c2)] []))
  refine own_go (fun _ ww => XS.aloadN X22.here hx rfl (hb hby d6_26) rfl rfl ww) ?_
  show own_Goes _ _ _ _ _ _ _ (T22.setTop (mkF m 27 #[.val (.ref b), .val (.int (2 : Int32)), .val (.ref d), .val (.int (2 : Int32)), .val (.int (6 : Int32)), .val (.int (2 : Int32)), .val (.int c2)] [(.ref d)]))
  refine own_go (fun _ ww => XS.iloadN X22.here hx rfl (hb hby d6_27) rfl  ww) ?_
  show own_Goes _ _ _ _ _ _ _ (T22.setTop (mkF m 28 #[.val (.ref b), .val (.int (2 : Int32)), .val (.ref d), .val (.int (2 : Int32)), .val (.int (6 : Int32)), .val (.int (2 : Int32)), .val (.int c2)] [(.int (2 : Int32)), (.ref d)]))
  refine own_go (fun _ ww => XS.iload X22.here hx rfl (hb hby d6_28) rfl  ww) ?_
  show own_Goes _ _ _ _ _ _ _ (T22.setTop (mkF m 30 #[.val (.ref b), .val (.int (2 : Int32)), .val (.ref d), .val (.int (2 : Int32)), .val (.int (6 : Int32)), .val (.int (2 : Int32)), .val (.int c2)] [(.int c2), (.int (2 : Int32)), (.ref d)]))
  refine own_go (fun _ ww => XT.i2b X22.here hx rfl (hb hby d6_30) rfl ww) ?_
  show own_Goes _ _ _ _ _ _ _ (T22.setTop (mkF m 31 #[.val (.ref b), .val (.int (2 : Int32)), .val (.ref d), .val (.int (2 : Int32)), .val (.int (6 : Int32)), .val (.int (2 : Int32)), .val (.int c2)] [(.int (c2.toInt8.toInt32)), (.int (2 : Int32)), (.ref d)]))
  obtain ⟨cl26, Ar26, q26, S26, M26, H26, U26⟩ := id f24
  obtain ⟨T26, h26, X26, e26, W26, st26⟩ := stB X22 hx hZ e22 Ar26 (j := (2 : Int32)) (inb_of S26 ⟨by decide, by decide⟩) (g := (mkF m 31 #[.val (.ref b), .val (.int (2 : Int32)), .val (.ref d), .val (.int (2 : Int32)), .val (.int (6 : Int32)), .val (.int (2 : Int32)), .val (.int c2)] [(.int (c2.toInt8.toInt32)), (.int (2 : Int32)), (.ref d)])) rfl rfl (hb hby d6_31)
  have nr26 : nar .byte (c2.toInt8.toInt32) = (c2.toInt8.toInt32) := (own_narb _)
  rw [nr26] at W26
  have ft26 : fits .byte (.int (c2.toInt8.toInt32)) = true := (fits_nar_byte _)
  have f27 : Arv Z h26 b kb .char (6 : Int32) [(.int c0), (.int c1), (.int c2), (.int c3), (.int c4), (.int c5)] (.int (0 : Int32)) := (f23.other W26 nbd)
  have f28 : Arv Z h26 d kd .byte (6 : Int32) [(.int (c0.toInt8.toInt32)), (.int (c1.toInt8.toInt32)), (.int (c2.toInt8.toInt32)), (.int (0 : Int32)), (.int (0 : Int32)), (.int (0 : Int32))] (.int (0 : Int32)) := (Arv.set Ar26 q26 S26 M26 H26 U26 ft26 W26 2 rfl (Nat.le_of_ble_eq_true rfl))
  have N26 := Fr.snoc X26 N22 g_d
  have O26 := O22.wr W26 g_d
  have K26 := K22.wr W26 (Or.inl (List.mem_of_getElem? (i := 0) rfl))
  refine own_go st26 ?_
  show own_Goes _ _ _ _ _ _ _ (T26.setTop (mkF m 32 #[.val (.ref b), .val (.int (2 : Int32)), .val (.ref d), .val (.int (2 : Int32)), .val (.int (6 : Int32)), .val (.int (2 : Int32)), .val (.int c2)] []))
  refine own_go (fun _ ww => XS.iinc X26.here hx rfl (hb hby d6_32) rfl (l' := #[.val (.ref b), .val (.int (3 : Int32)), .val (.ref d), .val (.int (2 : Int32)), .val (.int (6 : Int32)), .val (.int (2 : Int32)), .val (.int c2)]) rfl ww) ?_
  show own_Goes _ _ _ _ _ _ _ (T26.setTop (mkF m 35 #[.val (.ref b), .val (.int (3 : Int32)), .val (.ref d), .val (.int (2 : Int32)), .val (.int (6 : Int32)), .val (.int (2 : Int32)), .val (.int c2)] []))
  refine own_go (fun _ ww => XS.iinc X26.here hx rfl (hb hby d6_35) rfl (l' := #[.val (.ref b), .val (.int (3 : Int32)), .val (.ref d), .val (.int (3 : Int32)), .val (.int (6 : Int32)), .val (.int (2 : Int32)), .val (.int c2)]) rfl ww) ?_
  show own_Goes _ _ _ _ _ _ _ (T26.setTop (mkF m 38 #[.val (.ref b), .val (.int (3 : Int32)), .val (.ref d), .val (.int (3 : Int32)), .val (.int (6 : Int32)), .val (.int (2 : Int32)), .val (.int c2)] []))
  refine own_go (fun _ ww => XS.iinc X26.here hx rfl (hb hby d6_38) rfl (l' := #[.val (.ref b), .val (.int (3 : Int32)), .val (.ref d), .val (.int (3 : Int32)), .val (.int (6 : Int32)), .val (.int (3 : Int32)), .val (.int c2)]) rfl ww) ?_
  show own_Goes _ _ _ _ _ _ _ (T26.setTop (mkF m 41 #[.val (.ref b), .val (.int (3 : Int32)), .val (.ref d), .val (.int (3 : Int32)), .val (.int (6 : Int32)), .val (.int (3 : Int32)), .val (.int c2)] []))
  refine own_go (fun _ ww => XS.goto X26.here hx rfl (pc0 := 41) (pc' := 3) rfl (hb hby d6_41) (by decide) (by decide) ww) ?_
  show own_Goes _ _ _ _ _ _ _ (T26.setTop (mkF m 3 #[.val (.ref b), .val (.int (3 : Int32)), .val (.ref d), .val (.int (3 : Int32)), .val (.int (6 : Int32)), .val (.int (3 : Int32)), .val (.int c2)] []))
  refine own_go (fun _ ww => XS.iload X26.here hx rfl (hb hby d6_3) rfl  ww) ?_
  show own_Goes _ _ _ _ _ _ _ (T26.setTop (mkF m 5 #[.val (.ref b), .val (.int (3 : Int32)), .val (.ref d), .val (.int (3 : Int32)), .val (.int (6 : Int32)), .val (.int (3 : Int32)), .val (.int c2)] [(.int (3 : Int32))]))
  refine own_go (fun _ ww => XS.iload X26.here hx rfl (hb hby d6_5) rfl  ww) ?_
  show own_Goes _ _ _ _ _ _ _ (T26.setTop (mkF m 7 #[.val (.ref b), .val (.int (3 : Int32)), .val (.ref d), .val (.int (3 : Int32)), .val (.int (6 : Int32)), .val (.int (3 : Int32)), .val (.int c2)] [(.int (6 : Int32)), (.int (3 : Int32))]))
  refine own_go (fun _ ww => XS.icmpNo X26.here hx rfl (hb hby d6_7) rfl (tlt (by decide : (3 : Int32) < (6 : Int32))).2.1 ww) ?_
  show own_Goes _ _ _ _ _ _ _ (T26.setTop (mkF m 10 #[.val (.ref b), .val (.int (3 : Int32)), .val (.ref d), .val (.int (3 : Int32)), .val (.int (6 : Int32)), .val (.int (3 : Int32)), .val (.int c2)] []))
  refine own_go (fun _ ww => XS.aloadN X26.here hx rfl (hb hby d6_10) rfl rfl ww) ?_
  show own_Goes _ _ _ _ _ _ _ (T26.setTop (mkF m 11 #[.val (.ref b), .val (.int (3 : Int32)), .val (.ref d), .val (.int (3 : Int32)), .val (.int (6 : Int32)), .val (.int (3 : Int32)), .val (.int c2)] [(.ref b)]))
  refine own_go (fun _ ww => XS.iloadN X26.here hx rfl (hb hby d6_11) rfl  ww) ?_
  show own_Goes _ _ _ _ _ _ _ (T26.setTop (mkF m 12 #[.val (.ref b), .val (.int (3 : Int32)), .val (.ref d), .val (.int (3 : Int32)), .val (.int (6 : Int32)), .val (.int (3 : Int32)), .val (.int c2)] [(.int (3 : Int32)), (.ref b)]))
  obtain ⟨cl29, Ar29, -, S29, -, H29, -⟩ := id f27
  have hin29 := inb_of (j := (3 : Int32)) S29 ⟨by decide, by decide⟩
  have hat29 : cl29.slots[((3 : Int32)).toNatClampNeg]? = some (.int c3) := Has.at H29 hin29 rfl
  refine own_go (fun _ ww => X26.caload hx (j := (3 : Int32)) (v := (.int c3)) (by rw [e26]; exact Ar29.1) (State.isArrayOf_alike hZ.alike Ar29.2.1) Ar29.2.2 hin29 hat29 (g := (mkF m 12 #[.val (.ref b), .val (.int (3 : Int32)), .val (.ref d), .val (.int (3 : Int32)), .val (.int (6 : Int32)), .val (.int (3 : Int32)), .val (.int c2)] [(.int (3 : Int32)), (.ref b)])) rfl rfl (hb hby d6_12) _ ww) ?_
  show own_Goes _ _ _ _ _ _ _ (T26.setTop (mkF m 13 #[.val (.ref b), .val (.int (3 : Int32)), .val (.ref d), .val (.int (3 : Int32)), .val (.int (6 : Int32)), .val (.int (3 : Int32)), .val (.int c2)] [(.int c3)]))
  refine own_go (fun _ ww => XS.istore X26.here hx rfl (hb hby d6_13) rfl (l' := #[.val (.ref b), .val (.int (3 : Int32)), .val (.ref d), .val (.int (3 : Int32)), .val (.int (6 : Int32)), .val (.int (3 : Int32)), .val (.int c3)]) rfl ww) ?_
  show own_Goes _ _ _ _ _ _ _ (T26.setTop (mkF m 15 #[.val (.ref b), .val (.int (3 : Int32)), .val (.ref d), .val (.int (3 : Int32)), .val (.int (6 : Int32)), .val (.int (3 : Int32)), .val (.int c3)] []))
  refine own_go (fun _ ww => XS.iload X26.here hx rfl (hb hby d6_15) rfl  ww) ?_
  show own_Goes _ _ _ _ _ _ _ (T26.setTop (mkF m 17 #[.val (.ref b), .val (.int (3 : Int32)), .val (.ref d), .val (.int (3 : Int32)), .val (.int (6 : Int32)), .val (.int (3 : Int32)), .val (.int c3)] [(.int c3)]))
  refine own_go (fun _ ww => XS.sipush X26.here hx rfl (hb hby d6_17) ww) ?_
  show own_Goes _ _ _ _ _ _ _ (T26.setTop (mkF m 20 #[.val (.ref b), .val (.int (3 : Int32)), .val (.ref d), .val (.int (3 : Int32)), .val (.int (6 : Int32)), .val (.int (3 : Int32)), .val (.int c3)] [(.int (255 : Int32)), (.int c3)]))
  refine own_go (fun _ ww => XS.icmpNo X26.here hx rfl (hb hby d6_20) rfl (tlt hgt).2.2.2 ww) ?_
  show own_Goes _ _ _ _ _ _ _ (T26.setTop (mkF m 23 #[.val (.ref b), .val (.int (3 : Int32)), .val (.ref d), .val (.int (3 : Int32)), .val (.int (6 : Int32)), .val (.int (3 : Int32)), .val (.int c3)] []))
  refine own_go (fun _ ww => XS.iload X26.here hx rfl (hb hby d6_23) rfl  ww) ?_
  show own_Goes _ _ _ _ _ _ _ (T26.setTop (mkF m 25 #[.val (.ref b), .val (.int (3 : Int32)), .val (.ref d), .val (.int (3 : Int32)), .val (.int (6 : Int32)), .val (.int (3 : Int32)), .val (.int c3)] [(.int (3 : Int32))]))
  exact own_out X26 hlk (v := some (.int (3 : Int32))) (fun h => by rw [hret] at h; cases h) (fun fs hr => retOut X26 hx (t := .int) hret rfl (Or.inl ⟨rfl, by simp, _, rfl⟩) (hb hby d6_25) hr) e26 ⟨rfl, N26, K26⟩ (by decide) (by decide)
theorem ef_cm5_4 (m : MethodId) (b : Addr) (kb : ClassId) (d : Addr) (kd : ClassId) (c0 : Int32) (c1 : Int32) (c2 : Int32) (c3 : Int32) (c4 : Int32) (c5 : Int32) : entryFrame m #[(.ref b), (.int (0 : Int32)), (.ref d), (.int (0 : Int32)), (.int (6 : Int32))] 7 = mkF m 0 #[.val (.ref b), .val (.int (0 : Int32)), .val (.ref d), .val (.int (0 : Int32)), .val (.int (6 : Int32)), .unset, .unset] [] := by
  first | (simp [entryFrame, mkF, argsToLocals, Value.category]; done) | rfl
def Q_cm5_4 (Z : State) (b : Addr) (kb : ClassId) (d : Addr) (kd : ClassId) (c0 : Int32) (c1 : Int32) (c2 : Int32) (c3 : Int32) (c4 : Int32) (c5 : Int32) (h0 : Heap) (n0 : Nat) (v : Option Value) (h : Heap) (L : List Loc) : Prop := v = some (.int (4 : Int32)) ∧ Fr n0 L ∧ Keep h0 h [d]
set_option maxRecDepth 65536 in
set_option maxHeartbeats 40000000 in
theorem rm_cm5_4 (l : Launch) (Z : State) (a0 : Array Value) (hw : ∀ d ∈ tables_1, d.before a0 Z = true) (ws : List Jvm.Cond) (b : Addr) (kb : ClassId) (d : Addr) (kd : ClassId) (c0 : Int32) (c1 : Int32) (c2 : Int32) (c3 : Int32) (c4 : Int32) (c5 : Int32) (h0 : Heap) (n0 : Nat) (O0 : Old Z n0 h0) (Vb : Arv Z h0 b kb .char (6 : Int32) [(.int c0), (.int c1), (.int c2), (.int c3), (.int c4), (.int c5)] (.int (0 : Int32))) (Vd : Arv Z h0 d kd .byte (6 : Int32) [(.int (0 : Int32)), (.int (0 : Int32)), (.int (0 : Int32)), (.int (0 : Int32)), (.int (0 : Int32)), (.int (0 : Int32))] (.int (0 : Int32))) (g_d : n0 ≤ d) (nbd : b ≠ d) (le0 : ¬ (255 : Int32) < c0) (le1 : ¬ (255 : Int32) < c1) (le2 : ¬ (255 : Int32) < c2) (le3 : ¬ (255 : Int32) < c3) (hgt : (255 : Int32) < c4) :
    MetFree l (⟨"java/lang/StringUTF16", "compress", "([CI[BII)I"⟩ : MethodName) (head1 (Jvm.Cond.code (⟨"java/lang/StringUTF16", "compress", "([CI[BII)I"⟩ : MethodName) jdk_52_method_21_code 7 (some .int) :: ws) ({ frames := 0, cells := 0, slots := 0, locals := 0 } : Room)) (fun av_ U => av_ = #[(.ref b), (.int (0 : Int32)), (.ref d), (.int (0 : Int32)), (.int (6 : Int32))] ∧ Z.Warmed39 U.vm ∧ U.heap = h0) (fun _ _ _ _ _ => True) (fun _ U o_ U' => ∃ v L, o_ = .returned v ∧ Q_cm5_4 Z b kb d kd c0 c1 c2 c3 c4 c5 h0 n0 v U'.heap L ∧ FrameEnd U o_ U' L ({ frames := 0, cells := 0, slots := 0, locals := 0 } : Room).cells ({ frames := 0, cells := 0, slots := 0, locals := 0 } : Room).slots) := by
  refine MetFree.of_bodySF (plainFor_of_name pn_1) hisR ?_
  intro p e s m args below meth c s₁ Bd hml0 hP hK
  obtain ⟨rfl, hZ, hh⟩ := hP
  have hx := Bd.exec
  have hby := Bd.bytes
  have hml : c.maxLocals = 7 := hml0
  have hown : s.vm.findClass "java/lang/StringUTF16" = some m.cls := findClass_of_methodNamed Bd.named
  have hnm := (name_of_methodNamed Bd.named Bd.method).1
  have hlk := own_lk Bd
  have hret := Bd.returns
  have X0 : Stand p l e ({ frames := 0, cells := 0, slots := 0, locals := 0 } : Room) s m #[(.ref b), (.int (0 : Int32)), (.ref d), (.int (0 : Int32)), (.int (6 : Int32))] below meth c s₁ [] 0 0 := Stand.of_body Bd
  have e0 : s₁.heap = h0 := by rw [← hh, Bd.state]; rfl
  have N0 := Fr.nil n0
  show own_Goes p e below s (Q_cm5_4 Z b kb d kd c0 c1 c2 c3 c4 c5 h0 n0) ({ frames := 0, cells := 0, slots := 0, locals := 0 } : Room).cells ({ frames := 0, cells := 0, slots := 0, locals := 0 } : Room).slots (s₁.setTop (entryFrame m #[(.ref b), (.int (0 : Int32)), (.ref d), (.int (0 : Int32)), (.int (6 : Int32))] 7))
  refine own_go (fun _ ww => castTop (ef_cm5_4 m b kb d kd c0 c1 c2 c3 c4 c5) ww) ?_
  show own_Goes _ _ _ _ _ _ _ (s₁.setTop (mkF m 0 #[.val (.ref b), .val (.int (0 : Int32)), .val (.ref d), .val (.int (0 : Int32)), .val (.int (6 : Int32)), .unset, .unset] []))
  refine own_go (fun _ ww => XS.iconst X0.here hx rfl (hb hby d6_0) ww) ?_
  show own_Goes _ _ _ _ _ _ _ (s₁.setTop (mkF m 1 #[.val (.ref b), .val (.int (0 : Int32)), .val (.ref d), .val (.int (0 : Int32)), .val (.int (6 : Int32)), .unset, .unset] [(.int (0 : Int32))]))
  refine own_go (fun _ ww => XS.istore X0.here hx rfl (hb hby d6_1) rfl (l' := #[.val (.ref b), .val (.int (0 : Int32)), .val (.ref d), .val (.int (0 : Int32)), .val (.int (6 : Int32)), .val (.int (0 : Int32)), .unset]) rfl ww) ?_
  show own_Goes _ _ _ _ _ _ _ (s₁.setTop (mkF m 3 #[.val (.ref b), .val (.int (0 : Int32)), .val (.ref d), .val (.int (0 : Int32)), .val (.int (6 : Int32)), .val (.int (0 : Int32)), .unset] []))
  refine own_go (fun _ ww => XS.iload X0.here hx rfl (hb hby d6_3) rfl  ww) ?_
  show own_Goes _ _ _ _ _ _ _ (s₁.setTop (mkF m 5 #[.val (.ref b), .val (.int (0 : Int32)), .val (.ref d), .val (.int (0 : Int32)), .val (.int (6 : Int32)), .val (.int (0 : Int32)), .unset] [(.int (0 : Int32))]))
  refine own_go (fun _ ww => XS.iload X0.here hx rfl (hb hby d6_5) rfl  ww) ?_
  show own_Goes _ _ _ _ _ _ _ (s₁.setTop (mkF m 7 #[.val (.ref b), .val (.int (0 : Int32)), .val (.ref d), .val (.int (0 : Int32)), .val (.int (6 : Int32)), .val (.int (0 : Int32)), .unset] [(.int (6 : Int32)), (.int (0 : Int32))]))
  refine own_go (fun _ ww => XS.icmpNo X0.here hx rfl (hb hby d6_7) rfl (tlt (by decide : (0 : Int32) < (6 : Int32))).2.1 ww) ?_
  show own_Goes _ _ _ _ _ _ _ (s₁.setTop (mkF m 10 #[.val (.ref b), .val (.int (0 : Int32)), .val (.ref d), .val (.int (0 : Int32)), .val (.int (6 : Int32)), .val (.int (0 : Int32)), .unset] []))
  refine own_go (fun _ ww => XS.aloadN X0.here hx rfl (hb hby d6_10) rfl rfl ww) ?_
  show own_Goes _ _ _ _ _ _ _ (s₁.setTop (mkF m 11 #[.val (.ref b), .val (.int (0 : Int32)), .val (.ref d), .val (.int (0 : Int32)), .val (.int (6 : Int32)), .val (.int (0 : Int32)), .unset] [(.ref b)]))
  refine own_go (fun _ ww => XS.iloadN X0.here hx rfl (hb hby d6_11) rfl  ww) ?_
  show own_Goes _ _ _ _ _ _ _ (s₁.setTop (mkF m 12 #[.val (.ref b), .val (.int (0 : Int32)), .val (.ref d), .val (.int (0 : Int32)), .val (.int (6 : Int32)), .val (.int (0 : Int32)), .unset] [(.int (0 : Int32)), (.ref b)]))
  obtain ⟨cl30, Ar30, -, S30, -, H30, -⟩ := id Vb
  have hin30 := inb_of (j := (0 : Int32)) S30 ⟨by decide, by decide⟩
  have hat30 : cl30.slots[((0 : Int32)).toNatClampNeg]? = some (.int c0) := Has.at H30 hin30 rfl
  refine own_go (fun _ ww => X0.caload hx (j := (0 : Int32)) (v := (.int c0)) (by rw [e0]; exact Ar30.1) (State.isArrayOf_alike hZ.alike Ar30.2.1) Ar30.2.2 hin30 hat30 (g := (mkF m 12 #[.val (.ref b), .val (.int (0 : Int32)), .val (.ref d), .val (.int (0 : Int32)), .val (.int (6 : Int32)), .val (.int (0 : Int32)), .unset] [(.int (0 : Int32)), (.ref b)])) rfl rfl (hb hby d6_12) _ ww) ?_
  show own_Goes _ _ _ _ _ _ _ (s₁.setTop (mkF m 13 #[.val (.ref b), .val (.int (0 : Int32)), .val (.ref d), .val (.int (0 : Int32)), .val (.int (6 : Int32)), .val (.int (0 : Int32)), .unset] [(.int c0)]))
  refine own_go (fun _ ww => XS.istore X0.here hx rfl (hb hby d6_13) rfl (l' := #[.val (.ref b), .val (.int (0 : Int32)), .val (.ref d), .val (.int (0 : Int32)), .val (.int (6 : Int32)), .val (.int (0 : Int32)), .val (.int c0)]) rfl ww) ?_
  show own_Goes _ _ _ _ _ _ _ (s₁.setTop (mkF m 15 #[.val (.ref b), .val (.int (0 : Int32)), .val (.ref d), .val (.int (0 : Int32)), .val (.int (6 : Int32)), .val (.int (0 : Int32)), .val (.int c0)] []))
  refine own_go (fun _ ww => XS.iload X0.here hx rfl (hb hby d6_15) rfl  ww) ?_
  show own_Goes _ _ _ _ _ _ _ (s₁.setTop (mkF m 17 #[.val (.ref b), .val (.int (0 : Int32)), .val (.ref d), .val (.int (0 : Int32)), .val (.int (6 : Int32)), .val (.int (0 : Int32)), .val (.int c0)] [(.int c0)]))
  refine own_go (fun _ ww => XS.sipush X0.here hx rfl (hb hby d6_17) ww) ?_
  show own_Goes _ _ _ _ _ _ _ (s₁.setTop (mkF m 20 #[.val (.ref b), .val (.int (0 : Int32)), .val (.ref d), .val (.int (0 : Int32)), .val (.int (6 : Int32)), .val (.int (0 : Int32)), .val (.int c0)] [(.int (255 : Int32)), (.int c0)]))
  refine own_go (fun _ ww => XS.icmpYes X0.here hx rfl (pc0 := 20) (pc' := 26) rfl (hb hby d6_20) rfl (flt le0).2.2.2 (by decide) (by decide) ww) ?_
  show own_Goes _ _ _ _ _ _ _ (s₁.setTop (mkF m 26 #[.val (.ref b), .val (.int (0 : Int32)), .val (.ref d), .val (.int (0 : Int32)), .val (.int (6 : Int32)), .val (.int (0 : Int32)), .val (.int c0)] []))
  refine own_go (fun _ ww => XS.aloadN X0.here hx rfl (hb hby d6_26) rfl rfl ww) ?_
  show own_Goes _ _ _ _ _ _ _ (s₁.setTop (mkF m 27 #[.val (.ref b), .val (.int (0 : Int32)), .val (.ref d), .val (.int (0 : Int32)), .val (.int (6 : Int32)), .val (.int (0 : Int32)), .val (.int c0)] [(.ref d)]))
  refine own_go (fun _ ww => XS.iloadN X0.here hx rfl (hb hby d6_27) rfl  ww) ?_
  show own_Goes _ _ _ _ _ _ _ (s₁.setTop (mkF m 28 #[.val (.ref b), .val (.int (0 : Int32)), .val (.ref d), .val (.int (0 : Int32)), .val (.int (6 : Int32)), .val (.int (0 : Int32)), .val (.int c0)] [(.int (0 : Int32)), (.ref d)]))
  refine own_go (fun _ ww => XS.iload X0.here hx rfl (hb hby d6_28) rfl  ww) ?_
  show own_Goes _ _ _ _ _ _ _ (s₁.setTop (mkF m 30 #[.val (.ref b), .val (.int (0 : Int32)), .val (.ref d), .val (.int (0 : Int32)), .val (.int (6 : Int32)), .val (.int (0 : Int32)), .val (.int c0)] [(.int c0), (.int (0 : Int32)), (.ref d)]))
  refine own_go (fun _ ww => XT.i2b X0.here hx rfl (hb hby d6_30) rfl ww) ?_
  show own_Goes _ _ _ _ _ _ _ (s₁.setTop (mkF m 31 #[.val (.ref b), .val (.int (0 : Int32)), .val (.ref d), .val (.int (0 : Int32)), .val (.int (6 : Int32)), .val (.int (0 : Int32)), .val (.int c0)] [(.int (c0.toInt8.toInt32)), (.int (0 : Int32)), (.ref d)]))
  obtain ⟨cl31, Ar31, q31, S31, M31, H31, U31⟩ := id Vd
  obtain ⟨T31, h31, X31, e31, W31, st31⟩ := stB X0 hx hZ e0 Ar31 (j := (0 : Int32)) (inb_of S31 ⟨by decide, by decide⟩) (g := (mkF m 31 #[.val (.ref b), .val (.int (0 : Int32)), .val (.ref d), .val (.int (0 : Int32)), .val (.int (6 : Int32)), .val (.int (0 : Int32)), .val (.int c0)] [(.int (c0.toInt8.toInt32)), (.int (0 : Int32)), (.ref d)])) rfl rfl (hb hby d6_31)
  have nr31 : nar .byte (c0.toInt8.toInt32) = (c0.toInt8.toInt32) := (own_narb _)
  rw [nr31] at W31
  have ft31 : fits .byte (.int (c0.toInt8.toInt32)) = true := (fits_nar_byte _)
  have f32 : Arv Z h31 b kb .char (6 : Int32) [(.int c0), (.int c1), (.int c2), (.int c3), (.int c4), (.int c5)] (.int (0 : Int32)) := (Vb.other W31 nbd)
  have f33 : Arv Z h31 d kd .byte (6 : Int32) [(.int (c0.toInt8.toInt32)), (.int (0 : Int32)), (.int (0 : Int32)), (.int (0 : Int32)), (.int (0 : Int32)), (.int (0 : Int32))] (.int (0 : Int32)) := (Arv.set Ar31 q31 S31 M31 H31 U31 ft31 W31 0 rfl (Nat.le_of_ble_eq_true rfl))
  have N31 := Fr.snoc X31 N0 g_d
  have O31 := O0.wr W31 g_d
  have K31 := (Keep.refl h0 [d]).wr W31 (Or.inl (List.mem_of_getElem? (i := 0) rfl))
  refine own_go st31 ?_
  show own_Goes _ _ _ _ _ _ _ (T31.setTop (mkF m 32 #[.val (.ref b), .val (.int (0 : Int32)), .val (.ref d), .val (.int (0 : Int32)), .val (.int (6 : Int32)), .val (.int (0 : Int32)), .val (.int c0)] []))
  refine own_go (fun _ ww => XS.iinc X31.here hx rfl (hb hby d6_32) rfl (l' := #[.val (.ref b), .val (.int (1 : Int32)), .val (.ref d), .val (.int (0 : Int32)), .val (.int (6 : Int32)), .val (.int (0 : Int32)), .val (.int c0)]) rfl ww) ?_
  show own_Goes _ _ _ _ _ _ _ (T31.setTop (mkF m 35 #[.val (.ref b), .val (.int (1 : Int32)), .val (.ref d), .val (.int (0 : Int32)), .val (.int (6 : Int32)), .val (.int (0 : Int32)), .val (.int c0)] []))
  refine own_go (fun _ ww => XS.iinc X31.here hx rfl (hb hby d6_35) rfl (l' := #[.val (.ref b), .val (.int (1 : Int32)), .val (.ref d), .val (.int (1 : Int32)), .val (.int (6 : Int32)), .val (.int (0 : Int32)), .val (.int c0)]) rfl ww) ?_
  show own_Goes _ _ _ _ _ _ _ (T31.setTop (mkF m 38 #[.val (.ref b), .val (.int (1 : Int32)), .val (.ref d), .val (.int (1 : Int32)), .val (.int (6 : Int32)), .val (.int (0 : Int32)), .val (.int c0)] []))
  refine own_go (fun _ ww => XS.iinc X31.here hx rfl (hb hby d6_38) rfl (l' := #[.val (.ref b), .val (.int (1 : Int32)), .val (.ref d), .val (.int (1 : Int32)), .val (.int (6 : Int32)), .val (.int (1 : Int32)), .val (.int c0)]) rfl ww) ?_
  show own_Goes _ _ _ _ _ _ _ (T31.setTop (mkF m 41 #[.val (.ref b), .val (.int (1 : Int32)), .val (.ref d), .val (.int (1 : Int32)), .val (.int (6 : Int32)), .val (.int (1 : Int32)), .val (.int c0)] []))
  refine own_go (fun _ ww => XS.goto X31.here hx rfl (pc0 := 41) (pc' := 3) rfl (hb hby d6_41) (by decide) (by decide) ww) ?_
  show own_Goes _ _ _ _ _ _ _ (T31.setTop (mkF m 3 #[.val (.ref b), .val (.int (1 : Int32)), .val (.ref d), .val (.int (1 : Int32)), .val (.int (6 : Int32)), .val (.int (1 : Int32)), .val (.int c0)] []))
  refine own_go (fun _ ww => XS.iload X31.here hx rfl (hb hby d6_3) rfl  ww) ?_
  show own_Goes _ _ _ _ _ _ _ (T31.setTop (mkF m 5 #[.val (.ref b), .val (.int (1 : Int32)), .val (.ref d), .val (.int (1 : Int32)), .val (.int (6 : Int32)), .val (.int (1 : Int32)), .val (.int c0)] [(.int (1 : Int32))]))
  refine own_go (fun _ ww => XS.iload X31.here hx rfl (hb hby d6_5) rfl  ww) ?_
  show own_Goes _ _ _ _ _ _ _ (T31.setTop (mkF m 7 #[.val (.ref b), .val (.int (1 : Int32)), .val (.ref d), .val (.int (1 : Int32)), .val (.int (6 : Int32)), .val (.int (1 : Int32)), .val (.int c0)] [(.int (6 : Int32)), (.int (1 : Int32))]))
  refine own_go (fun _ ww => XS.icmpNo X31.here hx rfl (hb hby d6_7) rfl (tlt (by decide : (1 : Int32) < (6 : Int32))).2.1 ww) ?_
  show own_Goes _ _ _ _ _ _ _ (T31.setTop (mkF m 10 #[.val (.ref b), .val (.int (1 : Int32)), .val (.ref d), .val (.int (1 : Int32)), .val (.int (6 : Int32)), .val (.int (1 : Int32)), .val (.int c0)] []))
  refine own_go (fun _ ww => XS.aloadN X31.here hx rfl (hb hby d6_10) rfl rfl ww) ?_
  show own_Goes _ _ _ _ _ _ _ (T31.setTop (mkF m 11 #[.val (.ref b), .val (.int (1 : Int32)), .val (.ref d), .val (.int (1 : Int32)), .val (.int (6 : Int32)), .val (.int (1 : Int32)), .val (.int c0)] [(.ref b)]))
  refine own_go (fun _ ww => XS.iloadN X31.here hx rfl (hb hby d6_11) rfl  ww) ?_
  show own_Goes _ _ _ _ _ _ _ (T31.setTop (mkF m 12 #[.val (.ref b), .val (.int (1 : Int32)), .val (.ref d), .val (.int (1 : Int32)), .val (.int (6 : Int32)), .val (.int (1 : Int32)), .val (.int c0)] [(.int (1 : Int32)), (.ref b)]))
  obtain ⟨cl34, Ar34, -, S34, -, H34, -⟩ := id f32
  have hin34 := inb_of (j := (1 : Int32)) S34 ⟨by decide, by decide⟩
  have hat34 : cl34.slots[((1 : Int32)).toNatClampNeg]? = some (.int c1) := Has.at H34 hin34 rfl
  refine own_go (fun _ ww => X31.caload hx (j := (1 : Int32)) (v := (.int c1)) (by rw [e31]; exact Ar34.1) (State.isArrayOf_alike hZ.alike Ar34.2.1) Ar34.2.2 hin34 hat34 (g := (mkF m 12 #[.val (.ref b), .val (.int (1 : Int32)), .val (.ref d), .val (.int (1 : Int32)), .val (.int (6 : Int32)), .val (.int (1 : Int32)), .val (.int c0)] [(.int (1 : Int32)), (.ref b)])) rfl rfl (hb hby d6_12) _ ww) ?_
  show own_Goes _ _ _ _ _ _ _ (T31.setTop (mkF m 13 #[.val (.ref b), .val (.int (1 : Int32)), .val (.ref d), .val (.int (1 : Int32)), .val (.int (6 : Int32)), .val (.int (1 : Int32)), .val (.int c0)] [(.int c1)]))
  refine own_go (fun _ ww => XS.istore X31.here hx rfl (hb hby d6_13) rfl (l' := #[.val (.ref b), .val (.int (1 : Int32)), .val (.ref d), .val (.int (1 : Int32)), .val (.int (6 : Int32)), .val (.int (1 : Int32)), .val (.int c1)]) rfl ww) ?_
  show own_Goes _ _ _ _ _ _ _ (T31.setTop (mkF m 15 #[.val (.ref b), .val (.int (1 : Int32)), .val (.ref d), .val (.int (1 : Int32)), .val (.int (6 : Int32)), .val (.int (1 : Int32)), .val (.int c1)] []))
  refine own_go (fun _ ww => XS.iload X31.here hx rfl (hb hby d6_15) rfl  ww) ?_
  show own_Goes _ _ _ _ _ _ _ (T31.setTop (mkF m 17 #[.val (.ref b), .val (.int (1 : Int32)), .val (.ref d), .val (.int (1 : Int32)), .val (.int (6 : Int32)), .val (.int (1 : Int32)), .val (.int c1)] [(.int c1)]))
  refine own_go (fun _ ww => XS.sipush X31.here hx rfl (hb hby d6_17) ww) ?_
  show own_Goes _ _ _ _ _ _ _ (T31.setTop (mkF m 20 #[.val (.ref b), .val (.int (1 : Int32)), .val (.ref d), .val (.int (1 : Int32)), .val (.int (6 : Int32)), .val (.int (1 : Int32)), .val (.int c1)] [(.int (255 : Int32)), (.int c1)]))
  refine own_go (fun _ ww => XS.icmpYes X31.here hx rfl (pc0 := 20) (pc' := 26) rfl (hb hby d6_20) rfl (flt le1).2.2.2 (by decide) (by decide) ww) ?_
  show own_Goes _ _ _ _ _ _ _ (T31.setTop (mkF m 26 #[.val (.ref b), .val (.int (1 : Int32)), .val (.ref d), .val (.int (1 : Int32)), .val (.int (6 : Int32)), .val (.int (1 : Int32)), .val (.int c1)] []))
  refine own_go (fun _ ww => XS.aloadN X31.here hx rfl (hb hby d6_26) rfl rfl ww) ?_
  show own_Goes _ _ _ _ _ _ _ (T31.setTop (mkF m 27 #[.val (.ref b), .val (.int (1 : Int32)), .val (.ref d), .val (.int (1 : Int32)), .val (.int (6 : Int32)), .val (.int (1 : Int32)), .val (.int c1)] [(.ref d)]))
  refine own_go (fun _ ww => XS.iloadN X31.here hx rfl (hb hby d6_27) rfl  ww) ?_
  show own_Goes _ _ _ _ _ _ _ (T31.setTop (mkF m 28 #[.val (.ref b), .val (.int (1 : Int32)), .val (.ref d), .val (.int (1 : Int32)), .val (.int (6 : Int32)), .val (.int (1 : Int32)), .val (.int c1)] [(.int (1 : Int32)), (.ref d)]))
  refine own_go (fun _ ww => XS.iload X31.here hx rfl (hb hby d6_28) rfl  ww) ?_
  show own_Goes _ _ _ _ _ _ _ (T31.setTop (mkF m 30 #[.val (.ref b), .val (.int (1 : Int32)), .val (.ref d), .val (.int (1 : Int32)), .val (.int (6 : Int32)), .val (.int (1 : Int32)), .val (.int c1)] [(.int c1), (.int (1 : Int32)), (.ref d)]))
  refine own_go (fun _ ww => XT.i2b X31.here hx rfl (hb hby d6_30) rfl ww) ?_
  show own_Goes _ _ _ _ _ _ _ (T31.setTop (mkF m 31 #[.val (.ref b), .val (.int (1 : Int32)), .val (.ref d), .val (.int (1 : Int32)), .val (.int (6 : Int32)), .val (.int (1 : Int32)), .val (.int c1)] [(.int (c1.toInt8.toInt32)), (.int (1 : Int32)), (.ref d)]))
  obtain ⟨cl35, Ar35, q35, S35, M35, H35, U35⟩ := id f33
  obtain ⟨T35, h35, X35, e35, W35, st35⟩ := stB X31 hx hZ e31 Ar35 (j := (1 : Int32)) (inb_of S35 ⟨by decide, by decide⟩) (g := (mkF m 31 #[.val (.ref b), .val (.int (1 : Int32)), .val (.ref d), .val (.int (1 : Int32)), .val (.int (6 : Int32)), .val (.int (1 : Int32)), .val (.int c1)] [(.int (c1.toInt8.toInt32)), (.int (1 : Int32)), (.ref d)])) rfl rfl (hb hby d6_31)
  have nr35 : nar .byte (c1.toInt8.toInt32) = (c1.toInt8.toInt32) := (own_narb _)
  rw [nr35] at W35
  have ft35 : fits .byte (.int (c1.toInt8.toInt32)) = true := (fits_nar_byte _)
  have f36 : Arv Z h35 b kb .char (6 : Int32) [(.int c0), (.int c1), (.int c2), (.int c3), (.int c4), (.int c5)] (.int (0 : Int32)) := (f32.other W35 nbd)
  have f37 : Arv Z h35 d kd .byte (6 : Int32) [(.int (c0.toInt8.toInt32)), (.int (c1.toInt8.toInt32)), (.int (0 : Int32)), (.int (0 : Int32)), (.int (0 : Int32)), (.int (0 : Int32))] (.int (0 : Int32)) := (Arv.set Ar35 q35 S35 M35 H35 U35 ft35 W35 1 rfl (Nat.le_of_ble_eq_true rfl))
  have N35 := Fr.snoc X35 N31 g_d
  have O35 := O31.wr W35 g_d
  have K35 := K31.wr W35 (Or.inl (List.mem_of_getElem? (i := 0) rfl))
  refine own_go st35 ?_
  show own_Goes _ _ _ _ _ _ _ (T35.setTop (mkF m 32 #[.val (.ref b), .val (.int (1 : Int32)), .val (.ref d), .val (.int (1 : Int32)), .val (.int (6 : Int32)), .val (.int (1 : Int32)), .val (.int c1)] []))
  refine own_go (fun _ ww => XS.iinc X35.here hx rfl (hb hby d6_32) rfl (l' := #[.val (.ref b), .val (.int (2 : Int32)), .val (.ref d), .val (.int (1 : Int32)), .val (.int (6 : Int32)), .val (.int (1 : Int32)), .val (.int c1)]) rfl ww) ?_
  show own_Goes _ _ _ _ _ _ _ (T35.setTop (mkF m 35 #[.val (.ref b), .val (.int (2 : Int32)), .val (.ref d), .val (.int (1 : Int32)), .val (.int (6 : Int32)), .val (.int (1 : Int32)), .val (.int c1)] []))
  refine own_go (fun _ ww => XS.iinc X35.here hx rfl (hb hby d6_35) rfl (l' := #[.val (.ref b), .val (.int (2 : Int32)), .val (.ref d), .val (.int (2 : Int32)), .val (.int (6 : Int32)), .val (.int (1 : Int32)), .val (.int c1)]) rfl ww) ?_
  show own_Goes _ _ _ _ _ _ _ (T35.setTop (mkF m 38 #[.val (.ref b), .val (.int (2 : Int32)), .val (.ref d), .val (.int (2 : Int32)), .val (.int (6 : Int32)), .val (.int (1 : Int32)), .val (.int c1)] []))
  refine own_go (fun _ ww => XS.iinc X35.here hx rfl (hb hby d6_38) rfl (l' := #[.val (.ref b), .val (.int (2 : Int32)), .val (.ref d), .val (.int (2 : Int32)), .val (.int (6 : Int32)), .val (.int (2 : Int32)), .val (.int c1)]) rfl ww) ?_
  show own_Goes _ _ _ _ _ _ _ (T35.setTop (mkF m 41 #[.val (.ref b), .val (.int (2 : Int32)), .val (.ref d), .val (.int (2 : Int32)), .val (.int (6 : Int32)), .val (.int (2 : Int32)), .val (.int c1)] []))
  refine own_go (fun _ ww => XS.goto X35.here hx rfl (pc0 := 41) (pc' := 3) rfl (hb hby d6_41) (by decide) (by decide) ww) ?_
  show own_Goes _ _ _ _ _ _ _ (T35.setTop (mkF m 3 #[.val (.ref b), .val (.int (2 : Int32)), .val (.ref d), .val (.int (2 : Int32)), .val (.int (6 : Int32)), .val (.int (2 : Int32)), .val (.int c1)] []))
  refine own_go (fun _ ww => XS.iload X35.here hx rfl (hb hby d6_3) rfl  ww) ?_
  show own_Goes _ _ _ _ _ _ _ (T35.setTop (mkF m 5 #[.val (.ref b), .val (.int (2 : Int32)), .val (.ref d), .val (.int (2 : Int32)), .val (.int (6 : Int32)), .val (.int (2 : Int32)), .val (.int c1)] [(.int (2 : Int32))]))
  refine own_go (fun _ ww => XS.iload X35.here hx rfl (hb hby d6_5) rfl  ww) ?_
  show own_Goes _ _ _ _ _ _ _ (T35.setTop (mkF m 7 #[.val (.ref b), .val (.int (2 : Int32)), .val (.ref d), .val (.int (2 : Int32)), .val (.int (6 : Int32)), .val (.int (2 : Int32)), .val (.int c1)] [(.int (6 : Int32)), (.int (2 : Int32))]))
  refine own_go (fun _ ww => XS.icmpNo X35.here hx rfl (hb hby d6_7) rfl (tlt (by decide : (2 : Int32) < (6 : Int32))).2.1 ww) ?_
  show own_Goes _ _ _ _ _ _ _ (T35.setTop (mkF m 10 #[.val (.ref b), .val (.int (2 : Int32)), .val (.ref d), .val (.int (2 : Int32)), .val (.int (6 : Int32)), .val (.int (2 : Int32)), .val (.int c1)] []))
  refine own_go (fun _ ww => XS.aloadN X35.here hx rfl (hb hby d6_10) rfl rfl ww) ?_
  show own_Goes _ _ _ _ _ _ _ (T35.setTop (mkF m 11 #[.val (.ref b), .val (.int (2 : Int32)), .val (.ref d), .val (.int (2 : Int32)), .val (.int (6 : Int32)), .val (.int (2 : Int32)), .val (.int c1)] [(.ref b)]))
  refine own_go (fun _ ww => XS.iloadN X35.here hx rfl (hb hby d6_11) rfl  ww) ?_
  show own_Goes _ _ _ _ _ _ _ (T35.setTop (mkF m 12 #[.val (.ref b), .val (.int (2 : Int32)), .val (.ref d), .val (.int (2 : Int32)), .val (.int (6 : Int32)), .val (.int (2 : Int32)), .val (.int c1)] [(.int (2 : Int32)), (.ref b)]))
  obtain ⟨cl38, Ar38, -, S38, -, H38, -⟩ := id f36
  have hin38 := inb_of (j := (2 : Int32)) S38 ⟨by decide, by decide⟩
  have hat38 : cl38.slots[((2 : Int32)).toNatClampNeg]? = some (.int c2) := Has.at H38 hin38 rfl
  refine own_go (fun _ ww => X35.caload hx (j := (2 : Int32)) (v := (.int c2)) (by rw [e35]; exact Ar38.1) (State.isArrayOf_alike hZ.alike Ar38.2.1) Ar38.2.2 hin38 hat38 (g := (mkF m 12 #[.val (.ref b), .val (.int (2 : Int32)), .val (.ref d), .val (.int (2 : Int32)), .val (.int (6 : Int32)), .val (.int (2 : Int32)), .val (.int c1)] [(.int (2 : Int32)), (.ref b)])) rfl rfl (hb hby d6_12) _ ww) ?_
  show own_Goes _ _ _ _ _ _ _ (T35.setTop (mkF m 13 #[.val (.ref b), .val (.int (2 : Int32)), .val (.ref d), .val (.int (2 : Int32)), .val (.int (6 : Int32)), .val (.int (2 : Int32)), .val (.int c1)] [(.int c2)]))
  refine own_go (fun _ ww => XS.istore X35.here hx rfl (hb hby d6_13) rfl (l' := #[.val (.ref b), .val (.int (2 : Int32)), .val (.ref d), .val (.int (2 : Int32)), .val (.int (6 : Int32)), .val (.int (2 : Int32)), .val (.int c2)]) rfl ww) ?_
  show own_Goes _ _ _ _ _ _ _ (T35.setTop (mkF m 15 #[.val (.ref b), .val (.int (2 : Int32)), .val (.ref d), .val (.int (2 : Int32)), .val (.int (6 : Int32)), .val (.int (2 : Int32)), .val (.int c2)] []))
  refine own_go (fun _ ww => XS.iload X35.here hx rfl (hb hby d6_15) rfl  ww) ?_
  show own_Goes _ _ _ _ _ _ _ (T35.setTop (mkF m 17 #[.val (.ref b), .val (.int (2 : Int32)), .val (.ref d), .val (.int (2 : Int32)), .val (.int (6 : Int32)), .val (.int (2 : Int32)), .val (.int c2)] [(.int c2)]))
  refine own_go (fun _ ww => XS.sipush X35.here hx rfl (hb hby d6_17) ww) ?_
  show own_Goes _ _ _ _ _ _ _ (T35.setTop (mkF m 20 #[.val (.ref b), .val (.int (2 : Int32)), .val (.ref d), .val (.int (2 : Int32)), .val (.int (6 : Int32)), .val (.int (2 : Int32)), .val (.int c2)] [(.int (255 : Int32)), (.int c2)]))
  refine own_go (fun _ ww => XS.icmpYes X35.here hx rfl (pc0 := 20) (pc' := 26) rfl (hb hby d6_20) rfl (flt le2).2.2.2 (by decide) (by decide) ww) ?_
  show own_Goes _ _ _ _ _ _ _ (T35.setTop (mkF m 26 #[.val (.ref b), .val (.int (2 : Int32)), .val (.ref d), .val (.int (2 : Int32)), .val (.int (6 : Int32)), .val (.int (2 : Int32)), .val (.int c2)] []))
  refine own_go (fun _ ww => XS.aloadN X35.here hx rfl (hb hby d6_26) rfl rfl ww) ?_
  show own_Goes _ _ _ _ _ _ _ (T35.setTop (mkF m 27 #[.val (.ref b), .val (.int (2 : Int32)), .val (.ref d), .val (.int (2 : Int32)), .val (.int (6 : Int32)), .val (.int (2 : Int32)), .val (.int c2)] [(.ref d)]))
  refine own_go (fun _ ww => XS.iloadN X35.here hx rfl (hb hby d6_27) rfl  ww) ?_
  show own_Goes _ _ _ _ _ _ _ (T35.setTop (mkF m 28 #[.val (.ref b), .val (.int (2 : Int32)), .val (.ref d), .val (.int (2 : Int32)), .val (.int (6 : Int32)), .val (.int (2 : Int32)), .val (.int c2)] [(.int (2 : Int32)), (.ref d)]))
  refine own_go (fun _ ww => XS.iload X35.here hx rfl (hb hby d6_28) rfl  ww) ?_
  show own_Goes _ _ _ _ _ _ _ (T35.setTop (mkF m 30 #[.val (.ref b), .val (.int (2 : Int32)), .val (.ref d), .val (.int (2 : Int32)), .val (.int (6 : Int32)), .val (.int (2 : Int32)), .val (.int c2)] [(.int c2), (.int (2 : Int32)), (.ref d)]))
  refine own_go (fun _ ww => XT.i2b X35.here hx rfl (hb hby d6_30) rfl ww) ?_
  show own_Goes _ _ _ _ _ _ _ (T35.setTop (mkF m 31 #[.val (.ref b), .val (.int (2 : Int32)), .val (.ref d), .val (.int (2 : Int32)), .val (.int (6 : Int32)), .val (.int (2 : Int32)), .val (.int c2)] [(.int (c2.toInt8.toInt32)), (.int (2 : Int32)), (.ref d)]))
  obtain ⟨cl39, Ar39, q39, S39, M39, H39, U39⟩ := id f37
  obtain ⟨T39, h39, X39, e39, W39, st39⟩ := stB X35 hx hZ e35 Ar39 (j := (2 : Int32)) (inb_of S39 ⟨by decide, by decide⟩) (g := (mkF m 31 #[.val (.ref b), .val (.int (2 : Int32)), .val (.ref d), .val (.int (2 : Int32)), .val (.int (6 : Int32)), .val (.int (2 : Int32)), .val (.int c2)] [(.int (c2.toInt8.toInt32)), (.int (2 : Int32)), (.ref d)])) rfl rfl (hb hby d6_31)
  have nr39 : nar .byte (c2.toInt8.toInt32) = (c2.toInt8.toInt32) := (own_narb _)
  rw [nr39] at W39
  have ft39 : fits .byte (.int (c2.toInt8.toInt32)) = true := (fits_nar_byte _)
  have f40 : Arv Z h39 b kb .char (6 : Int32) [(.int c0), (.int c1), (.int c2), (.int c3), (.int c4), (.int c5)] (.int (0 : Int32)) := (f36.other W39 nbd)
  have f41 : Arv Z h39 d kd .byte (6 : Int32) [(.int (c0.toInt8.toInt32)), (.int (c1.toInt8.toInt32)), (.int (c2.toInt8.toInt32)), (.int (0 : Int32)), (.int (0 : Int32)), (.int (0 : Int32))] (.int (0 : Int32)) := (Arv.set Ar39 q39 S39 M39 H39 U39 ft39 W39 2 rfl (Nat.le_of_ble_eq_true rfl))
  have N39 := Fr.snoc X39 N35 g_d
  have O39 := O35.wr W39 g_d
  have K39 := K35.wr W39 (Or.inl (List.mem_of_getElem? (i := 0) rfl))
  refine own_go st39 ?_
  show own_Goes _ _ _ _ _ _ _ (T39.setTop (mkF m 32 #[.val (.ref b), .val (.int (2 : Int32)), .val (.ref d), .val (.int (2 : Int32)), .val (.int (6 : Int32)), .val (.int (2 : Int32)), .val (.int c2)] []))
  refine own_go (fun _ ww => XS.iinc X39.here hx rfl (hb hby d6_32) rfl (l' := #[.val (.ref b), .val (.int (3 : Int32)), .val (.ref d), .val (.int (2 : Int32)), .val (.int (6 : Int32)), .val (.int (2 : Int32)), .val (.int c2)]) rfl ww) ?_
  show own_Goes _ _ _ _ _ _ _ (T39.setTop (mkF m 35 #[.val (.ref b), .val (.int (3 : Int32)), .val (.ref d), .val (.int (2 : Int32)), .val (.int (6 : Int32)), .val (.int (2 : Int32)), .val (.int c2)] []))
  refine own_go (fun _ ww => XS.iinc X39.here hx rfl (hb hby d6_35) rfl (l' := #[.val (.ref b), .val (.int (3 : Int32)), .val (.ref d), .val (.int (3 : Int32)), .val (.int (6 : Int32)), .val (.int (2 : Int32)), .val (.int c2)]) rfl ww) ?_
  show own_Goes _ _ _ _ _ _ _ (T39.setTop (mkF m 38 #[.val (.ref b), .val (.int (3 : Int32)), .val (.ref d), .val (.int (3 : Int32)), .val (.int (6 : Int32)), .val (.int (2 : Int32)), .val (.int c2)] []))
  refine own_go (fun _ ww => XS.iinc X39.here hx rfl (hb hby d6_38) rfl (l' := #[.val (.ref b), .val (.int (3 : Int32)), .val (.ref d), .val (.int (3 : Int32)), .val (.int (6 : Int32)), .val (.int (3 : Int32)), .val (.int c2)]) rfl ww) ?_
  show own_Goes _ _ _ _ _ _ _ (T39.setTop (mkF m 41 #[.val (.ref b), .val (.int (3 : Int32)), .val (.ref d), .val (.int (3 : Int32)), .val (.int (6 : Int32)), .val (.int (3 : Int32)), .val (.int c2)] []))
  refine own_go (fun _ ww => XS.goto X39.here hx rfl (pc0 := 41) (pc' := 3) rfl (hb hby d6_41) (by decide) (by decide) ww) ?_
  show own_Goes _ _ _ _ _ _ _ (T39.setTop (mkF m 3 #[.val (.ref b), .val (.int (3 : Int32)), .val (.ref d), .val (.int (3 : Int32)), .val (.int (6 : Int32)), .val (.int (3 : Int32)), .val (.int c2)] []))
  refine own_go (fun _ ww => XS.iload X39.here hx rfl (hb hby d6_3) rfl  ww) ?_
  show own_Goes _ _ _ _ _ _ _ (T39.setTop (mkF m 5 #[.val (.ref b), .val (.int (3 : Int32)), .val (.ref d), .val (.int (3 : Int32)), .val (.int (6 : Int32)), .val (.int (3 : Int32)), .val (.int c2)] [(.int (3 : Int32))]))
  refine own_go (fun _ ww => XS.iload X39.here hx rfl (hb hby d6_5) rfl  ww) ?_
  show own_Goes _ _ _ _ _ _ _ (T39.setTop (mkF m 7 #[.val (.ref b), .val (.int (3 : Int32)), .val (.ref d), .val (.int (3 : Int32)), .val (.int (6 : Int32)), .val (.int (3 : Int32)), .val (.int c2)] [(.int (6 : Int32)), (.int (3 : Int32))]))
  refine own_go (fun _ ww => XS.icmpNo X39.here hx rfl (hb hby d6_7) rfl (tlt (by decide : (3 : Int32) < (6 : Int32))).2.1 ww) ?_
  show own_Goes _ _ _ _ _ _ _ (T39.setTop (mkF m 10 #[.val (.ref b), .val (.int (3 : Int32)), .val (.ref d), .val (.int (3 : Int32)), .val (.int (6 : Int32)), .val (.int (3 : Int32)), .val (.int c2)] []))
  refine own_go (fun _ ww => XS.aloadN X39.here hx rfl (hb hby d6_10) rfl rfl ww) ?_
  show own_Goes _ _ _ _ _ _ _ (T39.setTop (mkF m 11 #[.val (.ref b), .val (.int (3 : Int32)), .val (.ref d), .val (.int (3 : Int32)), .val (.int (6 : Int32)), .val (.int (3 : Int32)), .val (.int c2)] [(.ref b)]))
  refine own_go (fun _ ww => XS.iloadN X39.here hx rfl (hb hby d6_11) rfl  ww) ?_
  show own_Goes _ _ _ _ _ _ _ (T39.setTop (mkF m 12 #[.val (.ref b), .val (.int (3 : Int32)), .val (.ref d), .val (.int (3 : Int32)), .val (.int (6 : Int32)), .val (.int (3 : Int32)), .val (.int c2)] [(.int (3 : Int32)), (.ref b)]))
  obtain ⟨cl42, Ar42, -, S42, -, H42, -⟩ := id f40
  have hin42 := inb_of (j := (3 : Int32)) S42 ⟨by decide, by decide⟩
  have hat42 : cl42.slots[((3 : Int32)).toNatClampNeg]? = some (.int c3) := Has.at H42 hin42 rfl
  refine own_go (fun _ ww => X39.caload hx (j := (3 : Int32)) (v := (.int c3)) (by rw [e39]; exact Ar42.1) (State.isArrayOf_alike hZ.alike Ar42.2.1) Ar42.2.2 hin42 hat42 (g := (mkF m 12 #[.val (.ref b), .val (.int (3 : Int32)), .val (.ref d), .val (.int (3 : Int32)), .val (.int (6 : Int32)), .val (.int (3 : Int32)), .val (.int c2)] [(.int (3 : Int32)), (.ref b)])) rfl rfl (hb hby d6_12) _ ww) ?_
  show own_Goes _ _ _ _ _ _ _ (T39.setTop (mkF m 13 #[.val (.ref b), .val (.int (3 : Int32)), .val (.ref d), .val (.int (3 : Int32)), .val (.int (6 : Int32)), .val (.int (3 : Int32)), .val (.int c2)] [(.int c3)]))
  refine own_go (fun _ ww => XS.istore X39.here hx rfl (hb hby d6_13) rfl (l' := #[.val (.ref b), .val (.int (3 : Int32)), .val (.ref d), .val (.int (3 : Int32)), .val (.int (6 : Int32)), .val (.int (3 : Int32)), .val (.int c3)]) rfl ww) ?_
  show own_Goes _ _ _ _ _ _ _ (T39.setTop (mkF m 15 #[.val (.ref b), .val (.int (3 : Int32)), .val (.ref d), .val (.int (3 : Int32)), .val (.int (6 : Int32)), .val (.int (3 : Int32)), .val (.int c3)] []))
  refine own_go (fun _ ww => XS.iload X39.here hx rfl (hb hby d6_15) rfl  ww) ?_
  show own_Goes _ _ _ _ _ _ _ (T39.setTop (mkF m 17 #[.val (.ref b), .val (.int (3 : Int32)), .val (.ref d), .val (.int (3 : Int32)), .val (.int (6 : Int32)), .val (.int (3 : Int32)), .val (.int c3)] [(.int c3)]))
  refine own_go (fun _ ww => XS.sipush X39.here hx rfl (hb hby d6_17) ww) ?_
  show own_Goes _ _ _ _ _ _ _ (T39.setTop (mkF m 20 #[.val (.ref b), .val (.int (3 : Int32)), .val (.ref d), .val (.int (3 : Int32)), .val (.int (6 : Int32)), .val (.int (3 : Int32)), .val (.int c3)] [(.int (255 : Int32)), (.int c3)]))
  refine own_go (fun _ ww => XS.icmpYes X39.here hx rfl (pc0 := 20) (pc' := 26) rfl (hb hby d6_20) rfl (flt le3).2.2.2 (by decide) (by decide) ww) ?_
  show own_Goes _ _ _ _ _ _ _ (T39.setTop (mkF m 26 #[.val (.ref b), .val (.int (3 : Int32)), .val (.ref d), .val (.int (3 : Int32)), .val (.int (6 : Int32)), .val (.int (3 : Int32)), .val (.int c3)] []))
  refine own_go (fun _ ww => XS.aloadN X39.here hx rfl (hb hby d6_26) rfl rfl ww) ?_
  show own_Goes _ _ _ _ _ _ _ (T39.setTop (mkF m 27 #[.val (.ref b), .val (.int (3 : Int32)), .val (.ref d), .val (.int (3 : Int32)), .val (.int (6 : Int32)), .val (.int (3 : Int32)), .val (.int c3)] [(.ref d)]))
  refine own_go (fun _ ww => XS.iloadN X39.here hx rfl (hb hby d6_27) rfl  ww) ?_
  show own_Goes _ _ _ _ _ _ _ (T39.setTop (mkF m 28 #[.val (.ref b), .val (.int (3 : Int32)), .val (.ref d), .val (.int (3 : Int32)), .val (.int (6 : Int32)), .val (.int (3 : Int32)), .val (.int c3)] [(.int (3 : Int32)), (.ref d)]))
  refine own_go (fun _ ww => XS.iload X39.here hx rfl (hb hby d6_28) rfl  ww) ?_
  show own_Goes _ _ _ _ _ _ _ (T39.setTop (mkF m 30 #[.val (.ref b), .val (.int (3 : Int32)), .val (.ref d), .val (.int (3 : Int32)), .val (.int (6 : Int32)), .val (.int (3 : Int32)), .val (.int c3)] [(.int c3), (.int (3 : Int32)), (.ref d)]))
  refine own_go (fun _ ww => XT.i2b X39.here hx rfl (hb hby d6_30) rfl ww) ?_
  show own_Goes _ _ _ _ _ _ _ (T39.setTop (mkF m 31 #[.val (.ref b), .val (.int (3 : Int32)), .val (.ref d), .val (.int (3 : Int32)), .val (.int (6 : Int32)), .val (.int (3 : Int32)), .val (.int c3)] [(.int (c3.toInt8.toInt32)), (.int (3 : Int32)), (.ref d)]))
  obtain ⟨cl43, Ar43, q43, S43, M43, H43, U43⟩ := id f41
  obtain ⟨T43, h43, X43, e43, W43, st43⟩ := stB X39 hx hZ e39 Ar43 (j := (3 : Int32)) (inb_of S43 ⟨by decide, by decide⟩) (g := (mkF m 31 #[.val (.ref b), .val (.int (3 : Int32)), .val (.ref d), .val (.int (3 : Int32)), .val (.int (6 : Int32)), .val (.int (3 : Int32)), .val (.int c3)] [(.int (c3.toInt8.toInt32)), (.int (3 : Int32)), (.ref d)])) rfl rfl (hb hby d6_31)
  have nr43 : nar .byte (c3.toInt8.toInt32) = (c3.toInt8.toInt32) := (own_narb _)
  rw [nr43] at W43
  have ft43 : fits .byte (.int (c3.toInt8.toInt32)) = true := (fits_nar_byte _)
  have f44 : Arv Z h43 b kb .char (6 : Int32) [(.int c0), (.int c1), (.int c2), (.int c3), (.int c4), (.int c5)] (.int (0 : Int32)) := (f40.other W43 nbd)
  have f45 : Arv Z h43 d kd .byte (6 : Int32) [(.int (c0.toInt8.toInt32)), (.int (c1.toInt8.toInt32)), (.int (c2.toInt8.toInt32)), (.int (c3.toInt8.toInt32)), (.int (0 : Int32)), (.int (0 : Int32))] (.int (0 : Int32)) := (Arv.set Ar43 q43 S43 M43 H43 U43 ft43 W43 3 rfl (Nat.le_of_ble_eq_true rfl))
  have N43 := Fr.snoc X43 N39 g_d
  have O43 := O39.wr W43 g_d
  have K43 := K39.wr W43 (Or.inl (List.mem_of_getElem? (i := 0) rfl))
  refine own_go st43 ?_
  show own_Goes _ _ _ _ _ _ _ (T43.setTop (mkF m 32 #[.val (.ref b), .val (.int (3 : Int32)), .val (.ref d), .val (.int (3 : Int32)), .val (.int (6 : Int32)), .val (.int (3 : Int32)), .val (.int c3)] []))
  refine own_go (fun _ ww => XS.iinc X43.here hx rfl (hb hby d6_32) rfl (l' := #[.val (.ref b), .val (.int (4 : Int32)), .val (.ref d), .val (.int (3 : Int32)), .val (.int (6 : Int32)), .val (.int (3 : Int32)), .val (.int c3)]) rfl ww) ?_
  show own_Goes _ _ _ _ _ _ _ (T43.setTop (mkF m 35 #[.val (.ref b), .val (.int (4 : Int32)), .val (.ref d), .val (.int (3 : Int32)), .val (.int (6 : Int32)), .val (.int (3 : Int32)), .val (.int c3)] []))
  refine own_go (fun _ ww => XS.iinc X43.here hx rfl (hb hby d6_35) rfl (l' := #[.val (.ref b), .val (.int (4 : Int32)), .val (.ref d), .val (.int (4 : Int32)), .val (.int (6 : Int32)), .val (.int (3 : Int32)), .val (.int c3)]) rfl ww) ?_
  show own_Goes _ _ _ _ _ _ _ (T43.setTop (mkF m 38 #[.val (.ref b), .val (.int (4 : Int32)), .val (.ref d), .val (.int (4 : Int32)), .val (.int (6 : Int32)), .val (.int (3 : Int32)), .val (.int c3)] []))
  refine own_go (fun _ ww => XS.iinc X43.here hx rfl (hb hby d6_38) rfl (l' := #[.val (.ref b), .val (.int (4 : Int32)), .val (.ref d), .val (.int (4 : Int32)), .val (.int (6 : Int32)), .val (.int (4 : Int32)), .val (.int c3)]) rfl ww) ?_
  show own_Goes _ _ _ _ _ _ _ (T43.setTop (mkF m 41 #[.val (.ref b), .val (.int (4 : Int32)), .val (.ref d), .val (.int (4 : Int32)), .val (.int (6 : Int32)), .val (.int (4 : Int32)), .val (.int c3)] []))
  refine own_go (fun _ ww => XS.goto X43.here hx rfl (pc0 := 41) (pc' := 3) rfl (hb hby d6_41) (by decide) (by decide) ww) ?_
  show own_Goes _ _ _ _ _ _ _ (T43.setTop (mkF m 3 #[.val (.ref b), .val (.int (4 : Int32)), .val (.ref d), .val (.int (4 : Int32)), .val (.int (6 : Int32)), .val (.int (4 : Int32)), .val (.int c3)] []))
  refine own_go (fun _ ww => XS.iload X43.here hx rfl (hb hby d6_3) rfl  ww) ?_
  show own_Goes _ _ _ _ _ _ _ (T43.setTop (mkF m 5 #[.val (.ref b), .val (.int (4 : Int32)), .val (.ref d), .val (.int (4 : Int32)), .val (.int (6 : Int32)), .val (.int (4 : Int32)), .val (.int c3)] [(.int (4 : Int32))]))
  refine own_go (fun _ ww => XS.iload X43.here hx rfl (hb hby d6_5) rfl  ww) ?_
  show own_Goes _ _ _ _ _ _ _ (T43.setTop (mkF m 7 #[.val (.ref b), .val (.int (4 : Int32)), .val (.ref d), .val (.int (4 : Int32)), .val (.int (6 : Int32)), .val (.int (4 : Int32)), .val (.int c3)] [(.int (6 : Int32)), (.int (4 : Int32))]))
  refine own_go (fun _ ww => XS.icmpNo X43.here hx rfl (hb hby d6_7) rfl (tlt (by decide : (4 : Int32) < (6 : Int32))).2.1 ww) ?_
  show own_Goes _ _ _ _ _ _ _ (T43.setTop (mkF m 10 #[.val (.ref b), .val (.int (4 : Int32)), .val (.ref d), .val (.int (4 : Int32)), .val (.int (6 : Int32)), .val (.int (4 : Int32)), .val (.int c3)] []))
  refine own_go (fun _ ww => XS.aloadN X43.here hx rfl (hb hby d6_10) rfl rfl ww) ?_
  show own_Goes _ _ _ _ _ _ _ (T43.setTop (mkF m 11 #[.val (.ref b), .val (.int (4 : Int32)), .val (.ref d), .val (.int (4 : Int32)), .val (.int (6 : Int32)), .val (.int (4 : Int32)), .val (.int c3)] [(.ref b)]))
  refine own_go (fun _ ww => XS.iloadN X43.here hx rfl (hb hby d6_11) rfl  ww) ?_
  show own_Goes _ _ _ _ _ _ _ (T43.setTop (mkF m 12 #[.val (.ref b), .val (.int (4 : Int32)), .val (.ref d), .val (.int (4 : Int32)), .val (.int (6 : Int32)), .val (.int (4 : Int32)), .val (.int c3)] [(.int (4 : Int32)), (.ref b)]))
  obtain ⟨cl46, Ar46, -, S46, -, H46, -⟩ := id f44
  have hin46 := inb_of (j := (4 : Int32)) S46 ⟨by decide, by decide⟩
  have hat46 : cl46.slots[((4 : Int32)).toNatClampNeg]? = some (.int c4) := Has.at H46 hin46 rfl
  refine own_go (fun _ ww => X43.caload hx (j := (4 : Int32)) (v := (.int c4)) (by rw [e43]; exact Ar46.1) (State.isArrayOf_alike hZ.alike Ar46.2.1) Ar46.2.2 hin46 hat46 (g := (mkF m 12 #[.val (.ref b), .val (.int (4 : Int32)), .val (.ref d), .val (.int (4 : Int32)), .val (.int (6 : Int32)), .val (.int (4 : Int32)), .val (.int c3)] [(.int (4 : Int32)), (.ref b)])) rfl rfl (hb hby d6_12) _ ww) ?_
  show own_Goes _ _ _ _ _ _ _ (T43.setTop (mkF m 13 #[.val (.ref b), .val (.int (4 : Int32)), .val (.ref d), .val (.int (4 : Int32)), .val (.int (6 : Int32)), .val (.int (4 : Int32)), .val (.int c3)] [(.int c4)]))
  refine own_go (fun _ ww => XS.istore X43.here hx rfl (hb hby d6_13) rfl (l' := #[.val (.ref b), .val (.int (4 : Int32)), .val (.ref d), .val (.int (4 : Int32)), .val (.int (6 : Int32)), .val (.int (4 : Int32)), .val (.int c4)]) rfl ww) ?_
  show own_Goes _ _ _ _ _ _ _ (T43.setTop (mkF m 15 #[.val (.ref b), .val (.int (4 : Int32)), .val (.ref d), .val (.int (4 : Int32)), .val (.int (6 : Int32)), .val (.int (4 : Int32)), .val (.int c4)] []))
  refine own_go (fun _ ww => XS.iload X43.here hx rfl (hb hby d6_15) rfl  ww) ?_
  show own_Goes _ _ _ _ _ _ _ (T43.setTop (mkF m 17 #[.val (.ref b), .val (.int (4 : Int32)), .val (.ref d), .val (.int (4 : Int32)), .val (.int (6 : Int32)), .val (.int (4 : Int32)), .val (.int c4)] [(.int c4)]))
  refine own_go (fun _ ww => XS.sipush X43.here hx rfl (hb hby d6_17) ww) ?_
  show own_Goes _ _ _ _ _ _ _ (T43.setTop (mkF m 20 #[.val (.ref b), .val (.int (4 : Int32)), .val (.ref d), .val (.int (4 : Int32)), .val (.int (6 : Int32)), .val (.int (4 : Int32)), .val (.int c4)] [(.int (255 : Int32)), (.int c4)]))
  refine own_go (fun _ ww => XS.icmpNo X43.here hx rfl (hb hby d6_20) rfl (tlt hgt).2.2.2 ww) ?_
  show own_Goes _ _ _ _ _ _ _ (T43.setTop (mkF m 23 #[.val (.ref b), .val (.int (4 : Int32)), .val (.ref d), .val (.int (4 : Int32)), .val (.int (6 : Int32)), .val (.int (4 : Int32)), .val (.int c4)] []))
  refine own_go (fun _ ww => XS.iload X43.here hx rfl (hb hby d6_23) rfl  ww) ?_
  show own_Goes _ _ _ _ _ _ _ (T43.setTop (mkF m 25 #[.val (.ref b), .val (.int (4 : Int32)), .val (.ref d), .val (.int (4 : Int32)), .val (.int (6 : Int32)), .val (.int (4 : Int32)), .val (.int c4)] [(.int (4 : Int32))]))
  exact own_out X43 hlk (v := some (.int (4 : Int32))) (fun h => by rw [hret] at h; cases h) (fun fs hr => retOut X43 hx (t := .int) hret rfl (Or.inl ⟨rfl, by simp, _, rfl⟩) (hb hby d6_25) hr) e43 ⟨rfl, N43, K43⟩ (by decide) (by decide)
theorem ef_cm5_5 (m : MethodId) (b : Addr) (kb : ClassId) (d : Addr) (kd : ClassId) (c0 : Int32) (c1 : Int32) (c2 : Int32) (c3 : Int32) (c4 : Int32) (c5 : Int32) : entryFrame m #[(.ref b), (.int (0 : Int32)), (.ref d), (.int (0 : Int32)), (.int (6 : Int32))] 7 = mkF m 0 #[.val (.ref b), .val (.int (0 : Int32)), .val (.ref d), .val (.int (0 : Int32)), .val (.int (6 : Int32)), .unset, .unset] [] := by
  first | (simp [entryFrame, mkF, argsToLocals, Value.category]; done) | rfl
def Q_cm5_5 (Z : State) (b : Addr) (kb : ClassId) (d : Addr) (kd : ClassId) (c0 : Int32) (c1 : Int32) (c2 : Int32) (c3 : Int32) (c4 : Int32) (c5 : Int32) (h0 : Heap) (n0 : Nat) (v : Option Value) (h : Heap) (L : List Loc) : Prop := v = some (.int (5 : Int32)) ∧ Fr n0 L ∧ Keep h0 h [d]
set_option maxRecDepth 65536 in
set_option maxHeartbeats 40000000 in
theorem rm_cm5_5 (l : Launch) (Z : State) (a0 : Array Value) (hw : ∀ d ∈ tables_1, d.before a0 Z = true) (ws : List Jvm.Cond) (b : Addr) (kb : ClassId) (d : Addr) (kd : ClassId) (c0 : Int32) (c1 : Int32) (c2 : Int32) (c3 : Int32) (c4 : Int32) (c5 : Int32) (h0 : Heap) (n0 : Nat) (O0 : Old Z n0 h0) (Vb : Arv Z h0 b kb .char (6 : Int32) [(.int c0), (.int c1), (.int c2), (.int c3), (.int c4), (.int c5)] (.int (0 : Int32))) (Vd : Arv Z h0 d kd .byte (6 : Int32) [(.int (0 : Int32)), (.int (0 : Int32)), (.int (0 : Int32)), (.int (0 : Int32)), (.int (0 : Int32)), (.int (0 : Int32))] (.int (0 : Int32))) (g_d : n0 ≤ d) (nbd : b ≠ d) (le0 : ¬ (255 : Int32) < c0) (le1 : ¬ (255 : Int32) < c1) (le2 : ¬ (255 : Int32) < c2) (le3 : ¬ (255 : Int32) < c3) (le4 : ¬ (255 : Int32) < c4) (hgt : (255 : Int32) < c5) :
    MetFree l (⟨"java/lang/StringUTF16", "compress", "([CI[BII)I"⟩ : MethodName) (head1 (Jvm.Cond.code (⟨"java/lang/StringUTF16", "compress", "([CI[BII)I"⟩ : MethodName) jdk_52_method_21_code 7 (some .int) :: ws) ({ frames := 0, cells := 0, slots := 0, locals := 0 } : Room)) (fun av_ U => av_ = #[(.ref b), (.int (0 : Int32)), (.ref d), (.int (0 : Int32)), (.int (6 : Int32))] ∧ Z.Warmed39 U.vm ∧ U.heap = h0) (fun _ _ _ _ _ => True) (fun _ U o_ U' => ∃ v L, o_ = .returned v ∧ Q_cm5_5 Z b kb d kd c0 c1 c2 c3 c4 c5 h0 n0 v U'.heap L ∧ FrameEnd U o_ U' L ({ frames := 0, cells := 0, slots := 0, locals := 0 } : Room).cells ({ frames := 0, cells := 0, slots := 0, locals := 0 } : Room).slots) := by
  refine MetFree.of_bodySF (plainFor_of_name pn_1) hisR ?_
  intro p e s m args below meth c s₁ Bd hml0 hP hK
  obtain ⟨rfl, hZ, hh⟩ := hP
  have hx := Bd.exec
  have hby := Bd.bytes
  have hml : c.maxLocals = 7 := hml0
  have hown : s.vm.findClass "java/lang/StringUTF16" = some m.cls := findClass_of_methodNamed Bd.named
  have hnm := (name_of_methodNamed Bd.named Bd.method).1
  have hlk := own_lk Bd
  have hret := Bd.returns
  have X0 : Stand p l e ({ frames := 0, cells := 0, slots := 0, locals := 0 } : Room) s m #[(.ref b), (.int (0 : Int32)), (.ref d), (.int (0 : Int32)), (.int (6 : Int32))] below meth c s₁ [] 0 0 := Stand.of_body Bd
  have e0 : s₁.heap = h0 := by rw [← hh, Bd.state]; rfl
  have N0 := Fr.nil n0
  show own_Goes p e below s (Q_cm5_5 Z b kb d kd c0 c1 c2 c3 c4 c5 h0 n0) ({ frames := 0, cells := 0, slots := 0, locals := 0 } : Room).cells ({ frames := 0, cells := 0, slots := 0, locals := 0 } : Room).slots (s₁.setTop (entryFrame m #[(.ref b), (.int (0 : Int32)), (.ref d), (.int (0 : Int32)), (.int (6 : Int32))] 7))
  refine own_go (fun _ ww => castTop (ef_cm5_5 m b kb d kd c0 c1 c2 c3 c4 c5) ww) ?_
  show own_Goes _ _ _ _ _ _ _ (s₁.setTop (mkF m 0 #[.val (.ref b), .val (.int (0 : Int32)), .val (.ref d), .val (.int (0 : Int32)), .val (.int (6 : Int32)), .unset, .unset] []))
  refine own_go (fun _ ww => XS.iconst X0.here hx rfl (hb hby d6_0) ww) ?_
  show own_Goes _ _ _ _ _ _ _ (s₁.setTop (mkF m 1 #[.val (.ref b), .val (.int (0 : Int32)), .val (.ref d), .val (.int (0 : Int32)), .val (.int (6 : Int32)), .unset, .unset] [(.int (0 : Int32))]))
  refine own_go (fun _ ww => XS.istore X0.here hx rfl (hb hby d6_1) rfl (l' := #[.val (.ref b), .val (.int (0 : Int32)), .val (.ref d), .val (.int (0 : Int32)), .val (.int (6 : Int32)), .val (.int (0 : Int32)), .unset]) rfl ww) ?_
  show own_Goes _ _ _ _ _ _ _ (s₁.setTop (mkF m 3 #[.val (.ref b), .val (.int (0 : Int32)), .val (.ref d), .val (.int (0 : Int32)), .val (.int (6 : Int32)), .val (.int (0 : Int32)), .unset] []))
  refine own_go (fun _ ww => XS.iload X0.here hx rfl (hb hby d6_3) rfl  ww) ?_
  show own_Goes _ _ _ _ _ _ _ (s₁.setTop (mkF m 5 #[.val (.ref b), .val (.int (0 : Int32)), .val (.ref d), .val (.int (0 : Int32)), .val (.int (6 : Int32)), .val (.int (0 : Int32)), .unset] [(.int (0 : Int32))]))
  refine own_go (fun _ ww => XS.iload X0.here hx rfl (hb hby d6_5) rfl  ww) ?_
  show own_Goes _ _ _ _ _ _ _ (s₁.setTop (mkF m 7 #[.val (.ref b), .val (.int (0 : Int32)), .val (.ref d), .val (.int (0 : Int32)), .val (.int (6 : Int32)), .val (.int (0 : Int32)), .unset] [(.int (6 : Int32)), (.int (0 : Int32))]))
  refine own_go (fun _ ww => XS.icmpNo X0.here hx rfl (hb hby d6_7) rfl (tlt (by decide : (0 : Int32) < (6 : Int32))).2.1 ww) ?_
  show own_Goes _ _ _ _ _ _ _ (s₁.setTop (mkF m 10 #[.val (.ref b), .val (.int (0 : Int32)), .val (.ref d), .val (.int (0 : Int32)), .val (.int (6 : Int32)), .val (.int (0 : Int32)), .unset] []))
  refine own_go (fun _ ww => XS.aloadN X0.here hx rfl (hb hby d6_10) rfl rfl ww) ?_
  show own_Goes _ _ _ _ _ _ _ (s₁.setTop (mkF m 11 #[.val (.ref b), .val (.int (0 : Int32)), .val (.ref d), .val (.int (0 : Int32)), .val (.int (6 : Int32)), .val (.int (0 : Int32)), .unset] [(.ref b)]))
  refine own_go (fun _ ww => XS.iloadN X0.here hx rfl (hb hby d6_11) rfl  ww) ?_
  show own_Goes _ _ _ _ _ _ _ (s₁.setTop (mkF m 12 #[.val (.ref b), .val (.int (0 : Int32)), .val (.ref d), .val (.int (0 : Int32)), .val (.int (6 : Int32)), .val (.int (0 : Int32)), .unset] [(.int (0 : Int32)), (.ref b)]))
  obtain ⟨cl47, Ar47, -, S47, -, H47, -⟩ := id Vb
  have hin47 := inb_of (j := (0 : Int32)) S47 ⟨by decide, by decide⟩
  have hat47 : cl47.slots[((0 : Int32)).toNatClampNeg]? = some (.int c0) := Has.at H47 hin47 rfl
  refine own_go (fun _ ww => X0.caload hx (j := (0 : Int32)) (v := (.int c0)) (by rw [e0]; exact Ar47.1) (State.isArrayOf_alike hZ.alike Ar47.2.1) Ar47.2.2 hin47 hat47 (g := (mkF m 12 #[.val (.ref b), .val (.int (0 : Int32)), .val (.ref d), .val (.int (0 : Int32)), .val (.int (6 : Int32)), .val (.int (0 : Int32)), .unset] [(.int (0 : Int32)), (.ref b)])) rfl rfl (hb hby d6_12) _ ww) ?_
  show own_Goes _ _ _ _ _ _ _ (s₁.setTop (mkF m 13 #[.val (.ref b), .val (.int (0 : Int32)), .val (.ref d), .val (.int (0 : Int32)), .val (.int (6 : Int32)), .val (.int (0 : Int32)), .unset] [(.int c0)]))
  refine own_go (fun _ ww => XS.istore X0.here hx rfl (hb hby d6_13) rfl (l' := #[.val (.ref b), .val (.int (0 : Int32)), .val (.ref d), .val (.int (0 : Int32)), .val (.int (6 : Int32)), .val (.int (0 : Int32)), .val (.int c0)]) rfl ww) ?_
  show own_Goes _ _ _ _ _ _ _ (s₁.setTop (mkF m 15 #[.val (.ref b), .val (.int (0 : Int32)), .val (.ref d), .val (.int (0 : Int32)), .val (.int (6 : Int32)), .val (.int (0 : Int32)), .val (.int c0)] []))
  refine own_go (fun _ ww => XS.iload X0.here hx rfl (hb hby d6_15) rfl  ww) ?_
  show own_Goes _ _ _ _ _ _ _ (s₁.setTop (mkF m 17 #[.val (.ref b), .val (.int (0 : Int32)), .val (.ref d), .val (.int (0 : Int32)), .val (.int (6 : Int32)), .val (.int (0 : Int32)), .val (.int c0)] [(.int c0)]))
  refine own_go (fun _ ww => XS.sipush X0.here hx rfl (hb hby d6_17) ww) ?_
  show own_Goes _ _ _ _ _ _ _ (s₁.setTop (mkF m 20 #[.val (.ref b), .val (.int (0 : Int32)), .val (.ref d), .val (.int (0 : Int32)), .val (.int (6 : Int32)), .val (.int (0 : Int32)), .val (.int c0)] [(.int (255 : Int32)), (.int c0)]))
  refine own_go (fun _ ww => XS.icmpYes X0.here hx rfl (pc0 := 20) (pc' := 26) rfl (hb hby d6_20) rfl (flt le0).2.2.2 (by decide) (by decide) ww) ?_
  show own_Goes _ _ _ _ _ _ _ (s₁.setTop (mkF m 26 #[.val (.ref b), .val (.int (0 : Int32)), .val (.ref d), .val (.int (0 : Int32)), .val (.int (6 : Int32)), .val (.int (0 : Int32)), .val (.int c0)] []))
  refine own_go (fun _ ww => XS.aloadN X0.here hx rfl (hb hby d6_26) rfl rfl ww) ?_
  show own_Goes _ _ _ _ _ _ _ (s₁.setTop (mkF m 27 #[.val (.ref b), .val (.int (0 : Int32)), .val (.ref d), .val (.int (0 : Int32)), .val (.int (6 : Int32)), .val (.int (0 : Int32)), .val (.int c0)] [(.ref d)]))
  refine own_go (fun _ ww => XS.iloadN X0.here hx rfl (hb hby d6_27) rfl  ww) ?_
  show own_Goes _ _ _ _ _ _ _ (s₁.setTop (mkF m 28 #[.val (.ref b), .val (.int (0 : Int32)), .val (.ref d), .val (.int (0 : Int32)), .val (.int (6 : Int32)), .val (.int (0 : Int32)), .val (.int c0)] [(.int (0 : Int32)), (.ref d)]))
  refine own_go (fun _ ww => XS.iload X0.here hx rfl (hb hby d6_28) rfl  ww) ?_
  show own_Goes _ _ _ _ _ _ _ (s₁.setTop (mkF m 30 #[.val (.ref b), .val (.int (0 : Int32)), .val (.ref d), .val (.int (0 : Int32)), .val (.int (6 : Int32)), .val (.int (0 : Int32)), .val (.int c0)] [(.int c0), (.int (0 : Int32)), (.ref d)]))
  refine own_go (fun _ ww => XT.i2b X0.here hx rfl (hb hby d6_30) rfl ww) ?_
  show own_Goes _ _ _ _ _ _ _ (s₁.setTop (mkF m 31 #[.val (.ref b), .val (.int (0 : Int32)), .val (.ref d), .val (.int (0 : Int32)), .val (.int (6 : Int32)), .val (.int (0 : Int32)), .val (.int c0)] [(.int (c0.toInt8.toInt32)), (.int (0 : Int32)), (.ref d)]))
  obtain ⟨cl48, Ar48, q48, S48, M48, H48, U48⟩ := id Vd
  obtain ⟨T48, h48, X48, e48, W48, st48⟩ := stB X0 hx hZ e0 Ar48 (j := (0 : Int32)) (inb_of S48 ⟨by decide, by decide⟩) (g := (mkF m 31 #[.val (.ref b), .val (.int (0 : Int32)), .val (.ref d), .val (.int (0 : Int32)), .val (.int (6 : Int32)), .val (.int (0 : Int32)), .val (.int c0)] [(.int (c0.toInt8.toInt32)), (.int (0 : Int32)), (.ref d)])) rfl rfl (hb hby d6_31)
  have nr48 : nar .byte (c0.toInt8.toInt32) = (c0.toInt8.toInt32) := (own_narb _)
  rw [nr48] at W48
  have ft48 : fits .byte (.int (c0.toInt8.toInt32)) = true := (fits_nar_byte _)
  have f49 : Arv Z h48 b kb .char (6 : Int32) [(.int c0), (.int c1), (.int c2), (.int c3), (.int c4), (.int c5)] (.int (0 : Int32)) := (Vb.other W48 nbd)
  have f50 : Arv Z h48 d kd .byte (6 : Int32) [(.int (c0.toInt8.toInt32)), (.int (0 : Int32)), (.int (0 : Int32)), (.int (0 : Int32)), (.int (0 : Int32)), (.int (0 : Int32))] (.int (0 : Int32)) := (Arv.set Ar48 q48 S48 M48 H48 U48 ft48 W48 0 rfl (Nat.le_of_ble_eq_true rfl))
  have N48 := Fr.snoc X48 N0 g_d
  have O48 := O0.wr W48 g_d
  have K48 := (Keep.refl h0 [d]).wr W48 (Or.inl (List.mem_of_getElem? (i := 0) rfl))
  refine own_go st48 ?_
  show own_Goes _ _ _ _ _ _ _ (T48.setTop (mkF m 32 #[.val (.ref b), .val (.int (0 : Int32)), .val (.ref d), .val (.int (0 : Int32)), .val (.int (6 : Int32)), .val (.int (0 : Int32)), .val (.int c0)] []))
  refine own_go (fun _ ww => XS.iinc X48.here hx rfl (hb hby d6_32) rfl (l' := #[.val (.ref b), .val (.int (1 : Int32)), .val (.ref d), .val (.int (0 : Int32)), .val (.int (6 : Int32)), .val (.int (0 : Int32)), .val (.int c0)]) rfl ww) ?_
  show own_Goes _ _ _ _ _ _ _ (T48.setTop (mkF m 35 #[.val (.ref b), .val (.int (1 : Int32)), .val (.ref d), .val (.int (0 : Int32)), .val (.int (6 : Int32)), .val (.int (0 : Int32)), .val (.int c0)] []))
  refine own_go (fun _ ww => XS.iinc X48.here hx rfl (hb hby d6_35) rfl (l' := #[.val (.ref b), .val (.int (1 : Int32)), .val (.ref d), .val (.int (1 : Int32)), .val (.int (6 : Int32)), .val (.int (0 : Int32)), .val (.int c0)]) rfl ww) ?_
  show own_Goes _ _ _ _ _ _ _ (T48.setTop (mkF m 38 #[.val (.ref b), .val (.int (1 : Int32)), .val (.ref d), .val (.int (1 : Int32)), .val (.int (6 : Int32)), .val (.int (0 : Int32)), .val (.int c0)] []))
  refine own_go (fun _ ww => XS.iinc X48.here hx rfl (hb hby d6_38) rfl (l' := #[.val (.ref b), .val (.int (1 : Int32)), .val (.ref d), .val (.int (1 : Int32)), .val (.int (6 : Int32)), .val (.int (1 : Int32)), .val (.int c0)]) rfl ww) ?_
  show own_Goes _ _ _ _ _ _ _ (T48.setTop (mkF m 41 #[.val (.ref b), .val (.int (1 : Int32)), .val (.ref d), .val (.int (1 : Int32)), .val (.int (6 : Int32)), .val (.int (1 : Int32)), .val (.int c0)] []))
  refine own_go (fun _ ww => XS.goto X48.here hx rfl (pc0 := 41) (pc' := 3) rfl (hb hby d6_41) (by decide) (by decide) ww) ?_
  show own_Goes _ _ _ _ _ _ _ (T48.setTop (mkF m 3 #[.val (.ref b), .val (.int (1 : Int32)), .val (.ref d), .val (.int (1 : Int32)), .val (.int (6 : Int32)), .val (.int (1 : Int32)), .val (.int c0)] []))
  refine own_go (fun _ ww => XS.iload X48.here hx rfl (hb hby d6_3) rfl  ww) ?_
  show own_Goes _ _ _ _ _ _ _ (T48.setTop (mkF m 5 #[.val (.ref b), .val (.int (1 : Int32)), .val (.ref d), .val (.int (1 : Int32)), .val (.int (6 : Int32)), .val (.int (1 : Int32)), .val (.int c0)] [(.int (1 : Int32))]))
  refine own_go (fun _ ww => XS.iload X48.here hx rfl (hb hby d6_5) rfl  ww) ?_
  show own_Goes _ _ _ _ _ _ _ (T48.setTop (mkF m 7 #[.val (.ref b), .val (.int (1 : Int32)), .val (.ref d), .val (.int (1 : Int32)), .val (.int (6 : Int32)), .val (.int (1 : Int32)), .val (.int c0)] [(.int (6 : Int32)), (.int (1 : Int32))]))
  refine own_go (fun _ ww => XS.icmpNo X48.here hx rfl (hb hby d6_7) rfl (tlt (by decide : (1 : Int32) < (6 : Int32))).2.1 ww) ?_
  show own_Goes _ _ _ _ _ _ _ (T48.setTop (mkF m 10 #[.val (.ref b), .val (.int (1 : Int32)), .val (.ref d), .val (.int (1 : Int32)), .val (.int (6 : Int32)), .val (.int (1 : Int32)), .val (.int c0)] []))
  refine own_go (fun _ ww => XS.aloadN X48.here hx rfl (hb hby d6_10) rfl rfl ww) ?_
  show own_Goes _ _ _ _ _ _ _ (T48.setTop (mkF m 11 #[.val (.ref b), .val (.int (1 : Int32)), .val (.ref d), .val (.int (1 : Int32)), .val (.int (6 : Int32)), .val (.int (1 : Int32)), .val (.int c0)] [(.ref b)]))
  refine own_go (fun _ ww => XS.iloadN X48.here hx rfl (hb hby d6_11) rfl  ww) ?_
  show own_Goes _ _ _ _ _ _ _ (T48.setTop (mkF m 12 #[.val (.ref b), .val (.int (1 : Int32)), .val (.ref d), .val (.int (1 : Int32)), .val (.int (6 : Int32)), .val (.int (1 : Int32)), .val (.int c0)] [(.int (1 : Int32)), (.ref b)]))
  obtain ⟨cl51, Ar51, -, S51, -, H51, -⟩ := id f49
  have hin51 := inb_of (j := (1 : Int32)) S51 ⟨by decide, by decide⟩
  have hat51 : cl51.slots[((1 : Int32)).toNatClampNeg]? = some (.int c1) := Has.at H51 hin51 rfl
  refine own_go (fun _ ww => X48.caload hx (j := (1 : Int32)) (v := (.int c1)) (by rw [e48]; exact Ar51.1) (State.isArrayOf_alike hZ.alike Ar51.2.1) Ar51.2.2 hin51 hat51 (g := (mkF m 12 #[.val (.ref b), .val (.int (1 : Int32)), .val (.ref d), .val (.int (1 : Int32)), .val (.int (6 : Int32)), .val (.int (1 : Int32)), .val (.int c0)] [(.int (1 : Int32)), (.ref b)])) rfl rfl (hb hby d6_12) _ ww) ?_
  show own_Goes _ _ _ _ _ _ _ (T48.setTop (mkF m 13 #[.val (.ref b), .val (.int (1 : Int32)), .val (.ref d), .val (.int (1 : Int32)), .val (.int (6 : Int32)), .val (.int (1 : Int32)), .val (.int c0)] [(.int c1)]))
  refine own_go (fun _ ww => XS.istore X48.here hx rfl (hb hby d6_13) rfl (l' := #[.val (.ref b), .val (.int (1 : Int32)), .val (.ref d), .val (.int (1 : Int32)), .val (.int (6 : Int32)), .val (.int (1 : Int32)), .val (.int c1)]) rfl ww) ?_
  show own_Goes _ _ _ _ _ _ _ (T48.setTop (mkF m 15 #[.val (.ref b), .val (.int (1 : Int32)), .val (.ref d), .val (.int (1 : Int32)), .val (.int (6 : Int32)), .val (.int (1 : Int32)), .val (.int c1)] []))
  refine own_go (fun _ ww => XS.iload X48.here hx rfl (hb hby d6_15) rfl  ww) ?_
  show own_Goes _ _ _ _ _ _ _ (T48.setTop (mkF m 17 #[.val (.ref b), .val (.int (1 : Int32)), .val (.ref d), .val (.int (1 : Int32)), .val (.int (6 : Int32)), .val (.int (1 : Int32)), .val (.int c1)] [(.int c1)]))
  refine own_go (fun _ ww => XS.sipush X48.here hx rfl (hb hby d6_17) ww) ?_
  show own_Goes _ _ _ _ _ _ _ (T48.setTop (mkF m 20 #[.val (.ref b), .val (.int (1 : Int32)), .val (.ref d), .val (.int (1 : Int32)), .val (.int (6 : Int32)), .val (.int (1 : Int32)), .val (.int c1)] [(.int (255 : Int32)), (.int c1)]))
  refine own_go (fun _ ww => XS.icmpYes X48.here hx rfl (pc0 := 20) (pc' := 26) rfl (hb hby d6_20) rfl (flt le1).2.2.2 (by decide) (by decide) ww) ?_
  show own_Goes _ _ _ _ _ _ _ (T48.setTop (mkF m 26 #[.val (.ref b), .val (.int (1 : Int32)), .val (.ref d), .val (.int (1 : Int32)), .val (.int (6 : Int32)), .val (.int (1 : Int32)), .val (.int c1)] []))
  refine own_go (fun _ ww => XS.aloadN X48.here hx rfl (hb hby d6_26) rfl rfl ww) ?_
  show own_Goes _ _ _ _ _ _ _ (T48.setTop (mkF m 27 #[.val (.ref b), .val (.int (1 : Int32)), .val (.ref d), .val (.int (1 : Int32)), .val (.int (6 : Int32)), .val (.int (1 : Int32)), .val (.int c1)] [(.ref d)]))
  refine own_go (fun _ ww => XS.iloadN X48.here hx rfl (hb hby d6_27) rfl  ww) ?_
  show own_Goes _ _ _ _ _ _ _ (T48.setTop (mkF m 28 #[.val (.ref b), .val (.int (1 : Int32)), .val (.ref d), .val (.int (1 : Int32)), .val (.int (6 : Int32)), .val (.int (1 : Int32)), .val (.int c1)] [(.int (1 : Int32)), (.ref d)]))
  refine own_go (fun _ ww => XS.iload X48.here hx rfl (hb hby d6_28) rfl  ww) ?_
  show own_Goes _ _ _ _ _ _ _ (T48.setTop (mkF m 30 #[.val (.ref b), .val (.int (1 : Int32)), .val (.ref d), .val (.int (1 : Int32)), .val (.int (6 : Int32)), .val (.int (1 : Int32)), .val (.int c1)] [(.int c1), (.int (1 : Int32)), (.ref d)]))
  refine own_go (fun _ ww => XT.i2b X48.here hx rfl (hb hby d6_30) rfl ww) ?_
  show own_Goes _ _ _ _ _ _ _ (T48.setTop (mkF m 31 #[.val (.ref b), .val (.int (1 : Int32)), .val (.ref d), .val (.int (1 : Int32)), .val (.int (6 : Int32)), .val (.int (1 : Int32)), .val (.int c1)] [(.int (c1.toInt8.toInt32)), (.int (1 : Int32)), (.ref d)]))
  obtain ⟨cl52, Ar52, q52, S52, M52, H52, U52⟩ := id f50
  obtain ⟨T52, h52, X52, e52, W52, st52⟩ := stB X48 hx hZ e48 Ar52 (j := (1 : Int32)) (inb_of S52 ⟨by decide, by decide⟩) (g := (mkF m 31 #[.val (.ref b), .val (.int (1 : Int32)), .val (.ref d), .val (.int (1 : Int32)), .val (.int (6 : Int32)), .val (.int (1 : Int32)), .val (.int c1)] [(.int (c1.toInt8.toInt32)), (.int (1 : Int32)), (.ref d)])) rfl rfl (hb hby d6_31)
  have nr52 : nar .byte (c1.toInt8.toInt32) = (c1.toInt8.toInt32) := (own_narb _)
  rw [nr52] at W52
  have ft52 : fits .byte (.int (c1.toInt8.toInt32)) = true := (fits_nar_byte _)
  have f53 : Arv Z h52 b kb .char (6 : Int32) [(.int c0), (.int c1), (.int c2), (.int c3), (.int c4), (.int c5)] (.int (0 : Int32)) := (f49.other W52 nbd)
  have f54 : Arv Z h52 d kd .byte (6 : Int32) [(.int (c0.toInt8.toInt32)), (.int (c1.toInt8.toInt32)), (.int (0 : Int32)), (.int (0 : Int32)), (.int (0 : Int32)), (.int (0 : Int32))] (.int (0 : Int32)) := (Arv.set Ar52 q52 S52 M52 H52 U52 ft52 W52 1 rfl (Nat.le_of_ble_eq_true rfl))
  have N52 := Fr.snoc X52 N48 g_d
  have O52 := O48.wr W52 g_d
  have K52 := K48.wr W52 (Or.inl (List.mem_of_getElem? (i := 0) rfl))
  refine own_go st52 ?_
  show own_Goes _ _ _ _ _ _ _ (T52.setTop (mkF m 32 #[.val (.ref b), .val (.int (1 : Int32)), .val (.ref d), .val (.int (1 : Int32)), .val (.int (6 : Int32)), .val (.int (1 : Int32)), .val (.int c1)] []))
  refine own_go (fun _ ww => XS.iinc X52.here hx rfl (hb hby d6_32) rfl (l' := #[.val (.ref b), .val (.int (2 : Int32)), .val (.ref d), .val (.int (1 : Int32)), .val (.int (6 : Int32)), .val (.int (1 : Int32)), .val (.int c1)]) rfl ww) ?_
  show own_Goes _ _ _ _ _ _ _ (T52.setTop (mkF m 35 #[.val (.ref b), .val (.int (2 : Int32)), .val (.ref d), .val (.int (1 : Int32)), .val (.int (6 : Int32)), .val (.int (1 : Int32)), .val (.int c1)] []))
  refine own_go (fun _ ww => XS.iinc X52.here hx rfl (hb hby d6_35) rfl (l' := #[.val (.ref b), .val (.int (2 : Int32)), .val (.ref d), .val (.int (2 : Int32)), .val (.int (6 : Int32)), .val (.int (1 : Int32)), .val (.int c1)]) rfl ww) ?_
  show own_Goes _ _ _ _ _ _ _ (T52.setTop (mkF m 38 #[.val (.ref b), .val (.int (2 : Int32)), .val (.ref d), .val (.int (2 : Int32)), .val (.int (6 : Int32)), .val (.int (1 : Int32)), .val (.int c1)] []))
  refine own_go (fun _ ww => XS.iinc X52.here hx rfl (hb hby d6_38) rfl (l' := #[.val (.ref b), .val (.int (2 : Int32)), .val (.ref d), .val (.int (2 : Int32)), .val (.int (6 : Int32)), .val (.int (2 : Int32)), .val (.int c1)]) rfl ww) ?_
  show own_Goes _ _ _ _ _ _ _ (T52.setTop (mkF m 41 #[.val (.ref b), .val (.int (2 : Int32)), .val (.ref d), .val (.int (2 : Int32)), .val (.int (6 : Int32)), .val (.int (2 : Int32)), .val (.int c1)] []))
  refine own_go (fun _ ww => XS.goto X52.here hx rfl (pc0 := 41) (pc' := 3) rfl (hb hby d6_41) (by decide) (by decide) ww) ?_
  show own_Goes _ _ _ _ _ _ _ (T52.setTop (mkF m 3 #[.val (.ref b), .val (.int (2 : Int32)), .val (.ref d), .val (.int (2 : Int32)), .val (.int (6 : Int32)), .val (.int (2 : Int32)), .val (.int c1)] []))
  refine own_go (fun _ ww => XS.iload X52.here hx rfl (hb hby d6_3) rfl  ww) ?_
  show own_Goes _ _ _ _ _ _ _ (T52.setTop (mkF m 5 #[.val (.ref b), .val (.int (2 : Int32)), .val (.ref d), .val (.int (2 : Int32)), .val (.int (6 : Int32)), .val (.int (2 : Int32)), .val (.int c1)] [(.int (2 : Int32))]))
  refine own_go (fun _ ww => XS.iload X52.here hx rfl (hb hby d6_5) rfl  ww) ?_
  show own_Goes _ _ _ _ _ _ _ (T52.setTop (mkF m 7 #[.val (.ref b), .val (.int (2 : Int32)), .val (.ref d), .val (.int (2 : Int32)), .val (.int (6 : Int32)), .val (.int (2 : Int32)), .val (.int c1)] [(.int (6 : Int32)), (.int (2 : Int32))]))
  refine own_go (fun _ ww => XS.icmpNo X52.here hx rfl (hb hby d6_7) rfl (tlt (by decide : (2 : Int32) < (6 : Int32))).2.1 ww) ?_
  show own_Goes _ _ _ _ _ _ _ (T52.setTop (mkF m 10 #[.val (.ref b), .val (.int (2 : Int32)), .val (.ref d), .val (.int (2 : Int32)), .val (.int (6 : Int32)), .val (.int (2 : Int32)), .val (.int c1)] []))
  refine own_go (fun _ ww => XS.aloadN X52.here hx rfl (hb hby d6_10) rfl rfl ww) ?_
  show own_Goes _ _ _ _ _ _ _ (T52.setTop (mkF m 11 #[.val (.ref b), .val (.int (2 : Int32)), .val (.ref d), .val (.int (2 : Int32)), .val (.int (6 : Int32)), .val (.int (2 : Int32)), .val (.int c1)] [(.ref b)]))
  refine own_go (fun _ ww => XS.iloadN X52.here hx rfl (hb hby d6_11) rfl  ww) ?_
  show own_Goes _ _ _ _ _ _ _ (T52.setTop (mkF m 12 #[.val (.ref b), .val (.int (2 : Int32)), .val (.ref d), .val (.int (2 : Int32)), .val (.int (6 : Int32)), .val (.int (2 : Int32)), .val (.int c1)] [(.int (2 : Int32)), (.ref b)]))
  obtain ⟨cl55, Ar55, -, S55, -, H55, -⟩ := id f53
  have hin55 := inb_of (j := (2 : Int32)) S55 ⟨by decide, by decide⟩
  have hat55 : cl55.slots[((2 : Int32)).toNatClampNeg]? = some (.int c2) := Has.at H55 hin55 rfl
  refine own_go (fun _ ww => X52.caload hx (j := (2 : Int32)) (v := (.int c2)) (by rw [e52]; exact Ar55.1) (State.isArrayOf_alike hZ.alike Ar55.2.1) Ar55.2.2 hin55 hat55 (g := (mkF m 12 #[.val (.ref b), .val (.int (2 : Int32)), .val (.ref d), .val (.int (2 : Int32)), .val (.int (6 : Int32)), .val (.int (2 : Int32)), .val (.int c1)] [(.int (2 : Int32)), (.ref b)])) rfl rfl (hb hby d6_12) _ ww) ?_
  show own_Goes _ _ _ _ _ _ _ (T52.setTop (mkF m 13 #[.val (.ref b), .val (.int (2 : Int32)), .val (.ref d), .val (.int (2 : Int32)), .val (.int (6 : Int32)), .val (.int (2 : Int32)), .val (.int c1)] [(.int c2)]))
  refine own_go (fun _ ww => XS.istore X52.here hx rfl (hb hby d6_13) rfl (l' := #[.val (.ref b), .val (.int (2 : Int32)), .val (.ref d), .val (.int (2 : Int32)), .val (.int (6 : Int32)), .val (.int (2 : Int32)), .val (.int c2)]) rfl ww) ?_
  show own_Goes _ _ _ _ _ _ _ (T52.setTop (mkF m 15 #[.val (.ref b), .val (.int (2 : Int32)), .val (.ref d), .val (.int (2 : Int32)), .val (.int (6 : Int32)), .val (.int (2 : Int32)), .val (.int c2)] []))
  refine own_go (fun _ ww => XS.iload X52.here hx rfl (hb hby d6_15) rfl  ww) ?_
  show own_Goes _ _ _ _ _ _ _ (T52.setTop (mkF m 17 #[.val (.ref b), .val (.int (2 : Int32)), .val (.ref d), .val (.int (2 : Int32)), .val (.int (6 : Int32)), .val (.int (2 : Int32)), .val (.int c2)] [(.int c2)]))
  refine own_go (fun _ ww => XS.sipush X52.here hx rfl (hb hby d6_17) ww) ?_
  show own_Goes _ _ _ _ _ _ _ (T52.setTop (mkF m 20 #[.val (.ref b), .val (.int (2 : Int32)), .val (.ref d), .val (.int (2 : Int32)), .val (.int (6 : Int32)), .val (.int (2 : Int32)), .val (.int c2)] [(.int (255 : Int32)), (.int c2)]))
  refine own_go (fun _ ww => XS.icmpYes X52.here hx rfl (pc0 := 20) (pc' := 26) rfl (hb hby d6_20) rfl (flt le2).2.2.2 (by decide) (by decide) ww) ?_
  show own_Goes _ _ _ _ _ _ _ (T52.setTop (mkF m 26 #[.val (.ref b), .val (.int (2 : Int32)), .val (.ref d), .val (.int (2 : Int32)), .val (.int (6 : Int32)), .val (.int (2 : Int32)), .val (.int c2)] []))
  refine own_go (fun _ ww => XS.aloadN X52.here hx rfl (hb hby d6_26) rfl rfl ww) ?_
  show own_Goes _ _ _ _ _ _ _ (T52.setTop (mkF m 27 #[.val (.ref b), .val (.int (2 : Int32)), .val (.ref d), .val (.int (2 : Int32)), .val (.int (6 : Int32)), .val (.int (2 : Int32)), .val (.int c2)] [(.ref d)]))
  refine own_go (fun _ ww => XS.iloadN X52.here hx rfl (hb hby d6_27) rfl  ww) ?_
  show own_Goes _ _ _ _ _ _ _ (T52.setTop (mkF m 28 #[.val (.ref b), .val (.int (2 : Int32)), .val (.ref d), .val (.int (2 : Int32)), .val (.int (6 : Int32)), .val (.int (2 : Int32)), .val (.int c2)] [(.int (2 : Int32)), (.ref d)]))
  refine own_go (fun _ ww => XS.iload X52.here hx rfl (hb hby d6_28) rfl  ww) ?_
  show own_Goes _ _ _ _ _ _ _ (T52.setTop (mkF m 30 #[.val (.ref b), .val (.int (2 : Int32)), .val (.ref d), .val (.int (2 : Int32)), .val (.int (6 : Int32)), .val (.int (2 : Int32)), .val (.int c2)] [(.int c2), (.int (2 : Int32)), (.ref d)]))
  refine own_go (fun _ ww => XT.i2b X52.here hx rfl (hb hby d6_30) rfl ww) ?_
  show own_Goes _ _ _ _ _ _ _ (T52.setTop (mkF m 31 #[.val (.ref b), .val (.int (2 : Int32)), .val (.ref d), .val (.int (2 : Int32)), .val (.int (6 : Int32)), .val (.int (2 : Int32)), .val (.int c2)] [(.int (c2.toInt8.toInt32)), (.int (2 : Int32)), (.ref d)]))
  obtain ⟨cl56, Ar56, q56, S56, M56, H56, U56⟩ := id f54
  obtain ⟨T56, h56, X56, e56, W56, st56⟩ := stB X52 hx hZ e52 Ar56 (j := (2 : Int32)) (inb_of S56 ⟨by decide, by decide⟩) (g := (mkF m 31 #[.val (.ref b), .val (.int (2 : Int32)), .val (.ref d), .val (.int (2 : Int32)), .val (.int (6 : Int32)), .val (.int (2 : Int32)), .val (.int c2)] [(.int (c2.toInt8.toInt32)), (.int (2 : Int32)), (.ref d)])) rfl rfl (hb hby d6_31)
  have nr56 : nar .byte (c2.toInt8.toInt32) = (c2.toInt8.toInt32) := (own_narb _)
  rw [nr56] at W56
  have ft56 : fits .byte (.int (c2.toInt8.toInt32)) = true := (fits_nar_byte _)
  have f57 : Arv Z h56 b kb .char (6 : Int32) [(.int c0), (.int c1), (.int c2), (.int c3), (.int c4), (.int c5)] (.int (0 : Int32)) := (f53.other W56 nbd)
  have f58 : Arv Z h56 d kd .byte (6 : Int32) [(.int (c0.toInt8.toInt32)), (.int (c1.toInt8.toInt32)), (.int (c2.toInt8.toInt32)), (.int (0 : Int32)), (.int (0 : Int32)), (.int (0 : Int32))] (.int (0 : Int32)) := (Arv.set Ar56 q56 S56 M56 H56 U56 ft56 W56 2 rfl (Nat.le_of_ble_eq_true rfl))
  have N56 := Fr.snoc X56 N52 g_d
  have O56 := O52.wr W56 g_d
  have K56 := K52.wr W56 (Or.inl (List.mem_of_getElem? (i := 0) rfl))
  refine own_go st56 ?_
  show own_Goes _ _ _ _ _ _ _ (T56.setTop (mkF m 32 #[.val (.ref b), .val (.int (2 : Int32)), .val (.ref d), .val (.int (2 : Int32)), .val (.int (6 : Int32)), .val (.int (2 : Int32)), .val (.int c2)] []))
  refine own_go (fun _ ww => XS.iinc X56.here hx rfl (hb hby d6_32) rfl (l' := #[.val (.ref b), .val (.int (3 : Int32)), .val (.ref d), .val (.int (2 : Int32)), .val (.int (6 : Int32)), .val (.int (2 : Int32)), .val (.int c2)]) rfl ww) ?_
  show own_Goes _ _ _ _ _ _ _ (T56.setTop (mkF m 35 #[.val (.ref b), .val (.int (3 : Int32)), .val (.ref d), .val (.int (2 : Int32)), .val (.int (6 : Int32)), .val (.int (2 : Int32)), .val (.int c2)] []))
  refine own_go (fun _ ww => XS.iinc X56.here hx rfl (hb hby d6_35) rfl (l' := #[.val (.ref b), .val (.int (3 : Int32)), .val (.ref d), .val (.int (3 : Int32)), .val (.int (6 : Int32)), .val (.int (2 : Int32)), .val (.int c2)]) rfl ww) ?_
  show own_Goes _ _ _ _ _ _ _ (T56.setTop (mkF m 38 #[.val (.ref b), .val (.int (3 : Int32)), .val (.ref d), .val (.int (3 : Int32)), .val (.int (6 : Int32)), .val (.int (2 : Int32)), .val (.int c2)] []))
  refine own_go (fun _ ww => XS.iinc X56.here hx rfl (hb hby d6_38) rfl (l' := #[.val (.ref b), .val (.int (3 : Int32)), .val (.ref d), .val (.int (3 : Int32)), .val (.int (6 : Int32)), .val (.int (3 : Int32)), .val (.int c2)]) rfl ww) ?_
  show own_Goes _ _ _ _ _ _ _ (T56.setTop (mkF m 41 #[.val (.ref b), .val (.int (3 : Int32)), .val (.ref d), .val (.int (3 : Int32)), .val (.int (6 : Int32)), .val (.int (3 : Int32)), .val (.int c2)] []))
  refine own_go (fun _ ww => XS.goto X56.here hx rfl (pc0 := 41) (pc' := 3) rfl (hb hby d6_41) (by decide) (by decide) ww) ?_
  show own_Goes _ _ _ _ _ _ _ (T56.setTop (mkF m 3 #[.val (.ref b), .val (.int (3 : Int32)), .val (.ref d), .val (.int (3 : Int32)), .val (.int (6 : Int32)), .val (.int (3 : Int32)), .val (.int c2)] []))
  refine own_go (fun _ ww => XS.iload X56.here hx rfl (hb hby d6_3) rfl  ww) ?_
  show own_Goes _ _ _ _ _ _ _ (T56.setTop (mkF m 5 #[.val (.ref b), .val (.int (3 : Int32)), .val (.ref d), .val (.int (3 : Int32)), .val (.int (6 : Int32)), .val (.int (3 : Int32)), .val (.int c2)] [(.int (3 : Int32))]))
  refine own_go (fun _ ww => XS.iload X56.here hx rfl (hb hby d6_5) rfl  ww) ?_
  show own_Goes _ _ _ _ _ _ _ (T56.setTop (mkF m 7 #[.val (.ref b), .val (.int (3 : Int32)), .val (.ref d), .val (.int (3 : Int32)), .val (.int (6 : Int32)), .val (.int (3 : Int32)), .val (.int c2)] [(.int (6 : Int32)), (.int (3 : Int32))]))
  refine own_go (fun _ ww => XS.icmpNo X56.here hx rfl (hb hby d6_7) rfl (tlt (by decide : (3 : Int32) < (6 : Int32))).2.1 ww) ?_
  show own_Goes _ _ _ _ _ _ _ (T56.setTop (mkF m 10 #[.val (.ref b), .val (.int (3 : Int32)), .val (.ref d), .val (.int (3 : Int32)), .val (.int (6 : Int32)), .val (.int (3 : Int32)), .val (.int c2)] []))
  refine own_go (fun _ ww => XS.aloadN X56.here hx rfl (hb hby d6_10) rfl rfl ww) ?_
  show own_Goes _ _ _ _ _ _ _ (T56.setTop (mkF m 11 #[.val (.ref b), .val (.int (3 : Int32)), .val (.ref d), .val (.int (3 : Int32)), .val (.int (6 : Int32)), .val (.int (3 : Int32)), .val (.int c2)] [(.ref b)]))
  refine own_go (fun _ ww => XS.iloadN X56.here hx rfl (hb hby d6_11) rfl  ww) ?_
  show own_Goes _ _ _ _ _ _ _ (T56.setTop (mkF m 12 #[.val (.ref b), .val (.int (3 : Int32)), .val (.ref d), .val (.int (3 : Int32)), .val (.int (6 : Int32)), .val (.int (3 : Int32)), .val (.int c2)] [(.int (3 : Int32)), (.ref b)]))
  obtain ⟨cl59, Ar59, -, S59, -, H59, -⟩ := id f57
  have hin59 := inb_of (j := (3 : Int32)) S59 ⟨by decide, by decide⟩
  have hat59 : cl59.slots[((3 : Int32)).toNatClampNeg]? = some (.int c3) := Has.at H59 hin59 rfl
  refine own_go (fun _ ww => X56.caload hx (j := (3 : Int32)) (v := (.int c3)) (by rw [e56]; exact Ar59.1) (State.isArrayOf_alike hZ.alike Ar59.2.1) Ar59.2.2 hin59 hat59 (g := (mkF m 12 #[.val (.ref b), .val (.int (3 : Int32)), .val (.ref d), .val (.int (3 : Int32)), .val (.int (6 : Int32)), .val (.int (3 : Int32)), .val (.int c2)] [(.int (3 : Int32)), (.ref b)])) rfl rfl (hb hby d6_12) _ ww) ?_
  show own_Goes _ _ _ _ _ _ _ (T56.setTop (mkF m 13 #[.val (.ref b), .val (.int (3 : Int32)), .val (.ref d), .val (.int (3 : Int32)), .val (.int (6 : Int32)), .val (.int (3 : Int32)), .val (.int c2)] [(.int c3)]))
  refine own_go (fun _ ww => XS.istore X56.here hx rfl (hb hby d6_13) rfl (l' := #[.val (.ref b), .val (.int (3 : Int32)), .val (.ref d), .val (.int (3 : Int32)), .val (.int (6 : Int32)), .val (.int (3 : Int32)), .val (.int c3)]) rfl ww) ?_
  show own_Goes _ _ _ _ _ _ _ (T56.setTop (mkF m 15 #[.val (.ref b), .val (.int (3 : Int32)), .val (.ref d), .val (.int (3 : Int32)), .val (.int (6 : Int32)), .val (.int (3 : Int32)), .val (.int c3)] []))
  refine own_go (fun _ ww => XS.iload X56.here hx rfl (hb hby d6_15) rfl  ww) ?_
  show own_Goes _ _ _ _ _ _ _ (T56.setTop (mkF m 17 #[.val (.ref b), .val (.int (3 : Int32)), .val (.ref d), .val (.int (3 : Int32)), .val (.int (6 : Int32)), .val (.int (3 : Int32)), .val (.int c3)] [(.int c3)]))
  refine own_go (fun _ ww => XS.sipush X56.here hx rfl (hb hby d6_17) ww) ?_
  show own_Goes _ _ _ _ _ _ _ (T56.setTop (mkF m 20 #[.val (.ref b), .val (.int (3 : Int32)), .val (.ref d), .val (.int (3 : Int32)), .val (.int (6 : Int32)), .val (.int (3 : Int32)), .val (.int c3)] [(.int (255 : Int32)), (.int c3)]))
  refine own_go (fun _ ww => XS.icmpYes X56.here hx rfl (pc0 := 20) (pc' := 26) rfl (hb hby d6_20) rfl (flt le3).2.2.2 (by decide) (by decide) ww) ?_
  show own_Goes _ _ _ _ _ _ _ (T56.setTop (mkF m 26 #[.val (.ref b), .val (.int (3 : Int32)), .val (.ref d), .val (.int (3 : Int32)), .val (.int (6 : Int32)), .val (.int (3 : Int32)), .val (.int c3)] []))
  refine own_go (fun _ ww => XS.aloadN X56.here hx rfl (hb hby d6_26) rfl rfl ww) ?_
  show own_Goes _ _ _ _ _ _ _ (T56.setTop (mkF m 27 #[.val (.ref b), .val (.int (3 : Int32)), .val (.ref d), .val (.int (3 : Int32)), .val (.int (6 : Int32)), .val (.int (3 : Int32)), .val (.int c3)] [(.ref d)]))
  refine own_go (fun _ ww => XS.iloadN X56.here hx rfl (hb hby d6_27) rfl  ww) ?_
  show own_Goes _ _ _ _ _ _ _ (T56.setTop (mkF m 28 #[.val (.ref b), .val (.int (3 : Int32)), .val (.ref d), .val (.int (3 : Int32)), .val (.int (6 : Int32)), .val (.int (3 : Int32)), .val (.int c3)] [(.int (3 : Int32)), (.ref d)]))
  refine own_go (fun _ ww => XS.iload X56.here hx rfl (hb hby d6_28) rfl  ww) ?_
  show own_Goes _ _ _ _ _ _ _ (T56.setTop (mkF m 30 #[.val (.ref b), .val (.int (3 : Int32)), .val (.ref d), .val (.int (3 : Int32)), .val (.int (6 : Int32)), .val (.int (3 : Int32)), .val (.int c3)] [(.int c3), (.int (3 : Int32)), (.ref d)]))
  refine own_go (fun _ ww => XT.i2b X56.here hx rfl (hb hby d6_30) rfl ww) ?_
  show own_Goes _ _ _ _ _ _ _ (T56.setTop (mkF m 31 #[.val (.ref b), .val (.int (3 : Int32)), .val (.ref d), .val (.int (3 : Int32)), .val (.int (6 : Int32)), .val (.int (3 : Int32)), .val (.int c3)] [(.int (c3.toInt8.toInt32)), (.int (3 : Int32)), (.ref d)]))
  obtain ⟨cl60, Ar60, q60, S60, M60, H60, U60⟩ := id f58
  obtain ⟨T60, h60, X60, e60, W60, st60⟩ := stB X56 hx hZ e56 Ar60 (j := (3 : Int32)) (inb_of S60 ⟨by decide, by decide⟩) (g := (mkF m 31 #[.val (.ref b), .val (.int (3 : Int32)), .val (.ref d), .val (.int (3 : Int32)), .val (.int (6 : Int32)), .val (.int (3 : Int32)), .val (.int c3)] [(.int (c3.toInt8.toInt32)), (.int (3 : Int32)), (.ref d)])) rfl rfl (hb hby d6_31)
  have nr60 : nar .byte (c3.toInt8.toInt32) = (c3.toInt8.toInt32) := (own_narb _)
  rw [nr60] at W60
  have ft60 : fits .byte (.int (c3.toInt8.toInt32)) = true := (fits_nar_byte _)
  have f61 : Arv Z h60 b kb .char (6 : Int32) [(.int c0), (.int c1), (.int c2), (.int c3), (.int c4), (.int c5)] (.int (0 : Int32)) := (f57.other W60 nbd)
  have f62 : Arv Z h60 d kd .byte (6 : Int32) [(.int (c0.toInt8.toInt32)), (.int (c1.toInt8.toInt32)), (.int (c2.toInt8.toInt32)), (.int (c3.toInt8.toInt32)), (.int (0 : Int32)), (.int (0 : Int32))] (.int (0 : Int32)) := (Arv.set Ar60 q60 S60 M60 H60 U60 ft60 W60 3 rfl (Nat.le_of_ble_eq_true rfl))
  have N60 := Fr.snoc X60 N56 g_d
  have O60 := O56.wr W60 g_d
  have K60 := K56.wr W60 (Or.inl (List.mem_of_getElem? (i := 0) rfl))
  refine own_go st60 ?_
  show own_Goes _ _ _ _ _ _ _ (T60.setTop (mkF m 32 #[.val (.ref b), .val (.int (3 : Int32)), .val (.ref d), .val (.int (3 : Int32)), .val (.int (6 : Int32)), .val (.int (3 : Int32)), .val (.int c3)] []))
  refine own_go (fun _ ww => XS.iinc X60.here hx rfl (hb hby d6_32) rfl (l' := #[.val (.ref b), .val (.int (4 : Int32)), .val (.ref d), .val (.int (3 : Int32)), .val (.int (6 : Int32)), .val (.int (3 : Int32)), .val (.int c3)]) rfl ww) ?_
  show own_Goes _ _ _ _ _ _ _ (T60.setTop (mkF m 35 #[.val (.ref b), .val (.int (4 : Int32)), .val (.ref d), .val (.int (3 : Int32)), .val (.int (6 : Int32)), .val (.int (3 : Int32)), .val (.int c3)] []))
  refine own_go (fun _ ww => XS.iinc X60.here hx rfl (hb hby d6_35) rfl (l' := #[.val (.ref b), .val (.int (4 : Int32)), .val (.ref d), .val (.int (4 : Int32)), .val (.int (6 : Int32)), .val (.int (3 : Int32)), .val (.int c3)]) rfl ww) ?_
  show own_Goes _ _ _ _ _ _ _ (T60.setTop (mkF m 38 #[.val (.ref b), .val (.int (4 : Int32)), .val (.ref d), .val (.int (4 : Int32)), .val (.int (6 : Int32)), .val (.int (3 : Int32)), .val (.int c3)] []))
  refine own_go (fun _ ww => XS.iinc X60.here hx rfl (hb hby d6_38) rfl (l' := #[.val (.ref b), .val (.int (4 : Int32)), .val (.ref d), .val (.int (4 : Int32)), .val (.int (6 : Int32)), .val (.int (4 : Int32)), .val (.int c3)]) rfl ww) ?_
  show own_Goes _ _ _ _ _ _ _ (T60.setTop (mkF m 41 #[.val (.ref b), .val (.int (4 : Int32)), .val (.ref d), .val (.int (4 : Int32)), .val (.int (6 : Int32)), .val (.int (4 : Int32)), .val (.int c3)] []))
  refine own_go (fun _ ww => XS.goto X60.here hx rfl (pc0 := 41) (pc' := 3) rfl (hb hby d6_41) (by decide) (by decide) ww) ?_
  show own_Goes _ _ _ _ _ _ _ (T60.setTop (mkF m 3 #[.val (.ref b), .val (.int (4 : Int32)), .val (.ref d), .val (.int (4 : Int32)), .val (.int (6 : Int32)), .val (.int (4 : Int32)), .val (.int c3)] []))
  refine own_go (fun _ ww => XS.iload X60.here hx rfl (hb hby d6_3) rfl  ww) ?_
  show own_Goes _ _ _ _ _ _ _ (T60.setTop (mkF m 5 #[.val (.ref b), .val (.int (4 : Int32)), .val (.ref d), .val (.int (4 : Int32)), .val (.int (6 : Int32)), .val (.int (4 : Int32)), .val (.int c3)] [(.int (4 : Int32))]))
  refine own_go (fun _ ww => XS.iload X60.here hx rfl (hb hby d6_5) rfl  ww) ?_
  show own_Goes _ _ _ _ _ _ _ (T60.setTop (mkF m 7 #[.val (.ref b), .val (.int (4 : Int32)), .val (.ref d), .val (.int (4 : Int32)), .val (.int (6 : Int32)), .val (.int (4 : Int32)), .val (.int c3)] [(.int (6 : Int32)), (.int (4 : Int32))]))
  refine own_go (fun _ ww => XS.icmpNo X60.here hx rfl (hb hby d6_7) rfl (tlt (by decide : (4 : Int32) < (6 : Int32))).2.1 ww) ?_
  show own_Goes _ _ _ _ _ _ _ (T60.setTop (mkF m 10 #[.val (.ref b), .val (.int (4 : Int32)), .val (.ref d), .val (.int (4 : Int32)), .val (.int (6 : Int32)), .val (.int (4 : Int32)), .val (.int c3)] []))
  refine own_go (fun _ ww => XS.aloadN X60.here hx rfl (hb hby d6_10) rfl rfl ww) ?_
  show own_Goes _ _ _ _ _ _ _ (T60.setTop (mkF m 11 #[.val (.ref b), .val (.int (4 : Int32)), .val (.ref d), .val (.int (4 : Int32)), .val (.int (6 : Int32)), .val (.int (4 : Int32)), .val (.int c3)] [(.ref b)]))
  refine own_go (fun _ ww => XS.iloadN X60.here hx rfl (hb hby d6_11) rfl  ww) ?_
  show own_Goes _ _ _ _ _ _ _ (T60.setTop (mkF m 12 #[.val (.ref b), .val (.int (4 : Int32)), .val (.ref d), .val (.int (4 : Int32)), .val (.int (6 : Int32)), .val (.int (4 : Int32)), .val (.int c3)] [(.int (4 : Int32)), (.ref b)]))
  obtain ⟨cl63, Ar63, -, S63, -, H63, -⟩ := id f61
  have hin63 := inb_of (j := (4 : Int32)) S63 ⟨by decide, by decide⟩
  have hat63 : cl63.slots[((4 : Int32)).toNatClampNeg]? = some (.int c4) := Has.at H63 hin63 rfl
  refine own_go (fun _ ww => X60.caload hx (j := (4 : Int32)) (v := (.int c4)) (by rw [e60]; exact Ar63.1) (State.isArrayOf_alike hZ.alike Ar63.2.1) Ar63.2.2 hin63 hat63 (g := (mkF m 12 #[.val (.ref b), .val (.int (4 : Int32)), .val (.ref d), .val (.int (4 : Int32)), .val (.int (6 : Int32)), .val (.int (4 : Int32)), .val (.int c3)] [(.int (4 : Int32)), (.ref b)])) rfl rfl (hb hby d6_12) _ ww) ?_
  show own_Goes _ _ _ _ _ _ _ (T60.setTop (mkF m 13 #[.val (.ref b), .val (.int (4 : Int32)), .val (.ref d), .val (.int (4 : Int32)), .val (.int (6 : Int32)), .val (.int (4 : Int32)), .val (.int c3)] [(.int c4)]))
  refine own_go (fun _ ww => XS.istore X60.here hx rfl (hb hby d6_13) rfl (l' := #[.val (.ref b), .val (.int (4 : Int32)), .val (.ref d), .val (.int (4 : Int32)), .val (.int (6 : Int32)), .val (.int (4 : Int32)), .val (.int c4)]) rfl ww) ?_
  show own_Goes _ _ _ _ _ _ _ (T60.setTop (mkF m 15 #[.val (.ref b), .val (.int (4 : Int32)), .val (.ref d), .val (.int (4 : Int32)), .val (.int (6 : Int32)), .val (.int (4 : Int32)), .val (.int c4)] []))
  refine own_go (fun _ ww => XS.iload X60.here hx rfl (hb hby d6_15) rfl  ww) ?_
  show own_Goes _ _ _ _ _ _ _ (T60.setTop (mkF m 17 #[.val (.ref b), .val (.int (4 : Int32)), .val (.ref d), .val (.int (4 : Int32)), .val (.int (6 : Int32)), .val (.int (4 : Int32)), .val (.int c4)] [(.int c4)]))
  refine own_go (fun _ ww => XS.sipush X60.here hx rfl (hb hby d6_17) ww) ?_
  show own_Goes _ _ _ _ _ _ _ (T60.setTop (mkF m 20 #[.val (.ref b), .val (.int (4 : Int32)), .val (.ref d), .val (.int (4 : Int32)), .val (.int (6 : Int32)), .val (.int (4 : Int32)), .val (.int c4)] [(.int (255 : Int32)), (.int c4)]))
  refine own_go (fun _ ww => XS.icmpYes X60.here hx rfl (pc0 := 20) (pc' := 26) rfl (hb hby d6_20) rfl (flt le4).2.2.2 (by decide) (by decide) ww) ?_
  show own_Goes _ _ _ _ _ _ _ (T60.setTop (mkF m 26 #[.val (.ref b), .val (.int (4 : Int32)), .val (.ref d), .val (.int (4 : Int32)), .val (.int (6 : Int32)), .val (.int (4 : Int32)), .val (.int c4)] []))
  refine own_go (fun _ ww => XS.aloadN X60.here hx rfl (hb hby d6_26) rfl rfl ww) ?_
  show own_Goes _ _ _ _ _ _ _ (T60.setTop (mkF m 27 #[.val (.ref b), .val (.int (4 : Int32)), .val (.ref d), .val (.int (4 : Int32)), .val (.int (6 : Int32)), .val (.int (4 : Int32)), .val (.int c4)] [(.ref d)]))
  refine own_go (fun _ ww => XS.iloadN X60.here hx rfl (hb hby d6_27) rfl  ww) ?_
  show own_Goes _ _ _ _ _ _ _ (T60.setTop (mkF m 28 #[.val (.ref b), .val (.int (4 : Int32)), .val (.ref d), .val (.int (4 : Int32)), .val (.int (6 : Int32)), .val (.int (4 : Int32)), .val (.int c4)] [(.int (4 : Int32)), (.ref d)]))
  refine own_go (fun _ ww => XS.iload X60.here hx rfl (hb hby d6_28) rfl  ww) ?_
  show own_Goes _ _ _ _ _ _ _ (T60.setTop (mkF m 30 #[.val (.ref b), .val (.int (4 : Int32)), .val (.ref d), .val (.int (4 : Int32)), .val (.int (6 : Int32)), .val (.int (4 : Int32)), .val (.int c4)] [(.int c4), (.int (4 : Int32)), (.ref d)]))
  refine own_go (fun _ ww => XT.i2b X60.here hx rfl (hb hby d6_30) rfl ww) ?_
  show own_Goes _ _ _ _ _ _ _ (T60.setTop (mkF m 31 #[.val (.ref b), .val (.int (4 : Int32)), .val (.ref d), .val (.int (4 : Int32)), .val (.int (6 : Int32)), .val (.int (4 : Int32)), .val (.int c4)] [(.int (c4.toInt8.toInt32)), (.int (4 : Int32)), (.ref d)]))
  obtain ⟨cl64, Ar64, q64, S64, M64, H64, U64⟩ := id f62
  obtain ⟨T64, h64, X64, e64, W64, st64⟩ := stB X60 hx hZ e60 Ar64 (j := (4 : Int32)) (inb_of S64 ⟨by decide, by decide⟩) (g := (mkF m 31 #[.val (.ref b), .val (.int (4 : Int32)), .val (.ref d), .val (.int (4 : Int32)), .val (.int (6 : Int32)), .val (.int (4 : Int32)), .val (.int c4)] [(.int (c4.toInt8.toInt32)), (.int (4 : Int32)), (.ref d)])) rfl rfl (hb hby d6_31)
  have nr64 : nar .byte (c4.toInt8.toInt32) = (c4.toInt8.toInt32) := (own_narb _)
  rw [nr64] at W64
  have ft64 : fits .byte (.int (c4.toInt8.toInt32)) = true := (fits_nar_byte _)
  have f65 : Arv Z h64 b kb .char (6 : Int32) [(.int c0), (.int c1), (.int c2), (.int c3), (.int c4), (.int c5)] (.int (0 : Int32)) := (f61.other W64 nbd)
  have f66 : Arv Z h64 d kd .byte (6 : Int32) [(.int (c0.toInt8.toInt32)), (.int (c1.toInt8.toInt32)), (.int (c2.toInt8.toInt32)), (.int (c3.toInt8.toInt32)), (.int (c4.toInt8.toInt32)), (.int (0 : Int32))] (.int (0 : Int32)) := (Arv.set Ar64 q64 S64 M64 H64 U64 ft64 W64 4 rfl (Nat.le_of_ble_eq_true rfl))
  have N64 := Fr.snoc X64 N60 g_d
  have O64 := O60.wr W64 g_d
  have K64 := K60.wr W64 (Or.inl (List.mem_of_getElem? (i := 0) rfl))
  refine own_go st64 ?_
  show own_Goes _ _ _ _ _ _ _ (T64.setTop (mkF m 32 #[.val (.ref b), .val (.int (4 : Int32)), .val (.ref d), .val (.int (4 : Int32)), .val (.int (6 : Int32)), .val (.int (4 : Int32)), .val (.int c4)] []))
  refine own_go (fun _ ww => XS.iinc X64.here hx rfl (hb hby d6_32) rfl (l' := #[.val (.ref b), .val (.int (5 : Int32)), .val (.ref d), .val (.int (4 : Int32)), .val (.int (6 : Int32)), .val (.int (4 : Int32)), .val (.int c4)]) rfl ww) ?_
  show own_Goes _ _ _ _ _ _ _ (T64.setTop (mkF m 35 #[.val (.ref b), .val (.int (5 : Int32)), .val (.ref d), .val (.int (4 : Int32)), .val (.int (6 : Int32)), .val (.int (4 : Int32)), .val (.int c4)] []))
  refine own_go (fun _ ww => XS.iinc X64.here hx rfl (hb hby d6_35) rfl (l' := #[.val (.ref b), .val (.int (5 : Int32)), .val (.ref d), .val (.int (5 : Int32)), .val (.int (6 : Int32)), .val (.int (4 : Int32)), .val (.int c4)]) rfl ww) ?_
  show own_Goes _ _ _ _ _ _ _ (T64.setTop (mkF m 38 #[.val (.ref b), .val (.int (5 : Int32)), .val (.ref d), .val (.int (5 : Int32)), .val (.int (6 : Int32)), .val (.int (4 : Int32)), .val (.int c4)] []))
  refine own_go (fun _ ww => XS.iinc X64.here hx rfl (hb hby d6_38) rfl (l' := #[.val (.ref b), .val (.int (5 : Int32)), .val (.ref d), .val (.int (5 : Int32)), .val (.int (6 : Int32)), .val (.int (5 : Int32)), .val (.int c4)]) rfl ww) ?_
  show own_Goes _ _ _ _ _ _ _ (T64.setTop (mkF m 41 #[.val (.ref b), .val (.int (5 : Int32)), .val (.ref d), .val (.int (5 : Int32)), .val (.int (6 : Int32)), .val (.int (5 : Int32)), .val (.int c4)] []))
  refine own_go (fun _ ww => XS.goto X64.here hx rfl (pc0 := 41) (pc' := 3) rfl (hb hby d6_41) (by decide) (by decide) ww) ?_
  show own_Goes _ _ _ _ _ _ _ (T64.setTop (mkF m 3 #[.val (.ref b), .val (.int (5 : Int32)), .val (.ref d), .val (.int (5 : Int32)), .val (.int (6 : Int32)), .val (.int (5 : Int32)), .val (.int c4)] []))
  refine own_go (fun _ ww => XS.iload X64.here hx rfl (hb hby d6_3) rfl  ww) ?_
  show own_Goes _ _ _ _ _ _ _ (T64.setTop (mkF m 5 #[.val (.ref b), .val (.int (5 : Int32)), .val (.ref d), .val (.int (5 : Int32)), .val (.int (6 : Int32)), .val (.int (5 : Int32)), .val (.int c4)] [(.int (5 : Int32))]))
  refine own_go (fun _ ww => XS.iload X64.here hx rfl (hb hby d6_5) rfl  ww) ?_
  show own_Goes _ _ _ _ _ _ _ (T64.setTop (mkF m 7 #[.val (.ref b), .val (.int (5 : Int32)), .val (.ref d), .val (.int (5 : Int32)), .val (.int (6 : Int32)), .val (.int (5 : Int32)), .val (.int c4)] [(.int (6 : Int32)), (.int (5 : Int32))]))
  refine own_go (fun _ ww => XS.icmpNo X64.here hx rfl (hb hby d6_7) rfl (tlt (by decide : (5 : Int32) < (6 : Int32))).2.1 ww) ?_
  show own_Goes _ _ _ _ _ _ _ (T64.setTop (mkF m 10 #[.val (.ref b), .val (.int (5 : Int32)), .val (.ref d), .val (.int (5 : Int32)), .val (.int (6 : Int32)), .val (.int (5 : Int32)), .val (.int c4)] []))
  refine own_go (fun _ ww => XS.aloadN X64.here hx rfl (hb hby d6_10) rfl rfl ww) ?_
  show own_Goes _ _ _ _ _ _ _ (T64.setTop (mkF m 11 #[.val (.ref b), .val (.int (5 : Int32)), .val (.ref d), .val (.int (5 : Int32)), .val (.int (6 : Int32)), .val (.int (5 : Int32)), .val (.int c4)] [(.ref b)]))
  refine own_go (fun _ ww => XS.iloadN X64.here hx rfl (hb hby d6_11) rfl  ww) ?_
  show own_Goes _ _ _ _ _ _ _ (T64.setTop (mkF m 12 #[.val (.ref b), .val (.int (5 : Int32)), .val (.ref d), .val (.int (5 : Int32)), .val (.int (6 : Int32)), .val (.int (5 : Int32)), .val (.int c4)] [(.int (5 : Int32)), (.ref b)]))
  obtain ⟨cl67, Ar67, -, S67, -, H67, -⟩ := id f65
  have hin67 := inb_of (j := (5 : Int32)) S67 ⟨by decide, by decide⟩
  have hat67 : cl67.slots[((5 : Int32)).toNatClampNeg]? = some (.int c5) := Has.at H67 hin67 rfl
  refine own_go (fun _ ww => X64.caload hx (j := (5 : Int32)) (v := (.int c5)) (by rw [e64]; exact Ar67.1) (State.isArrayOf_alike hZ.alike Ar67.2.1) Ar67.2.2 hin67 hat67 (g := (mkF m 12 #[.val (.ref b), .val (.int (5 : Int32)), .val (.ref d), .val (.int (5 : Int32)), .val (.int (6 : Int32)), .val (.int (5 : Int32)), .val (.int c4)] [(.int (5 : Int32)), (.ref b)])) rfl rfl (hb hby d6_12) _ ww) ?_
  show own_Goes _ _ _ _ _ _ _ (T64.setTop (mkF m 13 #[.val (.ref b), .val (.int (5 : Int32)), .val (.ref d), .val (.int (5 : Int32)), .val (.int (6 : Int32)), .val (.int (5 : Int32)), .val (.int c4)] [(.int c5)]))
  refine own_go (fun _ ww => XS.istore X64.here hx rfl (hb hby d6_13) rfl (l' := #[.val (.ref b), .val (.int (5 : Int32)), .val (.ref d), .val (.int (5 : Int32)), .val (.int (6 : Int32)), .val (.int (5 : Int32)), .val (.int c5)]) rfl ww) ?_
  show own_Goes _ _ _ _ _ _ _ (T64.setTop (mkF m 15 #[.val (.ref b), .val (.int (5 : Int32)), .val (.ref d), .val (.int (5 : Int32)), .val (.int (6 : Int32)), .val (.int (5 : Int32)), .val (.int c5)] []))
  refine own_go (fun _ ww => XS.iload X64.here hx rfl (hb hby d6_15) rfl  ww) ?_
  show own_Goes _ _ _ _ _ _ _ (T64.setTop (mkF m 17 #[.val (.ref b), .val (.int (5 : Int32)), .val (.ref d), .val (.int (5 : Int32)), .val (.int (6 : Int32)), .val (.int (5 : Int32)), .val (.int c5)] [(.int c5)]))
  refine own_go (fun _ ww => XS.sipush X64.here hx rfl (hb hby d6_17) ww) ?_
  show own_Goes _ _ _ _ _ _ _ (T64.setTop (mkF m 20 #[.val (.ref b), .val (.int (5 : Int32)), .val (.ref d), .val (.int (5 : Int32)), .val (.int (6 : Int32)), .val (.int (5 : Int32)), .val (.int c5)] [(.int (255 : Int32)), (.int c5)]))
  refine own_go (fun _ ww => XS.icmpNo X64.here hx rfl (hb hby d6_20) rfl (tlt hgt).2.2.2 ww) ?_
  show own_Goes _ _ _ _ _ _ _ (T64.setTop (mkF m 23 #[.val (.ref b), .val (.int (5 : Int32)), .val (.ref d), .val (.int (5 : Int32)), .val (.int (6 : Int32)), .val (.int (5 : Int32)), .val (.int c5)] []))
  refine own_go (fun _ ww => XS.iload X64.here hx rfl (hb hby d6_23) rfl  ww) ?_
  show own_Goes _ _ _ _ _ _ _ (T64.setTop (mkF m 25 #[.val (.ref b), .val (.int (5 : Int32)), .val (.ref d), .val (.int (5 : Int32)), .val (.int (6 : Int32)), .val (.int (5 : Int32)), .val (.int c5)] [(.int (5 : Int32))]))
  exact own_out X64 hlk (v := some (.int (5 : Int32))) (fun h => by rw [hret] at h; cases h) (fun fs hr => retOut X64 hx (t := .int) hret rfl (Or.inl ⟨rfl, by simp, _, rfl⟩) (hb hby d6_25) hr) e64 ⟨rfl, N64, K64⟩ (by decide) (by decide)
theorem d6_44 : decode jdk_52_method_21_code 44 = .ok (.iload 4, 2) := by decide +kernel
theorem d6_46 : decode jdk_52_method_21_code 46 = .ok (.ireturn, 1) := by decide +kernel
theorem ef_cm5_6 (m : MethodId) (b : Addr) (kb : ClassId) (d : Addr) (kd : ClassId) (c0 : Int32) (c1 : Int32) (c2 : Int32) (c3 : Int32) (c4 : Int32) (c5 : Int32) : entryFrame m #[(.ref b), (.int (0 : Int32)), (.ref d), (.int (0 : Int32)), (.int (6 : Int32))] 7 = mkF m 0 #[.val (.ref b), .val (.int (0 : Int32)), .val (.ref d), .val (.int (0 : Int32)), .val (.int (6 : Int32)), .unset, .unset] [] := by
  first | (simp [entryFrame, mkF, argsToLocals, Value.category]; done) | rfl
def Q_cm5_6 (Z : State) (b : Addr) (kb : ClassId) (d : Addr) (kd : ClassId) (c0 : Int32) (c1 : Int32) (c2 : Int32) (c3 : Int32) (c4 : Int32) (c5 : Int32) (h0 : Heap) (n0 : Nat) (v : Option Value) (h : Heap) (L : List Loc) : Prop := v = some (.int (6 : Int32)) ∧ Fr n0 L ∧ Keep h0 h [d] ∧ Arv Z h d kd .byte (6 : Int32) [(.int (c0.toInt8.toInt32)), (.int (c1.toInt8.toInt32)), (.int (c2.toInt8.toInt32)), (.int (c3.toInt8.toInt32)), (.int (c4.toInt8.toInt32)), (.int (c5.toInt8.toInt32))] (.int (0 : Int32))
set_option maxRecDepth 65536 in
set_option maxHeartbeats 40000000 in
theorem rm_cm5_6 (l : Launch) (Z : State) (a0 : Array Value) (hw : ∀ d ∈ tables_1, d.before a0 Z = true) (ws : List Jvm.Cond) (b : Addr) (kb : ClassId) (d : Addr) (kd : ClassId) (c0 : Int32) (c1 : Int32) (c2 : Int32) (c3 : Int32) (c4 : Int32) (c5 : Int32) (h0 : Heap) (n0 : Nat) (O0 : Old Z n0 h0) (Vb : Arv Z h0 b kb .char (6 : Int32) [(.int c0), (.int c1), (.int c2), (.int c3), (.int c4), (.int c5)] (.int (0 : Int32))) (Vd : Arv Z h0 d kd .byte (6 : Int32) [(.int (0 : Int32)), (.int (0 : Int32)), (.int (0 : Int32)), (.int (0 : Int32)), (.int (0 : Int32)), (.int (0 : Int32))] (.int (0 : Int32))) (g_d : n0 ≤ d) (nbd : b ≠ d) (le0 : ¬ (255 : Int32) < c0) (le1 : ¬ (255 : Int32) < c1) (le2 : ¬ (255 : Int32) < c2) (le3 : ¬ (255 : Int32) < c3) (le4 : ¬ (255 : Int32) < c4) (le5 : ¬ (255 : Int32) < c5) :
    MetFree l (⟨"java/lang/StringUTF16", "compress", "([CI[BII)I"⟩ : MethodName) (head1 (Jvm.Cond.code (⟨"java/lang/StringUTF16", "compress", "([CI[BII)I"⟩ : MethodName) jdk_52_method_21_code 7 (some .int) :: ws) ({ frames := 0, cells := 0, slots := 0, locals := 0 } : Room)) (fun av_ U => av_ = #[(.ref b), (.int (0 : Int32)), (.ref d), (.int (0 : Int32)), (.int (6 : Int32))] ∧ Z.Warmed39 U.vm ∧ U.heap = h0) (fun _ _ _ _ _ => True) (fun _ U o_ U' => ∃ v L, o_ = .returned v ∧ Q_cm5_6 Z b kb d kd c0 c1 c2 c3 c4 c5 h0 n0 v U'.heap L ∧ FrameEnd U o_ U' L ({ frames := 0, cells := 0, slots := 0, locals := 0 } : Room).cells ({ frames := 0, cells := 0, slots := 0, locals := 0 } : Room).slots) := by
  refine MetFree.of_bodySF (plainFor_of_name pn_1) hisR ?_
  intro p e s m args below meth c s₁ Bd hml0 hP hK
  obtain ⟨rfl, hZ, hh⟩ := hP
  have hx := Bd.exec
  have hby := Bd.bytes
  have hml : c.maxLocals = 7 := hml0
  have hown : s.vm.findClass "java/lang/StringUTF16" = some m.cls := findClass_of_methodNamed Bd.named
  have hnm := (name_of_methodNamed Bd.named Bd.method).1
  have hlk := own_lk Bd
  have hret := Bd.returns
  have X0 : Stand p l e ({ frames := 0, cells := 0, slots := 0, locals := 0 } : Room) s m #[(.ref b), (.int (0 : Int32)), (.ref d), (.int (0 : Int32)), (.int (6 : Int32))] below meth c s₁ [] 0 0 := Stand.of_body Bd
  have e0 : s₁.heap = h0 := by rw [← hh, Bd.state]; rfl
  have N0 := Fr.nil n0
  show own_Goes p e below s (Q_cm5_6 Z b kb d kd c0 c1 c2 c3 c4 c5 h0 n0) ({ frames := 0, cells := 0, slots := 0, locals := 0 } : Room).cells ({ frames := 0, cells := 0, slots := 0, locals := 0 } : Room).slots (s₁.setTop (entryFrame m #[(.ref b), (.int (0 : Int32)), (.ref d), (.int (0 : Int32)), (.int (6 : Int32))] 7))
  refine own_go (fun _ ww => castTop (ef_cm5_6 m b kb d kd c0 c1 c2 c3 c4 c5) ww) ?_
  show own_Goes _ _ _ _ _ _ _ (s₁.setTop (mkF m 0 #[.val (.ref b), .val (.int (0 : Int32)), .val (.ref d), .val (.int (0 : Int32)), .val (.int (6 : Int32)), .unset, .unset] []))
  refine own_go (fun _ ww => XS.iconst X0.here hx rfl (hb hby d6_0) ww) ?_
  show own_Goes _ _ _ _ _ _ _ (s₁.setTop (mkF m 1 #[.val (.ref b), .val (.int (0 : Int32)), .val (.ref d), .val (.int (0 : Int32)), .val (.int (6 : Int32)), .unset, .unset] [(.int (0 : Int32))]))
  refine own_go (fun _ ww => XS.istore X0.here hx rfl (hb hby d6_1) rfl (l' := #[.val (.ref b), .val (.int (0 : Int32)), .val (.ref d), .val (.int (0 : Int32)), .val (.int (6 : Int32)), .val (.int (0 : Int32)), .unset]) rfl ww) ?_
  show own_Goes _ _ _ _ _ _ _ (s₁.setTop (mkF m 3 #[.val (.ref b), .val (.int (0 : Int32)), .val (.ref d), .val (.int (0 : Int32)), .val (.int (6 : Int32)), .val (.int (0 : Int32)), .unset] []))
  refine own_go (fun _ ww => XS.iload X0.here hx rfl (hb hby d6_3) rfl  ww) ?_
  show own_Goes _ _ _ _ _ _ _ (s₁.setTop (mkF m 5 #[.val (.ref b), .val (.int (0 : Int32)), .val (.ref d), .val (.int (0 : Int32)), .val (.int (6 : Int32)), .val (.int (0 : Int32)), .unset] [(.int (0 : Int32))]))
  refine own_go (fun _ ww => XS.iload X0.here hx rfl (hb hby d6_5) rfl  ww) ?_
  show own_Goes _ _ _ _ _ _ _ (s₁.setTop (mkF m 7 #[.val (.ref b), .val (.int (0 : Int32)), .val (.ref d), .val (.int (0 : Int32)), .val (.int (6 : Int32)), .val (.int (0 : Int32)), .unset] [(.int (6 : Int32)), (.int (0 : Int32))]))
  refine own_go (fun _ ww => XS.icmpNo X0.here hx rfl (hb hby d6_7) rfl (tlt (by decide : (0 : Int32) < (6 : Int32))).2.1 ww) ?_
  show own_Goes _ _ _ _ _ _ _ (s₁.setTop (mkF m 10 #[.val (.ref b), .val (.int (0 : Int32)), .val (.ref d), .val (.int (0 : Int32)), .val (.int (6 : Int32)), .val (.int (0 : Int32)), .unset] []))
  refine own_go (fun _ ww => XS.aloadN X0.here hx rfl (hb hby d6_10) rfl rfl ww) ?_
  show own_Goes _ _ _ _ _ _ _ (s₁.setTop (mkF m 11 #[.val (.ref b), .val (.int (0 : Int32)), .val (.ref d), .val (.int (0 : Int32)), .val (.int (6 : Int32)), .val (.int (0 : Int32)), .unset] [(.ref b)]))
  refine own_go (fun _ ww => XS.iloadN X0.here hx rfl (hb hby d6_11) rfl  ww) ?_
  show own_Goes _ _ _ _ _ _ _ (s₁.setTop (mkF m 12 #[.val (.ref b), .val (.int (0 : Int32)), .val (.ref d), .val (.int (0 : Int32)), .val (.int (6 : Int32)), .val (.int (0 : Int32)), .unset] [(.int (0 : Int32)), (.ref b)]))
  obtain ⟨cl68, Ar68, -, S68, -, H68, -⟩ := id Vb
  have hin68 := inb_of (j := (0 : Int32)) S68 ⟨by decide, by decide⟩
  have hat68 : cl68.slots[((0 : Int32)).toNatClampNeg]? = some (.int c0) := Has.at H68 hin68 rfl
  refine own_go (fun _ ww => X0.caload hx (j := (0 : Int32)) (v := (.int c0)) (by rw [e0]; exact Ar68.1) (State.isArrayOf_alike hZ.alike Ar68.2.1) Ar68.2.2 hin68 hat68 (g := (mkF m 12 #[.val (.ref b), .val (.int (0 : Int32)), .val (.ref d), .val (.int (0 : Int32)), .val (.int (6 : Int32)), .val (.int (0 : Int32)), .unset] [(.int (0 : Int32)), (.ref b)])) rfl rfl (hb hby d6_12) _ ww) ?_
  show own_Goes _ _ _ _ _ _ _ (s₁.setTop (mkF m 13 #[.val (.ref b), .val (.int (0 : Int32)), .val (.ref d), .val (.int (0 : Int32)), .val (.int (6 : Int32)), .val (.int (0 : Int32)), .unset] [(.int c0)]))
  refine own_go (fun _ ww => XS.istore X0.here hx rfl (hb hby d6_13) rfl (l' := #[.val (.ref b), .val (.int (0 : Int32)), .val (.ref d), .val (.int (0 : Int32)), .val (.int (6 : Int32)), .val (.int (0 : Int32)), .val (.int c0)]) rfl ww) ?_
  show own_Goes _ _ _ _ _ _ _ (s₁.setTop (mkF m 15 #[.val (.ref b), .val (.int (0 : Int32)), .val (.ref d), .val (.int (0 : Int32)), .val (.int (6 : Int32)), .val (.int (0 : Int32)), .val (.int c0)] []))
  refine own_go (fun _ ww => XS.iload X0.here hx rfl (hb hby d6_15) rfl  ww) ?_
  show own_Goes _ _ _ _ _ _ _ (s₁.setTop (mkF m 17 #[.val (.ref b), .val (.int (0 : Int32)), .val (.ref d), .val (.int (0 : Int32)), .val (.int (6 : Int32)), .val (.int (0 : Int32)), .val (.int c0)] [(.int c0)]))
  refine own_go (fun _ ww => XS.sipush X0.here hx rfl (hb hby d6_17) ww) ?_
  show own_Goes _ _ _ _ _ _ _ (s₁.setTop (mkF m 20 #[.val (.ref b), .val (.int (0 : Int32)), .val (.ref d), .val (.int (0 : Int32)), .val (.int (6 : Int32)), .val (.int (0 : Int32)), .val (.int c0)] [(.int (255 : Int32)), (.int c0)]))
  refine own_go (fun _ ww => XS.icmpYes X0.here hx rfl (pc0 := 20) (pc' := 26) rfl (hb hby d6_20) rfl (flt le0).2.2.2 (by decide) (by decide) ww) ?_
  show own_Goes _ _ _ _ _ _ _ (s₁.setTop (mkF m 26 #[.val (.ref b), .val (.int (0 : Int32)), .val (.ref d), .val (.int (0 : Int32)), .val (.int (6 : Int32)), .val (.int (0 : Int32)), .val (.int c0)] []))
  refine own_go (fun _ ww => XS.aloadN X0.here hx rfl (hb hby d6_26) rfl rfl ww) ?_
  show own_Goes _ _ _ _ _ _ _ (s₁.setTop (mkF m 27 #[.val (.ref b), .val (.int (0 : Int32)), .val (.ref d), .val (.int (0 : Int32)), .val (.int (6 : Int32)), .val (.int (0 : Int32)), .val (.int c0)] [(.ref d)]))
  refine own_go (fun _ ww => XS.iloadN X0.here hx rfl (hb hby d6_27) rfl  ww) ?_
  show own_Goes _ _ _ _ _ _ _ (s₁.setTop (mkF m 28 #[.val (.ref b), .val (.int (0 : Int32)), .val (.ref d), .val (.int (0 : Int32)), .val (.int (6 : Int32)), .val (.int (0 : Int32)), .val (.int c0)] [(.int (0 : Int32)), (.ref d)]))
  refine own_go (fun _ ww => XS.iload X0.here hx rfl (hb hby d6_28) rfl  ww) ?_
  show own_Goes _ _ _ _ _ _ _ (s₁.setTop (mkF m 30 #[.val (.ref b), .val (.int (0 : Int32)), .val (.ref d), .val (.int (0 : Int32)), .val (.int (6 : Int32)), .val (.int (0 : Int32)), .val (.int c0)] [(.int c0), (.int (0 : Int32)), (.ref d)]))
  refine own_go (fun _ ww => XT.i2b X0.here hx rfl (hb hby d6_30) rfl ww) ?_
  show own_Goes _ _ _ _ _ _ _ (s₁.setTop (mkF m 31 #[.val (.ref b), .val (.int (0 : Int32)), .val (.ref d), .val (.int (0 : Int32)), .val (.int (6 : Int32)), .val (.int (0 : Int32)), .val (.int c0)] [(.int (c0.toInt8.toInt32)), (.int (0 : Int32)), (.ref d)]))
  obtain ⟨cl69, Ar69, q69, S69, M69, H69, U69⟩ := id Vd
  obtain ⟨T69, h69, X69, e69, W69, st69⟩ := stB X0 hx hZ e0 Ar69 (j := (0 : Int32)) (inb_of S69 ⟨by decide, by decide⟩) (g := (mkF m 31 #[.val (.ref b), .val (.int (0 : Int32)), .val (.ref d), .val (.int (0 : Int32)), .val (.int (6 : Int32)), .val (.int (0 : Int32)), .val (.int c0)] [(.int (c0.toInt8.toInt32)), (.int (0 : Int32)), (.ref d)])) rfl rfl (hb hby d6_31)
  have nr69 : nar .byte (c0.toInt8.toInt32) = (c0.toInt8.toInt32) := (own_narb _)
  rw [nr69] at W69
  have ft69 : fits .byte (.int (c0.toInt8.toInt32)) = true := (fits_nar_byte _)
  have f70 : Arv Z h69 b kb .char (6 : Int32) [(.int c0), (.int c1), (.int c2), (.int c3), (.int c4), (.int c5)] (.int (0 : Int32)) := (Vb.other W69 nbd)
  have f71 : Arv Z h69 d kd .byte (6 : Int32) [(.int (c0.toInt8.toInt32)), (.int (0 : Int32)), (.int (0 : Int32)), (.int (0 : Int32)), (.int (0 : Int32)), (.int (0 : Int32))] (.int (0 : Int32)) := (Arv.set Ar69 q69 S69 M69 H69 U69 ft69 W69 0 rfl (Nat.le_of_ble_eq_true rfl))
  have N69 := Fr.snoc X69 N0 g_d
  have O69 := O0.wr W69 g_d
  have K69 := (Keep.refl h0 [d]).wr W69 (Or.inl (List.mem_of_getElem? (i := 0) rfl))
  refine own_go st69 ?_
  show own_Goes _ _ _ _ _ _ _ (T69.setTop (mkF m 32 #[.val (.ref b), .val (.int (0 : Int32)), .val (.ref d), .val (.int (0 : Int32)), .val (.int (6 : Int32)), .val (.int (0 : Int32)), .val (.int c0)] []))
  refine own_go (fun _ ww => XS.iinc X69.here hx rfl (hb hby d6_32) rfl (l' := #[.val (.ref b), .val (.int (1 : Int32)), .val (.ref d), .val (.int (0 : Int32)), .val (.int (6 : Int32)), .val (.int (0 : Int32)), .val (.int c0)]) rfl ww) ?_
  show own_Goes _ _ _ _ _ _ _ (T69.setTop (mkF m 35 #[.val (.ref b), .val (.int (1 : Int32)), .val (.ref d), .val (.int (0 : Int32)), .val (.int (6 : Int32)), .val (.int (0 : Int32)), .val (.int c0)] []))
  refine own_go (fun _ ww => XS.iinc X69.here hx rfl (hb hby d6_35) rfl (l' := #[.val (.ref b), .val (.int (1 : Int32)), .val (.ref d), .val (.int (1 : Int32)), .val (.int (6 : Int32)), .val (.int (0 : Int32)), .val (.int c0)]) rfl ww) ?_
  show own_Goes _ _ _ _ _ _ _ (T69.setTop (mkF m 38 #[.val (.ref b), .val (.int (1 : Int32)), .val (.ref d), .val (.int (1 : Int32)), .val (.int (6 : Int32)), .val (.int (0 : Int32)), .val (.int c0)] []))
  refine own_go (fun _ ww => XS.iinc X69.here hx rfl (hb hby d6_38) rfl (l' := #[.val (.ref b), .val (.int (1 : Int32)), .val (.ref d), .val (.int (1 : Int32)), .val (.int (6 : Int32)), .val (.int (1 : Int32)), .val (.int c0)]) rfl ww) ?_
  show own_Goes _ _ _ _ _ _ _ (T69.setTop (mkF m 41 #[.val (.ref b), .val (.int (1 : Int32)), .val (.ref d), .val (.int (1 : Int32)), .val (.int (6 : Int32)), .val (.int (1 : Int32)), .val (.int c0)] []))
  refine own_go (fun _ ww => XS.goto X69.here hx rfl (pc0 := 41) (pc' := 3) rfl (hb hby d6_41) (by decide) (by decide) ww) ?_
  show own_Goes _ _ _ _ _ _ _ (T69.setTop (mkF m 3 #[.val (.ref b), .val (.int (1 : Int32)), .val (.ref d), .val (.int (1 : Int32)), .val (.int (6 : Int32)), .val (.int (1 : Int32)), .val (.int c0)] []))
  refine own_go (fun _ ww => XS.iload X69.here hx rfl (hb hby d6_3) rfl  ww) ?_
  show own_Goes _ _ _ _ _ _ _ (T69.setTop (mkF m 5 #[.val (.ref b), .val (.int (1 : Int32)), .val (.ref d), .val (.int (1 : Int32)), .val (.int (6 : Int32)), .val (.int (1 : Int32)), .val (.int c0)] [(.int (1 : Int32))]))
  refine own_go (fun _ ww => XS.iload X69.here hx rfl (hb hby d6_5) rfl  ww) ?_
  show own_Goes _ _ _ _ _ _ _ (T69.setTop (mkF m 7 #[.val (.ref b), .val (.int (1 : Int32)), .val (.ref d), .val (.int (1 : Int32)), .val (.int (6 : Int32)), .val (.int (1 : Int32)), .val (.int c0)] [(.int (6 : Int32)), (.int (1 : Int32))]))
  refine own_go (fun _ ww => XS.icmpNo X69.here hx rfl (hb hby d6_7) rfl (tlt (by decide : (1 : Int32) < (6 : Int32))).2.1 ww) ?_
  show own_Goes _ _ _ _ _ _ _ (T69.setTop (mkF m 10 #[.val (.ref b), .val (.int (1 : Int32)), .val (.ref d), .val (.int (1 : Int32)), .val (.int (6 : Int32)), .val (.int (1 : Int32)), .val (.int c0)] []))
  refine own_go (fun _ ww => XS.aloadN X69.here hx rfl (hb hby d6_10) rfl rfl ww) ?_
  show own_Goes _ _ _ _ _ _ _ (T69.setTop (mkF m 11 #[.val (.ref b), .val (.int (1 : Int32)), .val (.ref d), .val (.int (1 : Int32)), .val (.int (6 : Int32)), .val (.int (1 : Int32)), .val (.int c0)] [(.ref b)]))
  refine own_go (fun _ ww => XS.iloadN X69.here hx rfl (hb hby d6_11) rfl  ww) ?_
  show own_Goes _ _ _ _ _ _ _ (T69.setTop (mkF m 12 #[.val (.ref b), .val (.int (1 : Int32)), .val (.ref d), .val (.int (1 : Int32)), .val (.int (6 : Int32)), .val (.int (1 : Int32)), .val (.int c0)] [(.int (1 : Int32)), (.ref b)]))
  obtain ⟨cl72, Ar72, -, S72, -, H72, -⟩ := id f70
  have hin72 := inb_of (j := (1 : Int32)) S72 ⟨by decide, by decide⟩
  have hat72 : cl72.slots[((1 : Int32)).toNatClampNeg]? = some (.int c1) := Has.at H72 hin72 rfl
  refine own_go (fun _ ww => X69.caload hx (j := (1 : Int32)) (v := (.int c1)) (by rw [e69]; exact Ar72.1) (State.isArrayOf_alike hZ.alike Ar72.2.1) Ar72.2.2 hin72 hat72 (g := (mkF m 12 #[.val (.ref b), .val (.int (1 : Int32)), .val (.ref d), .val (.int (1 : Int32)), .val (.int (6 : Int32)), .val (.int (1 : Int32)), .val (.int c0)] [(.int (1 : Int32)), (.ref b)])) rfl rfl (hb hby d6_12) _ ww) ?_
  show own_Goes _ _ _ _ _ _ _ (T69.setTop (mkF m 13 #[.val (.ref b), .val (.int (1 : Int32)), .val (.ref d), .val (.int (1 : Int32)), .val (.int (6 : Int32)), .val (.int (1 : Int32)), .val (.int c0)] [(.int c1)]))
  refine own_go (fun _ ww => XS.istore X69.here hx rfl (hb hby d6_13) rfl (l' := #[.val (.ref b), .val (.int (1 : Int32)), .val (.ref d), .val (.int (1 : Int32)), .val (.int (6 : Int32)), .val (.int (1 : Int32)), .val (.int c1)]) rfl ww) ?_
  show own_Goes _ _ _ _ _ _ _ (T69.setTop (mkF m 15 #[.val (.ref b), .val (.int (1 : Int32)), .val (.ref d), .val (.int (1 : Int32)), .val (.int (6 : Int32)), .val (.int (1 : Int32)), .val (.int c1)] []))
  refine own_go (fun _ ww => XS.iload X69.here hx rfl (hb hby d6_15) rfl  ww) ?_
  show own_Goes _ _ _ _ _ _ _ (T69.setTop (mkF m 17 #[.val (.ref b), .val (.int (1 : Int32)), .val (.ref d), .val (.int (1 : Int32)), .val (.int (6 : Int32)), .val (.int (1 : Int32)), .val (.int c1)] [(.int c1)]))
  refine own_go (fun _ ww => XS.sipush X69.here hx rfl (hb hby d6_17) ww) ?_
  show own_Goes _ _ _ _ _ _ _ (T69.setTop (mkF m 20 #[.val (.ref b), .val (.int (1 : Int32)), .val (.ref d), .val (.int (1 : Int32)), .val (.int (6 : Int32)), .val (.int (1 : Int32)), .val (.int c1)] [(.int (255 : Int32)), (.int c1)]))
  refine own_go (fun _ ww => XS.icmpYes X69.here hx rfl (pc0 := 20) (pc' := 26) rfl (hb hby d6_20) rfl (flt le1).2.2.2 (by decide) (by decide) ww) ?_
  show own_Goes _ _ _ _ _ _ _ (T69.setTop (mkF m 26 #[.val (.ref b), .val (.int (1 : Int32)), .val (.ref d), .val (.int (1 : Int32)), .val (.int (6 : Int32)), .val (.int (1 : Int32)), .val (.int c1)] []))
  refine own_go (fun _ ww => XS.aloadN X69.here hx rfl (hb hby d6_26) rfl rfl ww) ?_
  show own_Goes _ _ _ _ _ _ _ (T69.setTop (mkF m 27 #[.val (.ref b), .val (.int (1 : Int32)), .val (.ref d), .val (.int (1 : Int32)), .val (.int (6 : Int32)), .val (.int (1 : Int32)), .val (.int c1)] [(.ref d)]))
  refine own_go (fun _ ww => XS.iloadN X69.here hx rfl (hb hby d6_27) rfl  ww) ?_
  show own_Goes _ _ _ _ _ _ _ (T69.setTop (mkF m 28 #[.val (.ref b), .val (.int (1 : Int32)), .val (.ref d), .val (.int (1 : Int32)), .val (.int (6 : Int32)), .val (.int (1 : Int32)), .val (.int c1)] [(.int (1 : Int32)), (.ref d)]))
  refine own_go (fun _ ww => XS.iload X69.here hx rfl (hb hby d6_28) rfl  ww) ?_
  show own_Goes _ _ _ _ _ _ _ (T69.setTop (mkF m 30 #[.val (.ref b), .val (.int (1 : Int32)), .val (.ref d), .val (.int (1 : Int32)), .val (.int (6 : Int32)), .val (.int (1 : Int32)), .val (.int c1)] [(.int c1), (.int (1 : Int32)), (.ref d)]))
  refine own_go (fun _ ww => XT.i2b X69.here hx rfl (hb hby d6_30) rfl ww) ?_
  show own_Goes _ _ _ _ _ _ _ (T69.setTop (mkF m 31 #[.val (.ref b), .val (.int (1 : Int32)), .val (.ref d), .val (.int (1 : Int32)), .val (.int (6 : Int32)), .val (.int (1 : Int32)), .val (.int c1)] [(.int (c1.toInt8.toInt32)), (.int (1 : Int32)), (.ref d)]))
  obtain ⟨cl73, Ar73, q73, S73, M73, H73, U73⟩ := id f71
  obtain ⟨T73, h73, X73, e73, W73, st73⟩ := stB X69 hx hZ e69 Ar73 (j := (1 : Int32)) (inb_of S73 ⟨by decide, by decide⟩) (g := (mkF m 31 #[.val (.ref b), .val (.int (1 : Int32)), .val (.ref d), .val (.int (1 : Int32)), .val (.int (6 : Int32)), .val (.int (1 : Int32)), .val (.int c1)] [(.int (c1.toInt8.toInt32)), (.int (1 : Int32)), (.ref d)])) rfl rfl (hb hby d6_31)
  have nr73 : nar .byte (c1.toInt8.toInt32) = (c1.toInt8.toInt32) := (own_narb _)
  rw [nr73] at W73
  have ft73 : fits .byte (.int (c1.toInt8.toInt32)) = true := (fits_nar_byte _)
  have f74 : Arv Z h73 b kb .char (6 : Int32) [(.int c0), (.int c1), (.int c2), (.int c3), (.int c4), (.int c5)] (.int (0 : Int32)) := (f70.other W73 nbd)
  have f75 : Arv Z h73 d kd .byte (6 : Int32) [(.int (c0.toInt8.toInt32)), (.int (c1.toInt8.toInt32)), (.int (0 : Int32)), (.int (0 : Int32)), (.int (0 : Int32)), (.int (0 : Int32))] (.int (0 : Int32)) := (Arv.set Ar73 q73 S73 M73 H73 U73 ft73 W73 1 rfl (Nat.le_of_ble_eq_true rfl))
  have N73 := Fr.snoc X73 N69 g_d
  have O73 := O69.wr W73 g_d
  have K73 := K69.wr W73 (Or.inl (List.mem_of_getElem? (i := 0) rfl))
  refine own_go st73 ?_
  show own_Goes _ _ _ _ _ _ _ (T73.setTop (mkF m 32 #[.val (.ref b), .val (.int (1 : Int32)), .val (.ref d), .val (.int (1 : Int32)), .val (.int (6 : Int32)), .val (.int (1 : Int32)), .val (.int c1)] []))
  refine own_go (fun _ ww => XS.iinc X73.here hx rfl (hb hby d6_32) rfl (l' := #[.val (.ref b), .val (.int (2 : Int32)), .val (.ref d), .val (.int (1 : Int32)), .val (.int (6 : Int32)), .val (.int (1 : Int32)), .val (.int c1)]) rfl ww) ?_
  show own_Goes _ _ _ _ _ _ _ (T73.setTop (mkF m 35 #[.val (.ref b), .val (.int (2 : Int32)), .val (.ref d), .val (.int (1 : Int32)), .val (.int (6 : Int32)), .val (.int (1 : Int32)), .val (.int c1)] []))
  refine own_go (fun _ ww => XS.iinc X73.here hx rfl (hb hby d6_35) rfl (l' := #[.val (.ref b), .val (.int (2 : Int32)), .val (.ref d), .val (.int (2 : Int32)), .val (.int (6 : Int32)), .val (.int (1 : Int32)), .val (.int c1)]) rfl ww) ?_
  show own_Goes _ _ _ _ _ _ _ (T73.setTop (mkF m 38 #[.val (.ref b), .val (.int (2 : Int32)), .val (.ref d), .val (.int (2 : Int32)), .val (.int (6 : Int32)), .val (.int (1 : Int32)), .val (.int c1)] []))
  refine own_go (fun _ ww => XS.iinc X73.here hx rfl (hb hby d6_38) rfl (l' := #[.val (.ref b), .val (.int (2 : Int32)), .val (.ref d), .val (.int (2 : Int32)), .val (.int (6 : Int32)), .val (.int (2 : Int32)), .val (.int c1)]) rfl ww) ?_
  show own_Goes _ _ _ _ _ _ _ (T73.setTop (mkF m 41 #[.val (.ref b), .val (.int (2 : Int32)), .val (.ref d), .val (.int (2 : Int32)), .val (.int (6 : Int32)), .val (.int (2 : Int32)), .val (.int c1)] []))
  refine own_go (fun _ ww => XS.goto X73.here hx rfl (pc0 := 41) (pc' := 3) rfl (hb hby d6_41) (by decide) (by decide) ww) ?_
  show own_Goes _ _ _ _ _ _ _ (T73.setTop (mkF m 3 #[.val (.ref b), .val (.int (2 : Int32)), .val (.ref d), .val (.int (2 : Int32)), .val (.int (6 : Int32)), .val (.int (2 : Int32)), .val (.int c1)] []))
  refine own_go (fun _ ww => XS.iload X73.here hx rfl (hb hby d6_3) rfl  ww) ?_
  show own_Goes _ _ _ _ _ _ _ (T73.setTop (mkF m 5 #[.val (.ref b), .val (.int (2 : Int32)), .val (.ref d), .val (.int (2 : Int32)), .val (.int (6 : Int32)), .val (.int (2 : Int32)), .val (.int c1)] [(.int (2 : Int32))]))
  refine own_go (fun _ ww => XS.iload X73.here hx rfl (hb hby d6_5) rfl  ww) ?_
  show own_Goes _ _ _ _ _ _ _ (T73.setTop (mkF m 7 #[.val (.ref b), .val (.int (2 : Int32)), .val (.ref d), .val (.int (2 : Int32)), .val (.int (6 : Int32)), .val (.int (2 : Int32)), .val (.int c1)] [(.int (6 : Int32)), (.int (2 : Int32))]))
  refine own_go (fun _ ww => XS.icmpNo X73.here hx rfl (hb hby d6_7) rfl (tlt (by decide : (2 : Int32) < (6 : Int32))).2.1 ww) ?_
  show own_Goes _ _ _ _ _ _ _ (T73.setTop (mkF m 10 #[.val (.ref b), .val (.int (2 : Int32)), .val (.ref d), .val (.int (2 : Int32)), .val (.int (6 : Int32)), .val (.int (2 : Int32)), .val (.int c1)] []))
  refine own_go (fun _ ww => XS.aloadN X73.here hx rfl (hb hby d6_10) rfl rfl ww) ?_
  show own_Goes _ _ _ _ _ _ _ (T73.setTop (mkF m 11 #[.val (.ref b), .val (.int (2 : Int32)), .val (.ref d), .val (.int (2 : Int32)), .val (.int (6 : Int32)), .val (.int (2 : Int32)), .val (.int c1)] [(.ref b)]))
  refine own_go (fun _ ww => XS.iloadN X73.here hx rfl (hb hby d6_11) rfl  ww) ?_
  show own_Goes _ _ _ _ _ _ _ (T73.setTop (mkF m 12 #[.val (.ref b), .val (.int (2 : Int32)), .val (.ref d), .val (.int (2 : Int32)), .val (.int (6 : Int32)), .val (.int (2 : Int32)), .val (.int c1)] [(.int (2 : Int32)), (.ref b)]))
  obtain ⟨cl76, Ar76, -, S76, -, H76, -⟩ := id f74
  have hin76 := inb_of (j := (2 : Int32)) S76 ⟨by decide, by decide⟩
  have hat76 : cl76.slots[((2 : Int32)).toNatClampNeg]? = some (.int c2) := Has.at H76 hin76 rfl
  refine own_go (fun _ ww => X73.caload hx (j := (2 : Int32)) (v := (.int c2)) (by rw [e73]; exact Ar76.1) (State.isArrayOf_alike hZ.alike Ar76.2.1) Ar76.2.2 hin76 hat76 (g := (mkF m 12 #[.val (.ref b), .val (.int (2 : Int32)), .val (.ref d), .val (.int (2 : Int32)), .val (.int (6 : Int32)), .val (.int (2 : Int32)), .val (.int c1)] [(.int (2 : Int32)), (.ref b)])) rfl rfl (hb hby d6_12) _ ww) ?_
  show own_Goes _ _ _ _ _ _ _ (T73.setTop (mkF m 13 #[.val (.ref b), .val (.int (2 : Int32)), .val (.ref d), .val (.int (2 : Int32)), .val (.int (6 : Int32)), .val (.int (2 : Int32)), .val (.int c1)] [(.int c2)]))
  refine own_go (fun _ ww => XS.istore X73.here hx rfl (hb hby d6_13) rfl (l' := #[.val (.ref b), .val (.int (2 : Int32)), .val (.ref d), .val (.int (2 : Int32)), .val (.int (6 : Int32)), .val (.int (2 : Int32)), .val (.int c2)]) rfl ww) ?_
  show own_Goes _ _ _ _ _ _ _ (T73.setTop (mkF m 15 #[.val (.ref b), .val (.int (2 : Int32)), .val (.ref d), .val (.int (2 : Int32)), .val (.int (6 : Int32)), .val (.int (2 : Int32)), .val (.int c2)] []))
  refine own_go (fun _ ww => XS.iload X73.here hx rfl (hb hby d6_15) rfl  ww) ?_
  show own_Goes _ _ _ _ _ _ _ (T73.setTop (mkF m 17 #[.val (.ref b), .val (.int (2 : Int32)), .val (.ref d), .val (.int (2 : Int32)), .val (.int (6 : Int32)), .val (.int (2 : Int32)), .val (.int c2)] [(.int c2)]))
  refine own_go (fun _ ww => XS.sipush X73.here hx rfl (hb hby d6_17) ww) ?_
  show own_Goes _ _ _ _ _ _ _ (T73.setTop (mkF m 20 #[.val (.ref b), .val (.int (2 : Int32)), .val (.ref d), .val (.int (2 : Int32)), .val (.int (6 : Int32)), .val (.int (2 : Int32)), .val (.int c2)] [(.int (255 : Int32)), (.int c2)]))
  refine own_go (fun _ ww => XS.icmpYes X73.here hx rfl (pc0 := 20) (pc' := 26) rfl (hb hby d6_20) rfl (flt le2).2.2.2 (by decide) (by decide) ww) ?_
  show own_Goes _ _ _ _ _ _ _ (T73.setTop (mkF m 26 #[.val (.ref b), .val (.int (2 : Int32)), .val (.ref d), .val (.int (2 : Int32)), .val (.int (6 : Int32)), .val (.int (2 : Int32)), .val (.int c2)] []))
  refine own_go (fun _ ww => XS.aloadN X73.here hx rfl (hb hby d6_26) rfl rfl ww) ?_
  show own_Goes _ _ _ _ _ _ _ (T73.setTop (mkF m 27 #[.val (.ref b), .val (.int (2 : Int32)), .val (.ref d), .val (.int (2 : Int32)), .val (.int (6 : Int32)), .val (.int (2 : Int32)), .val (.int c2)] [(.ref d)]))
  refine own_go (fun _ ww => XS.iloadN X73.here hx rfl (hb hby d6_27) rfl  ww) ?_
  show own_Goes _ _ _ _ _ _ _ (T73.setTop (mkF m 28 #[.val (.ref b), .val (.int (2 : Int32)), .val (.ref d), .val (.int (2 : Int32)), .val (.int (6 : Int32)), .val (.int (2 : Int32)), .val (.int c2)] [(.int (2 : Int32)), (.ref d)]))
  refine own_go (fun _ ww => XS.iload X73.here hx rfl (hb hby d6_28) rfl  ww) ?_
  show own_Goes _ _ _ _ _ _ _ (T73.setTop (mkF m 30 #[.val (.ref b), .val (.int (2 : Int32)), .val (.ref d), .val (.int (2 : Int32)), .val (.int (6 : Int32)), .val (.int (2 : Int32)), .val (.int c2)] [(.int c2), (.int (2 : Int32)), (.ref d)]))
  refine own_go (fun _ ww => XT.i2b X73.here hx rfl (hb hby d6_30) rfl ww) ?_
  show own_Goes _ _ _ _ _ _ _ (T73.setTop (mkF m 31 #[.val (.ref b), .val (.int (2 : Int32)), .val (.ref d), .val (.int (2 : Int32)), .val (.int (6 : Int32)), .val (.int (2 : Int32)), .val (.int c2)] [(.int (c2.toInt8.toInt32)), (.int (2 : Int32)), (.ref d)]))
  obtain ⟨cl77, Ar77, q77, S77, M77, H77, U77⟩ := id f75
  obtain ⟨T77, h77, X77, e77, W77, st77⟩ := stB X73 hx hZ e73 Ar77 (j := (2 : Int32)) (inb_of S77 ⟨by decide, by decide⟩) (g := (mkF m 31 #[.val (.ref b), .val (.int (2 : Int32)), .val (.ref d), .val (.int (2 : Int32)), .val (.int (6 : Int32)), .val (.int (2 : Int32)), .val (.int c2)] [(.int (c2.toInt8.toInt32)), (.int (2 : Int32)), (.ref d)])) rfl rfl (hb hby d6_31)
  have nr77 : nar .byte (c2.toInt8.toInt32) = (c2.toInt8.toInt32) := (own_narb _)
  rw [nr77] at W77
  have ft77 : fits .byte (.int (c2.toInt8.toInt32)) = true := (fits_nar_byte _)
  have f78 : Arv Z h77 b kb .char (6 : Int32) [(.int c0), (.int c1), (.int c2), (.int c3), (.int c4), (.int c5)] (.int (0 : Int32)) := (f74.other W77 nbd)
  have f79 : Arv Z h77 d kd .byte (6 : Int32) [(.int (c0.toInt8.toInt32)), (.int (c1.toInt8.toInt32)), (.int (c2.toInt8.toInt32)), (.int (0 : Int32)), (.int (0 : Int32)), (.int (0 : Int32))] (.int (0 : Int32)) := (Arv.set Ar77 q77 S77 M77 H77 U77 ft77 W77 2 rfl (Nat.le_of_ble_eq_true rfl))
  have N77 := Fr.snoc X77 N73 g_d
  have O77 := O73.wr W77 g_d
  have K77 := K73.wr W77 (Or.inl (List.mem_of_getElem? (i := 0) rfl))
  refine own_go st77 ?_
  show own_Goes _ _ _ _ _ _ _ (T77.setTop (mkF m 32 #[.val (.ref b), .val (.int (2 : Int32)), .val (.ref d), .val (.int (2 : Int32)), .val (.int (6 : Int32)), .val (.int (2 : Int32)), .val (.int c2)] []))
  refine own_go (fun _ ww => XS.iinc X77.here hx rfl (hb hby d6_32) rfl (l' := #[.val (.ref b), .val (.int (3 : Int32)), .val (.ref d), .val (.int (2 : Int32)), .val (.int (6 : Int32)), .val (.int (2 : Int32)), .val (.int c2)]) rfl ww) ?_
  show own_Goes _ _ _ _ _ _ _ (T77.setTop (mkF m 35 #[.val (.ref b), .val (.int (3 : Int32)), .val (.ref d), .val (.int (2 : Int32)), .val (.int (6 : Int32)), .val (.int (2 : Int32)), .val (.int c2)] []))
  refine own_go (fun _ ww => XS.iinc X77.here hx rfl (hb hby d6_35) rfl (l' := #[.val (.ref b), .val (.int (3 : Int32)), .val (.ref d), .val (.int (3 : Int32)), .val (.int (6 : Int32)), .val (.int (2 : Int32)), .val (.int c2)]) rfl ww) ?_
  show own_Goes _ _ _ _ _ _ _ (T77.setTop (mkF m 38 #[.val (.ref b), .val (.int (3 : Int32)), .val (.ref d), .val (.int (3 : Int32)), .val (.int (6 : Int32)), .val (.int (2 : Int32)), .val (.int c2)] []))
  refine own_go (fun _ ww => XS.iinc X77.here hx rfl (hb hby d6_38) rfl (l' := #[.val (.ref b), .val (.int (3 : Int32)), .val (.ref d), .val (.int (3 : Int32)), .val (.int (6 : Int32)), .val (.int (3 : Int32)), .val (.int c2)]) rfl ww) ?_
  show own_Goes _ _ _ _ _ _ _ (T77.setTop (mkF m 41 #[.val (.ref b), .val (.int (3 : Int32)), .val (.ref d), .val (.int (3 : Int32)), .val (.int (6 : Int32)), .val (.int (3 : Int32)), .val (.int c2)] []))
  refine own_go (fun _ ww => XS.goto X77.here hx rfl (pc0 := 41) (pc' := 3) rfl (hb hby d6_41) (by decide) (by decide) ww) ?_
  show own_Goes _ _ _ _ _ _ _ (T77.setTop (mkF m 3 #[.val (.ref b), .val (.int (3 : Int32)), .val (.ref d), .val (.int (3 : Int32)), .val (.int (6 : Int32)), .val (.int (3 : Int32)), .val (.int c2)] []))
  refine own_go (fun _ ww => XS.iload X77.here hx rfl (hb hby d6_3) rfl  ww) ?_
  show own_Goes _ _ _ _ _ _ _ (T77.setTop (mkF m 5 #[.val (.ref b), .val (.int (3 : Int32)), .val (.ref d), .val (.int (3 : Int32)), .val (.int (6 : Int32)), .val (.int (3 : Int32)), .val (.int c2)] [(.int (3 : Int32))]))
  refine own_go (fun _ ww => XS.iload X77.here hx rfl (hb hby d6_5) rfl  ww) ?_
  show own_Goes _ _ _ _ _ _ _ (T77.setTop (mkF m 7 #[.val (.ref b), .val (.int (3 : Int32)), .val (.ref d), .val (.int (3 : Int32)), .val (.int (6 : Int32)), .val (.int (3 : Int32)), .val (.int c2)] [(.int (6 : Int32)), (.int (3 : Int32))]))
  refine own_go (fun _ ww => XS.icmpNo X77.here hx rfl (hb hby d6_7) rfl (tlt (by decide : (3 : Int32) < (6 : Int32))).2.1 ww) ?_
  show own_Goes _ _ _ _ _ _ _ (T77.setTop (mkF m 10 #[.val (.ref b), .val (.int (3 : Int32)), .val (.ref d), .val (.int (3 : Int32)), .val (.int (6 : Int32)), .val (.int (3 : Int32)), .val (.int c2)] []))
  refine own_go (fun _ ww => XS.aloadN X77.here hx rfl (hb hby d6_10) rfl rfl ww) ?_
  show own_Goes _ _ _ _ _ _ _ (T77.setTop (mkF m 11 #[.val (.ref b), .val (.int (3 : Int32)), .val (.ref d), .val (.int (3 : Int32)), .val (.int (6 : Int32)), .val (.int (3 : Int32)), .val (.int c2)] [(.ref b)]))
  refine own_go (fun _ ww => XS.iloadN X77.here hx rfl (hb hby d6_11) rfl  ww) ?_
  show own_Goes _ _ _ _ _ _ _ (T77.setTop (mkF m 12 #[.val (.ref b), .val (.int (3 : Int32)), .val (.ref d), .val (.int (3 : Int32)), .val (.int (6 : Int32)), .val (.int (3 : Int32)), .val (.int c2)] [(.int (3 : Int32)), (.ref b)]))
  obtain ⟨cl80, Ar80, -, S80, -, H80, -⟩ := id f78
  have hin80 := inb_of (j := (3 : Int32)) S80 ⟨by decide, by decide⟩
  have hat80 : cl80.slots[((3 : Int32)).toNatClampNeg]? = some (.int c3) := Has.at H80 hin80 rfl
  refine own_go (fun _ ww => X77.caload hx (j := (3 : Int32)) (v := (.int c3)) (by rw [e77]; exact Ar80.1) (State.isArrayOf_alike hZ.alike Ar80.2.1) Ar80.2.2 hin80 hat80 (g := (mkF m 12 #[.val (.ref b), .val (.int (3 : Int32)), .val (.ref d), .val (.int (3 : Int32)), .val (.int (6 : Int32)), .val (.int (3 : Int32)), .val (.int c2)] [(.int (3 : Int32)), (.ref b)])) rfl rfl (hb hby d6_12) _ ww) ?_
  show own_Goes _ _ _ _ _ _ _ (T77.setTop (mkF m 13 #[.val (.ref b), .val (.int (3 : Int32)), .val (.ref d), .val (.int (3 : Int32)), .val (.int (6 : Int32)), .val (.int (3 : Int32)), .val (.int c2)] [(.int c3)]))
  refine own_go (fun _ ww => XS.istore X77.here hx rfl (hb hby d6_13) rfl (l' := #[.val (.ref b), .val (.int (3 : Int32)), .val (.ref d), .val (.int (3 : Int32)), .val (.int (6 : Int32)), .val (.int (3 : Int32)), .val (.int c3)]) rfl ww) ?_
  show own_Goes _ _ _ _ _ _ _ (T77.setTop (mkF m 15 #[.val (.ref b), .val (.int (3 : Int32)), .val (.ref d), .val (.int (3 : Int32)), .val (.int (6 : Int32)), .val (.int (3 : Int32)), .val (.int c3)] []))
  refine own_go (fun _ ww => XS.iload X77.here hx rfl (hb hby d6_15) rfl  ww) ?_
  show own_Goes _ _ _ _ _ _ _ (T77.setTop (mkF m 17 #[.val (.ref b), .val (.int (3 : Int32)), .val (.ref d), .val (.int (3 : Int32)), .val (.int (6 : Int32)), .val (.int (3 : Int32)), .val (.int c3)] [(.int c3)]))
  refine own_go (fun _ ww => XS.sipush X77.here hx rfl (hb hby d6_17) ww) ?_
  show own_Goes _ _ _ _ _ _ _ (T77.setTop (mkF m 20 #[.val (.ref b), .val (.int (3 : Int32)), .val (.ref d), .val (.int (3 : Int32)), .val (.int (6 : Int32)), .val (.int (3 : Int32)), .val (.int c3)] [(.int (255 : Int32)), (.int c3)]))
  refine own_go (fun _ ww => XS.icmpYes X77.here hx rfl (pc0 := 20) (pc' := 26) rfl (hb hby d6_20) rfl (flt le3).2.2.2 (by decide) (by decide) ww) ?_
  show own_Goes _ _ _ _ _ _ _ (T77.setTop (mkF m 26 #[.val (.ref b), .val (.int (3 : Int32)), .val (.ref d), .val (.int (3 : Int32)), .val (.int (6 : Int32)), .val (.int (3 : Int32)), .val (.int c3)] []))
  refine own_go (fun _ ww => XS.aloadN X77.here hx rfl (hb hby d6_26) rfl rfl ww) ?_
  show own_Goes _ _ _ _ _ _ _ (T77.setTop (mkF m 27 #[.val (.ref b), .val (.int (3 : Int32)), .val (.ref d), .val (.int (3 : Int32)), .val (.int (6 : Int32)), .val (.int (3 : Int32)), .val (.int c3)] [(.ref d)]))
  refine own_go (fun _ ww => XS.iloadN X77.here hx rfl (hb hby d6_27) rfl  ww) ?_
  show own_Goes _ _ _ _ _ _ _ (T77.setTop (mkF m 28 #[.val (.ref b), .val (.int (3 : Int32)), .val (.ref d), .val (.int (3 : Int32)), .val (.int (6 : Int32)), .val (.int (3 : Int32)), .val (.int c3)] [(.int (3 : Int32)), (.ref d)]))
  refine own_go (fun _ ww => XS.iload X77.here hx rfl (hb hby d6_28) rfl  ww) ?_
  show own_Goes _ _ _ _ _ _ _ (T77.setTop (mkF m 30 #[.val (.ref b), .val (.int (3 : Int32)), .val (.ref d), .val (.int (3 : Int32)), .val (.int (6 : Int32)), .val (.int (3 : Int32)), .val (.int c3)] [(.int c3), (.int (3 : Int32)), (.ref d)]))
  refine own_go (fun _ ww => XT.i2b X77.here hx rfl (hb hby d6_30) rfl ww) ?_
  show own_Goes _ _ _ _ _ _ _ (T77.setTop (mkF m 31 #[.val (.ref b), .val (.int (3 : Int32)), .val (.ref d), .val (.int (3 : Int32)), .val (.int (6 : Int32)), .val (.int (3 : Int32)), .val (.int c3)] [(.int (c3.toInt8.toInt32)), (.int (3 : Int32)), (.ref d)]))
  obtain ⟨cl81, Ar81, q81, S81, M81, H81, U81⟩ := id f79
  obtain ⟨T81, h81, X81, e81, W81, st81⟩ := stB X77 hx hZ e77 Ar81 (j := (3 : Int32)) (inb_of S81 ⟨by decide, by decide⟩) (g := (mkF m 31 #[.val (.ref b), .val (.int (3 : Int32)), .val (.ref d), .val (.int (3 : Int32)), .val (.int (6 : Int32)), .val (.int (3 : Int32)), .val (.int c3)] [(.int (c3.toInt8.toInt32)), (.int (3 : Int32)), (.ref d)])) rfl rfl (hb hby d6_31)
  have nr81 : nar .byte (c3.toInt8.toInt32) = (c3.toInt8.toInt32) := (own_narb _)
  rw [nr81] at W81
  have ft81 : fits .byte (.int (c3.toInt8.toInt32)) = true := (fits_nar_byte _)
  have f82 : Arv Z h81 b kb .char (6 : Int32) [(.int c0), (.int c1), (.int c2), (.int c3), (.int c4), (.int c5)] (.int (0 : Int32)) := (f78.other W81 nbd)
  have f83 : Arv Z h81 d kd .byte (6 : Int32) [(.int (c0.toInt8.toInt32)), (.int (c1.toInt8.toInt32)), (.int (c2.toInt8.toInt32)), (.int (c3.toInt8.toInt32)), (.int (0 : Int32)), (.int (0 : Int32))] (.int (0 : Int32)) := (Arv.set Ar81 q81 S81 M81 H81 U81 ft81 W81 3 rfl (Nat.le_of_ble_eq_true rfl))
  have N81 := Fr.snoc X81 N77 g_d
  have O81 := O77.wr W81 g_d
  have K81 := K77.wr W81 (Or.inl (List.mem_of_getElem? (i := 0) rfl))
  refine own_go st81 ?_
  show own_Goes _ _ _ _ _ _ _ (T81.setTop (mkF m 32 #[.val (.ref b), .val (.int (3 : Int32)), .val (.ref d), .val (.int (3 : Int32)), .val (.int (6 : Int32)), .val (.int (3 : Int32)), .val (.int c3)] []))
  refine own_go (fun _ ww => XS.iinc X81.here hx rfl (hb hby d6_32) rfl (l' := #[.val (.ref b), .val (.int (4 : Int32)), .val (.ref d), .val (.int (3 : Int32)), .val (.int (6 : Int32)), .val (.int (3 : Int32)), .val (.int c3)]) rfl ww) ?_
  show own_Goes _ _ _ _ _ _ _ (T81.setTop (mkF m 35 #[.val (.ref b), .val (.int (4 : Int32)), .val (.ref d), .val (.int (3 : Int32)), .val (.int (6 : Int32)), .val (.int (3 : Int32)), .val (.int c3)] []))
  refine own_go (fun _ ww => XS.iinc X81.here hx rfl (hb hby d6_35) rfl (l' := #[.val (.ref b), .val (.int (4 : Int32)), .val (.ref d), .val (.int (4 : Int32)), .val (.int (6 : Int32)), .val (.int (3 : Int32)), .val (.int c3)]) rfl ww) ?_
  show own_Goes _ _ _ _ _ _ _ (T81.setTop (mkF m 38 #[.val (.ref b), .val (.int (4 : Int32)), .val (.ref d), .val (.int (4 : Int32)), .val (.int (6 : Int32)), .val (.int (3 : Int32)), .val (.int c3)] []))
  refine own_go (fun _ ww => XS.iinc X81.here hx rfl (hb hby d6_38) rfl (l' := #[.val (.ref b), .val (.int (4 : Int32)), .val (.ref d), .val (.int (4 : Int32)), .val (.int (6 : Int32)), .val (.int (4 : Int32)), .val (.int c3)]) rfl ww) ?_
  show own_Goes _ _ _ _ _ _ _ (T81.setTop (mkF m 41 #[.val (.ref b), .val (.int (4 : Int32)), .val (.ref d), .val (.int (4 : Int32)), .val (.int (6 : Int32)), .val (.int (4 : Int32)), .val (.int c3)] []))
  refine own_go (fun _ ww => XS.goto X81.here hx rfl (pc0 := 41) (pc' := 3) rfl (hb hby d6_41) (by decide) (by decide) ww) ?_
  show own_Goes _ _ _ _ _ _ _ (T81.setTop (mkF m 3 #[.val (.ref b), .val (.int (4 : Int32)), .val (.ref d), .val (.int (4 : Int32)), .val (.int (6 : Int32)), .val (.int (4 : Int32)), .val (.int c3)] []))
  refine own_go (fun _ ww => XS.iload X81.here hx rfl (hb hby d6_3) rfl  ww) ?_
  show own_Goes _ _ _ _ _ _ _ (T81.setTop (mkF m 5 #[.val (.ref b), .val (.int (4 : Int32)), .val (.ref d), .val (.int (4 : Int32)), .val (.int (6 : Int32)), .val (.int (4 : Int32)), .val (.int c3)] [(.int (4 : Int32))]))
  refine own_go (fun _ ww => XS.iload X81.here hx rfl (hb hby d6_5) rfl  ww) ?_
  show own_Goes _ _ _ _ _ _ _ (T81.setTop (mkF m 7 #[.val (.ref b), .val (.int (4 : Int32)), .val (.ref d), .val (.int (4 : Int32)), .val (.int (6 : Int32)), .val (.int (4 : Int32)), .val (.int c3)] [(.int (6 : Int32)), (.int (4 : Int32))]))
  refine own_go (fun _ ww => XS.icmpNo X81.here hx rfl (hb hby d6_7) rfl (tlt (by decide : (4 : Int32) < (6 : Int32))).2.1 ww) ?_
  show own_Goes _ _ _ _ _ _ _ (T81.setTop (mkF m 10 #[.val (.ref b), .val (.int (4 : Int32)), .val (.ref d), .val (.int (4 : Int32)), .val (.int (6 : Int32)), .val (.int (4 : Int32)), .val (.int c3)] []))
  refine own_go (fun _ ww => XS.aloadN X81.here hx rfl (hb hby d6_10) rfl rfl ww) ?_
  show own_Goes _ _ _ _ _ _ _ (T81.setTop (mkF m 11 #[.val (.ref b), .val (.int (4 : Int32)), .val (.ref d), .val (.int (4 : Int32)), .val (.int (6 : Int32)), .val (.int (4 : Int32)), .val (.int c3)] [(.ref b)]))
  refine own_go (fun _ ww => XS.iloadN X81.here hx rfl (hb hby d6_11) rfl  ww) ?_
  show own_Goes _ _ _ _ _ _ _ (T81.setTop (mkF m 12 #[.val (.ref b), .val (.int (4 : Int32)), .val (.ref d), .val (.int (4 : Int32)), .val (.int (6 : Int32)), .val (.int (4 : Int32)), .val (.int c3)] [(.int (4 : Int32)), (.ref b)]))
  obtain ⟨cl84, Ar84, -, S84, -, H84, -⟩ := id f82
  have hin84 := inb_of (j := (4 : Int32)) S84 ⟨by decide, by decide⟩
  have hat84 : cl84.slots[((4 : Int32)).toNatClampNeg]? = some (.int c4) := Has.at H84 hin84 rfl
  refine own_go (fun _ ww => X81.caload hx (j := (4 : Int32)) (v := (.int c4)) (by rw [e81]; exact Ar84.1) (State.isArrayOf_alike hZ.alike Ar84.2.1) Ar84.2.2 hin84 hat84 (g := (mkF m 12 #[.val (.ref b), .val (.int (4 : Int32)), .val (.ref d), .val (.int (4 : Int32)), .val (.int (6 : Int32)), .val (.int (4 : Int32)), .val (.int c3)] [(.int (4 : Int32)), (.ref b)])) rfl rfl (hb hby d6_12) _ ww) ?_
  show own_Goes _ _ _ _ _ _ _ (T81.setTop (mkF m 13 #[.val (.ref b), .val (.int (4 : Int32)), .val (.ref d), .val (.int (4 : Int32)), .val (.int (6 : Int32)), .val (.int (4 : Int32)), .val (.int c3)] [(.int c4)]))
  refine own_go (fun _ ww => XS.istore X81.here hx rfl (hb hby d6_13) rfl (l' := #[.val (.ref b), .val (.int (4 : Int32)), .val (.ref d), .val (.int (4 : Int32)), .val (.int (6 : Int32)), .val (.int (4 : Int32)), .val (.int c4)]) rfl ww) ?_
  show own_Goes _ _ _ _ _ _ _ (T81.setTop (mkF m 15 #[.val (.ref b), .val (.int (4 : Int32)), .val (.ref d), .val (.int (4 : Int32)), .val (.int (6 : Int32)), .val (.int (4 : Int32)), .val (.int c4)] []))
  refine own_go (fun _ ww => XS.iload X81.here hx rfl (hb hby d6_15) rfl  ww) ?_
  show own_Goes _ _ _ _ _ _ _ (T81.setTop (mkF m 17 #[.val (.ref b), .val (.int (4 : Int32)), .val (.ref d), .val (.int (4 : Int32)), .val (.int (6 : Int32)), .val (.int (4 : Int32)), .val (.int c4)] [(.int c4)]))
  refine own_go (fun _ ww => XS.sipush X81.here hx rfl (hb hby d6_17) ww) ?_
  show own_Goes _ _ _ _ _ _ _ (T81.setTop (mkF m 20 #[.val (.ref b), .val (.int (4 : Int32)), .val (.ref d), .val (.int (4 : Int32)), .val (.int (6 : Int32)), .val (.int (4 : Int32)), .val (.int c4)] [(.int (255 : Int32)), (.int c4)]))
  refine own_go (fun _ ww => XS.icmpYes X81.here hx rfl (pc0 := 20) (pc' := 26) rfl (hb hby d6_20) rfl (flt le4).2.2.2 (by decide) (by decide) ww) ?_
  show own_Goes _ _ _ _ _ _ _ (T81.setTop (mkF m 26 #[.val (.ref b), .val (.int (4 : Int32)), .val (.ref d), .val (.int (4 : Int32)), .val (.int (6 : Int32)), .val (.int (4 : Int32)), .val (.int c4)] []))
  refine own_go (fun _ ww => XS.aloadN X81.here hx rfl (hb hby d6_26) rfl rfl ww) ?_
  show own_Goes _ _ _ _ _ _ _ (T81.setTop (mkF m 27 #[.val (.ref b), .val (.int (4 : Int32)), .val (.ref d), .val (.int (4 : Int32)), .val (.int (6 : Int32)), .val (.int (4 : Int32)), .val (.int c4)] [(.ref d)]))
  refine own_go (fun _ ww => XS.iloadN X81.here hx rfl (hb hby d6_27) rfl  ww) ?_
  show own_Goes _ _ _ _ _ _ _ (T81.setTop (mkF m 28 #[.val (.ref b), .val (.int (4 : Int32)), .val (.ref d), .val (.int (4 : Int32)), .val (.int (6 : Int32)), .val (.int (4 : Int32)), .val (.int c4)] [(.int (4 : Int32)), (.ref d)]))
  refine own_go (fun _ ww => XS.iload X81.here hx rfl (hb hby d6_28) rfl  ww) ?_
  show own_Goes _ _ _ _ _ _ _ (T81.setTop (mkF m 30 #[.val (.ref b), .val (.int (4 : Int32)), .val (.ref d), .val (.int (4 : Int32)), .val (.int (6 : Int32)), .val (.int (4 : Int32)), .val (.int c4)] [(.int c4), (.int (4 : Int32)), (.ref d)]))
  refine own_go (fun _ ww => XT.i2b X81.here hx rfl (hb hby d6_30) rfl ww) ?_
  show own_Goes _ _ _ _ _ _ _ (T81.setTop (mkF m 31 #[.val (.ref b), .val (.int (4 : Int32)), .val (.ref d), .val (.int (4 : Int32)), .val (.int (6 : Int32)), .val (.int (4 : Int32)), .val (.int c4)] [(.int (c4.toInt8.toInt32)), (.int (4 : Int32)), (.ref d)]))
  obtain ⟨cl85, Ar85, q85, S85, M85, H85, U85⟩ := id f83
  obtain ⟨T85, h85, X85, e85, W85, st85⟩ := stB X81 hx hZ e81 Ar85 (j := (4 : Int32)) (inb_of S85 ⟨by decide, by decide⟩) (g := (mkF m 31 #[.val (.ref b), .val (.int (4 : Int32)), .val (.ref d), .val (.int (4 : Int32)), .val (.int (6 : Int32)), .val (.int (4 : Int32)), .val (.int c4)] [(.int (c4.toInt8.toInt32)), (.int (4 : Int32)), (.ref d)])) rfl rfl (hb hby d6_31)
  have nr85 : nar .byte (c4.toInt8.toInt32) = (c4.toInt8.toInt32) := (own_narb _)
  rw [nr85] at W85
  have ft85 : fits .byte (.int (c4.toInt8.toInt32)) = true := (fits_nar_byte _)
  have f86 : Arv Z h85 b kb .char (6 : Int32) [(.int c0), (.int c1), (.int c2), (.int c3), (.int c4), (.int c5)] (.int (0 : Int32)) := (f82.other W85 nbd)
  have f87 : Arv Z h85 d kd .byte (6 : Int32) [(.int (c0.toInt8.toInt32)), (.int (c1.toInt8.toInt32)), (.int (c2.toInt8.toInt32)), (.int (c3.toInt8.toInt32)), (.int (c4.toInt8.toInt32)), (.int (0 : Int32))] (.int (0 : Int32)) := (Arv.set Ar85 q85 S85 M85 H85 U85 ft85 W85 4 rfl (Nat.le_of_ble_eq_true rfl))
  have N85 := Fr.snoc X85 N81 g_d
  have O85 := O81.wr W85 g_d
  have K85 := K81.wr W85 (Or.inl (List.mem_of_getElem? (i := 0) rfl))
  refine own_go st85 ?_
  show own_Goes _ _ _ _ _ _ _ (T85.setTop (mkF m 32 #[.val (.ref b), .val (.int (4 : Int32)), .val (.ref d), .val (.int (4 : Int32)), .val (.int (6 : Int32)), .val (.int (4 : Int32)), .val (.int c4)] []))
  refine own_go (fun _ ww => XS.iinc X85.here hx rfl (hb hby d6_32) rfl (l' := #[.val (.ref b), .val (.int (5 : Int32)), .val (.ref d), .val (.int (4 : Int32)), .val (.int (6 : Int32)), .val (.int (4 : Int32)), .val (.int c4)]) rfl ww) ?_
  show own_Goes _ _ _ _ _ _ _ (T85.setTop (mkF m 35 #[.val (.ref b), .val (.int (5 : Int32)), .val (.ref d), .val (.int (4 : Int32)), .val (.int (6 : Int32)), .val (.int (4 : Int32)), .val (.int c4)] []))
  refine own_go (fun _ ww => XS.iinc X85.here hx rfl (hb hby d6_35) rfl (l' := #[.val (.ref b), .val (.int (5 : Int32)), .val (.ref d), .val (.int (5 : Int32)), .val (.int (6 : Int32)), .val (.int (4 : Int32)), .val (.int c4)]) rfl ww) ?_
  show own_Goes _ _ _ _ _ _ _ (T85.setTop (mkF m 38 #[.val (.ref b), .val (.int (5 : Int32)), .val (.ref d), .val (.int (5 : Int32)), .val (.int (6 : Int32)), .val (.int (4 : Int32)), .val (.int c4)] []))
  refine own_go (fun _ ww => XS.iinc X85.here hx rfl (hb hby d6_38) rfl (l' := #[.val (.ref b), .val (.int (5 : Int32)), .val (.ref d), .val (.int (5 : Int32)), .val (.int (6 : Int32)), .val (.int (5 : Int32)), .val (.int c4)]) rfl ww) ?_
  show own_Goes _ _ _ _ _ _ _ (T85.setTop (mkF m 41 #[.val (.ref b), .val (.int (5 : Int32)), .val (.ref d), .val (.int (5 : Int32)), .val (.int (6 : Int32)), .val (.int (5 : Int32)), .val (.int c4)] []))
  refine own_go (fun _ ww => XS.goto X85.here hx rfl (pc0 := 41) (pc' := 3) rfl (hb hby d6_41) (by decide) (by decide) ww) ?_
  show own_Goes _ _ _ _ _ _ _ (T85.setTop (mkF m 3 #[.val (.ref b), .val (.int (5 : Int32)), .val (.ref d), .val (.int (5 : Int32)), .val (.int (6 : Int32)), .val (.int (5 : Int32)), .val (.int c4)] []))
  refine own_go (fun _ ww => XS.iload X85.here hx rfl (hb hby d6_3) rfl  ww) ?_
  show own_Goes _ _ _ _ _ _ _ (T85.setTop (mkF m 5 #[.val (.ref b), .val (.int (5 : Int32)), .val (.ref d), .val (.int (5 : Int32)), .val (.int (6 : Int32)), .val (.int (5 : Int32)), .val (.int c4)] [(.int (5 : Int32))]))
  refine own_go (fun _ ww => XS.iload X85.here hx rfl (hb hby d6_5) rfl  ww) ?_
  show own_Goes _ _ _ _ _ _ _ (T85.setTop (mkF m 7 #[.val (.ref b), .val (.int (5 : Int32)), .val (.ref d), .val (.int (5 : Int32)), .val (.int (6 : Int32)), .val (.int (5 : Int32)), .val (.int c4)] [(.int (6 : Int32)), (.int (5 : Int32))]))
  refine own_go (fun _ ww => XS.icmpNo X85.here hx rfl (hb hby d6_7) rfl (tlt (by decide : (5 : Int32) < (6 : Int32))).2.1 ww) ?_
  show own_Goes _ _ _ _ _ _ _ (T85.setTop (mkF m 10 #[.val (.ref b), .val (.int (5 : Int32)), .val (.ref d), .val (.int (5 : Int32)), .val (.int (6 : Int32)), .val (.int (5 : Int32)), .val (.int c4)] []))
  refine own_go (fun _ ww => XS.aloadN X85.here hx rfl (hb hby d6_10) rfl rfl ww) ?_
  show own_Goes _ _ _ _ _ _ _ (T85.setTop (mkF m 11 #[.val (.ref b), .val (.int (5 : Int32)), .val (.ref d), .val (.int (5 : Int32)), .val (.int (6 : Int32)), .val (.int (5 : Int32)), .val (.int c4)] [(.ref b)]))
  refine own_go (fun _ ww => XS.iloadN X85.here hx rfl (hb hby d6_11) rfl  ww) ?_
  show own_Goes _ _ _ _ _ _ _ (T85.setTop (mkF m 12 #[.val (.ref b), .val (.int (5 : Int32)), .val (.ref d), .val (.int (5 : Int32)), .val (.int (6 : Int32)), .val (.int (5 : Int32)), .val (.int c4)] [(.int (5 : Int32)), (.ref b)]))
  obtain ⟨cl88, Ar88, -, S88, -, H88, -⟩ := id f86
  have hin88 := inb_of (j := (5 : Int32)) S88 ⟨by decide, by decide⟩
  have hat88 : cl88.slots[((5 : Int32)).toNatClampNeg]? = some (.int c5) := Has.at H88 hin88 rfl
  refine own_go (fun _ ww => X85.caload hx (j := (5 : Int32)) (v := (.int c5)) (by rw [e85]; exact Ar88.1) (State.isArrayOf_alike hZ.alike Ar88.2.1) Ar88.2.2 hin88 hat88 (g := (mkF m 12 #[.val (.ref b), .val (.int (5 : Int32)), .val (.ref d), .val (.int (5 : Int32)), .val (.int (6 : Int32)), .val (.int (5 : Int32)), .val (.int c4)] [(.int (5 : Int32)), (.ref b)])) rfl rfl (hb hby d6_12) _ ww) ?_
  show own_Goes _ _ _ _ _ _ _ (T85.setTop (mkF m 13 #[.val (.ref b), .val (.int (5 : Int32)), .val (.ref d), .val (.int (5 : Int32)), .val (.int (6 : Int32)), .val (.int (5 : Int32)), .val (.int c4)] [(.int c5)]))
  refine own_go (fun _ ww => XS.istore X85.here hx rfl (hb hby d6_13) rfl (l' := #[.val (.ref b), .val (.int (5 : Int32)), .val (.ref d), .val (.int (5 : Int32)), .val (.int (6 : Int32)), .val (.int (5 : Int32)), .val (.int c5)]) rfl ww) ?_
  show own_Goes _ _ _ _ _ _ _ (T85.setTop (mkF m 15 #[.val (.ref b), .val (.int (5 : Int32)), .val (.ref d), .val (.int (5 : Int32)), .val (.int (6 : Int32)), .val (.int (5 : Int32)), .val (.int c5)] []))
  refine own_go (fun _ ww => XS.iload X85.here hx rfl (hb hby d6_15) rfl  ww) ?_
  show own_Goes _ _ _ _ _ _ _ (T85.setTop (mkF m 17 #[.val (.ref b), .val (.int (5 : Int32)), .val (.ref d), .val (.int (5 : Int32)), .val (.int (6 : Int32)), .val (.int (5 : Int32)), .val (.int c5)] [(.int c5)]))
  refine own_go (fun _ ww => XS.sipush X85.here hx rfl (hb hby d6_17) ww) ?_
  show own_Goes _ _ _ _ _ _ _ (T85.setTop (mkF m 20 #[.val (.ref b), .val (.int (5 : Int32)), .val (.ref d), .val (.int (5 : Int32)), .val (.int (6 : Int32)), .val (.int (5 : Int32)), .val (.int c5)] [(.int (255 : Int32)), (.int c5)]))
  refine own_go (fun _ ww => XS.icmpYes X85.here hx rfl (pc0 := 20) (pc' := 26) rfl (hb hby d6_20) rfl (flt le5).2.2.2 (by decide) (by decide) ww) ?_
  show own_Goes _ _ _ _ _ _ _ (T85.setTop (mkF m 26 #[.val (.ref b), .val (.int (5 : Int32)), .val (.ref d), .val (.int (5 : Int32)), .val (.int (6 : Int32)), .val (.int (5 : Int32)), .val (.int c5)] []))
  refine own_go (fun _ ww => XS.aloadN X85.here hx rfl (hb hby d6_26) rfl rfl ww) ?_
  show own_Goes _ _ _ _ _ _ _ (T85.setTop (mkF m 27 #[.val (.ref b), .val (.int (5 : Int32)), .val (.ref d), .val (.int (5 : Int32)), .val (.int (6 : Int32)), .val (.int (5 : Int32)), .val (.int c5)] [(.ref d)]))
  refine own_go (fun _ ww => XS.iloadN X85.here hx rfl (hb hby d6_27) rfl  ww) ?_
  show own_Goes _ _ _ _ _ _ _ (T85.setTop (mkF m 28 #[.val (.ref b), .val (.int (5 : Int32)), .val (.ref d), .val (.int (5 : Int32)), .val (.int (6 : Int32)), .val (.int (5 : Int32)), .val (.int c5)] [(.int (5 : Int32)), (.ref d)]))
  refine own_go (fun _ ww => XS.iload X85.here hx rfl (hb hby d6_28) rfl  ww) ?_
  show own_Goes _ _ _ _ _ _ _ (T85.setTop (mkF m 30 #[.val (.ref b), .val (.int (5 : Int32)), .val (.ref d), .val (.int (5 : Int32)), .val (.int (6 : Int32)), .val (.int (5 : Int32)), .val (.int c5)] [(.int c5), (.int (5 : Int32)), (.ref d)]))
  refine own_go (fun _ ww => XT.i2b X85.here hx rfl (hb hby d6_30) rfl ww) ?_
  show own_Goes _ _ _ _ _ _ _ (T85.setTop (mkF m 31 #[.val (.ref b), .val (.int (5 : Int32)), .val (.ref d), .val (.int (5 : Int32)), .val (.int (6 : Int32)), .val (.int (5 : Int32)), .val (.int c5)] [(.int (c5.toInt8.toInt32)), (.int (5 : Int32)), (.ref d)]))
  obtain ⟨cl89, Ar89, q89, S89, M89, H89, U89⟩ := id f87
  obtain ⟨T89, h89, X89, e89, W89, st89⟩ := stB X85 hx hZ e85 Ar89 (j := (5 : Int32)) (inb_of S89 ⟨by decide, by decide⟩) (g := (mkF m 31 #[.val (.ref b), .val (.int (5 : Int32)), .val (.ref d), .val (.int (5 : Int32)), .val (.int (6 : Int32)), .val (.int (5 : Int32)), .val (.int c5)] [(.int (c5.toInt8.toInt32)), (.int (5 : Int32)), (.ref d)])) rfl rfl (hb hby d6_31)
  have nr89 : nar .byte (c5.toInt8.toInt32) = (c5.toInt8.toInt32) := (own_narb _)
  rw [nr89] at W89
  have ft89 : fits .byte (.int (c5.toInt8.toInt32)) = true := (fits_nar_byte _)
  have f90 : Arv Z h89 b kb .char (6 : Int32) [(.int c0), (.int c1), (.int c2), (.int c3), (.int c4), (.int c5)] (.int (0 : Int32)) := (f86.other W89 nbd)
  have f91 : Arv Z h89 d kd .byte (6 : Int32) [(.int (c0.toInt8.toInt32)), (.int (c1.toInt8.toInt32)), (.int (c2.toInt8.toInt32)), (.int (c3.toInt8.toInt32)), (.int (c4.toInt8.toInt32)), (.int (c5.toInt8.toInt32))] (.int (0 : Int32)) := (Arv.set Ar89 q89 S89 M89 H89 U89 ft89 W89 5 rfl (Nat.le_of_ble_eq_true rfl))
  have N89 := Fr.snoc X89 N85 g_d
  have O89 := O85.wr W89 g_d
  have K89 := K85.wr W89 (Or.inl (List.mem_of_getElem? (i := 0) rfl))
  refine own_go st89 ?_
  show own_Goes _ _ _ _ _ _ _ (T89.setTop (mkF m 32 #[.val (.ref b), .val (.int (5 : Int32)), .val (.ref d), .val (.int (5 : Int32)), .val (.int (6 : Int32)), .val (.int (5 : Int32)), .val (.int c5)] []))
  refine own_go (fun _ ww => XS.iinc X89.here hx rfl (hb hby d6_32) rfl (l' := #[.val (.ref b), .val (.int (6 : Int32)), .val (.ref d), .val (.int (5 : Int32)), .val (.int (6 : Int32)), .val (.int (5 : Int32)), .val (.int c5)]) rfl ww) ?_
  show own_Goes _ _ _ _ _ _ _ (T89.setTop (mkF m 35 #[.val (.ref b), .val (.int (6 : Int32)), .val (.ref d), .val (.int (5 : Int32)), .val (.int (6 : Int32)), .val (.int (5 : Int32)), .val (.int c5)] []))
  refine own_go (fun _ ww => XS.iinc X89.here hx rfl (hb hby d6_35) rfl (l' := #[.val (.ref b), .val (.int (6 : Int32)), .val (.ref d), .val (.int (6 : Int32)), .val (.int (6 : Int32)), .val (.int (5 : Int32)), .val (.int c5)]) rfl ww) ?_
  show own_Goes _ _ _ _ _ _ _ (T89.setTop (mkF m 38 #[.val (.ref b), .val (.int (6 : Int32)), .val (.ref d), .val (.int (6 : Int32)), .val (.int (6 : Int32)), .val (.int (5 : Int32)), .val (.int c5)] []))
  refine own_go (fun _ ww => XS.iinc X89.here hx rfl (hb hby d6_38) rfl (l' := #[.val (.ref b), .val (.int (6 : Int32)), .val (.ref d), .val (.int (6 : Int32)), .val (.int (6 : Int32)), .val (.int (6 : Int32)), .val (.int c5)]) rfl ww) ?_
  show own_Goes _ _ _ _ _ _ _ (T89.setTop (mkF m 41 #[.val (.ref b), .val (.int (6 : Int32)), .val (.ref d), .val (.int (6 : Int32)), .val (.int (6 : Int32)), .val (.int (6 : Int32)), .val (.int c5)] []))
  refine own_go (fun _ ww => XS.goto X89.here hx rfl (pc0 := 41) (pc' := 3) rfl (hb hby d6_41) (by decide) (by decide) ww) ?_
  show own_Goes _ _ _ _ _ _ _ (T89.setTop (mkF m 3 #[.val (.ref b), .val (.int (6 : Int32)), .val (.ref d), .val (.int (6 : Int32)), .val (.int (6 : Int32)), .val (.int (6 : Int32)), .val (.int c5)] []))
  refine own_go (fun _ ww => XS.iload X89.here hx rfl (hb hby d6_3) rfl  ww) ?_
  show own_Goes _ _ _ _ _ _ _ (T89.setTop (mkF m 5 #[.val (.ref b), .val (.int (6 : Int32)), .val (.ref d), .val (.int (6 : Int32)), .val (.int (6 : Int32)), .val (.int (6 : Int32)), .val (.int c5)] [(.int (6 : Int32))]))
  refine own_go (fun _ ww => XS.iload X89.here hx rfl (hb hby d6_5) rfl  ww) ?_
  show own_Goes _ _ _ _ _ _ _ (T89.setTop (mkF m 7 #[.val (.ref b), .val (.int (6 : Int32)), .val (.ref d), .val (.int (6 : Int32)), .val (.int (6 : Int32)), .val (.int (6 : Int32)), .val (.int c5)] [(.int (6 : Int32)), (.int (6 : Int32))]))
  refine own_go (fun _ ww => XS.icmpYes X89.here hx rfl (pc0 := 7) (pc' := 44) rfl (hb hby d6_7) rfl (flt (by decide : ¬ ((6 : Int32) < (6 : Int32)))).2.1 (by decide) (by decide) ww) ?_
  show own_Goes _ _ _ _ _ _ _ (T89.setTop (mkF m 44 #[.val (.ref b), .val (.int (6 : Int32)), .val (.ref d), .val (.int (6 : Int32)), .val (.int (6 : Int32)), .val (.int (6 : Int32)), .val (.int c5)] []))
  refine own_go (fun _ ww => XS.iload X89.here hx rfl (hb hby d6_44) rfl  ww) ?_
  show own_Goes _ _ _ _ _ _ _ (T89.setTop (mkF m 46 #[.val (.ref b), .val (.int (6 : Int32)), .val (.ref d), .val (.int (6 : Int32)), .val (.int (6 : Int32)), .val (.int (6 : Int32)), .val (.int c5)] [(.int (6 : Int32))]))
  exact own_out X89 hlk (v := some (.int (6 : Int32))) (fun h => by rw [hret] at h; cases h) (fun fs hr => retOut X89 hx (t := .int) hret rfl (Or.inl ⟨rfl, by simp, _, rfl⟩) (hb hby d6_46) hr) e89 ⟨rfl, N89, K89, f91⟩ (by decide) (by decide)
theorem d18_0 : decode jdk_52_method_3_code 0 = .ok (.iload_n 0, 1) := by decide +kernel
theorem d18_1 : decode jdk_52_method_3_code 1 = .ok (.ifCond .ge 11, 3) := by decide +kernel
theorem d18_12 : decode jdk_52_method_3_code 12 = .ok (.iload_n 0, 1) := by decide +kernel
theorem d18_13 : decode jdk_52_method_3_code 13 = .ok (.ldc 20, 2) := by decide +kernel
theorem d18_15 : decode jdk_52_method_3_code 15 = .ok (.if_icmp .lt 40, 3) := by decide +kernel
theorem d18_55 : decode jdk_52_method_3_code 55 = .ok (.iload_n 0, 1) := by decide +kernel
theorem d18_56 : decode jdk_52_method_3_code 56 = .ok (.iconst 1, 1) := by decide +kernel
theorem d18_57 : decode jdk_52_method_3_code 57 = .ok (.ishl, 1) := by decide +kernel
theorem d18_58 : decode jdk_52_method_3_code 58 = .ok (.ireturn, 1) := by decide +kernel
theorem ef_nbl (m : MethodId)  : entryFrame m #[(.int (6 : Int32))] 1 = mkF m 0 #[.val (.int (6 : Int32))] [] := by
  first | (simp [entryFrame, mkF, argsToLocals, Value.category]; done) | rfl
def Q_nbl (Z : State)  (h0 : Heap) (n0 : Nat) (v : Option Value) (h : Heap) (L : List Loc) : Prop := v = some (.int (12 : Int32)) ∧ Fr n0 L ∧ h = h0
set_option maxRecDepth 65536 in
set_option maxHeartbeats 40000000 in
theorem rm_nbl (l : Launch) (Z : State) (a0 : Array Value) (hw : ∀ d ∈ tables_1, d.before a0 Z = true) (ws : List Jvm.Cond)  (h0 : Heap) (n0 : Nat) (O0 : Old Z n0 h0) :
    MetFree l (⟨"java/lang/StringUTF16", "newBytesLength", "(I)I"⟩ : MethodName) (head1 (Jvm.Cond.code (⟨"java/lang/StringUTF16", "newBytesLength", "(I)I"⟩ : MethodName) jdk_52_method_3_code 1 (some .int) :: ws) ({ frames := 0, cells := 0, slots := 0, locals := 0 } : Room)) (fun av_ U => av_ = #[(.int (6 : Int32))] ∧ Z.Warmed39 U.vm ∧ U.heap = h0) (fun _ _ _ _ _ => True) (fun _ U o_ U' => ∃ v L, o_ = .returned v ∧ Q_nbl Z  h0 n0 v U'.heap L ∧ FrameEnd U o_ U' L ({ frames := 0, cells := 0, slots := 0, locals := 0 } : Room).cells ({ frames := 0, cells := 0, slots := 0, locals := 0 } : Room).slots) := by
  refine MetFree.of_bodySF (plainFor_of_name pn_1) hisR ?_
  intro p e s m args below meth c s₁ Bd hml0 hP hK
  obtain ⟨rfl, hZ, hh⟩ := hP
  have hx := Bd.exec
  have hby := Bd.bytes
  have hml : c.maxLocals = 1 := hml0
  have hown : s.vm.findClass "java/lang/StringUTF16" = some m.cls := findClass_of_methodNamed Bd.named
  have hnm := (name_of_methodNamed Bd.named Bd.method).1
  have hlk := own_lk Bd
  have hret := Bd.returns
  have X0 : Stand p l e ({ frames := 0, cells := 0, slots := 0, locals := 0 } : Room) s m #[(.int (6 : Int32))] below meth c s₁ [] 0 0 := Stand.of_body Bd
  have e0 : s₁.heap = h0 := by rw [← hh, Bd.state]; rfl
  have N0 := Fr.nil n0
  show own_Goes p e below s (Q_nbl Z  h0 n0) ({ frames := 0, cells := 0, slots := 0, locals := 0 } : Room).cells ({ frames := 0, cells := 0, slots := 0, locals := 0 } : Room).slots (s₁.setTop (entryFrame m #[(.int (6 : Int32))] 1))
  refine own_go (fun _ ww => castTop (ef_nbl m ) ww) ?_
  show own_Goes _ _ _ _ _ _ _ (s₁.setTop (mkF m 0 #[.val (.int (6 : Int32))] []))
  refine own_go (fun _ ww => XS.iloadN X0.here hx rfl (hb hby d18_0) rfl  ww) ?_
  show own_Goes _ _ _ _ _ _ _ (s₁.setTop (mkF m 1 #[.val (.int (6 : Int32))] [(.int (6 : Int32))]))
  refine own_go (fun _ ww => XS.ifYes X0.here hx rfl (pc0 := 1) (pc' := 12) rfl (hb hby d18_1) rfl (own_if .ge (flt (by decide : ¬ ((6 : Int32) < (0 : Int32)))).2.1) (by decide) (by decide) ww) ?_
  show own_Goes _ _ _ _ _ _ _ (s₁.setTop (mkF m 12 #[.val (.int (6 : Int32))] []))
  refine own_go (fun _ ww => XS.iloadN X0.here hx rfl (hb hby d18_12) rfl  ww) ?_
  show own_Goes _ _ _ _ _ _ _ (s₁.setTop (mkF m 13 #[.val (.int (6 : Int32))] [(.int (6 : Int32))]))
  refine own_go (fun _ ww => X0.ldcI hx hown (mvT hZ (hw _ (List.mem_of_getElem? (i := 90) rfl))) rfl (hb hby d18_13) ww) ?_
  show own_Goes _ _ _ _ _ _ _ (s₁.setTop (mkF m 15 #[.val (.int (6 : Int32))] [(.int (1073741823 : Int32)), (.int (6 : Int32))]))
  refine own_go (fun _ ww => XS.icmpYes X0.here hx rfl (pc0 := 15) (pc' := 55) rfl (hb hby d18_15) rfl (tlt (by decide : (6 : Int32) < (1073741823 : Int32))).1 (by decide) (by decide) ww) ?_
  show own_Goes _ _ _ _ _ _ _ (s₁.setTop (mkF m 55 #[.val (.int (6 : Int32))] []))
  refine own_go (fun _ ww => XS.iloadN X0.here hx rfl (hb hby d18_55) rfl  ww) ?_
  show own_Goes _ _ _ _ _ _ _ (s₁.setTop (mkF m 56 #[.val (.int (6 : Int32))] [(.int (6 : Int32))]))
  refine own_go (fun _ ww => XS.iconst X0.here hx rfl (hb hby d18_56) ww) ?_
  show own_Goes _ _ _ _ _ _ _ (s₁.setTop (mkF m 57 #[.val (.int (6 : Int32))] [(.int (1 : Int32)), (.int (6 : Int32))]))
  refine own_go (fun _ ww => XT.ishl X0.here hx rfl (hb hby d18_57) rfl ww) ?_
  show own_Goes _ _ _ _ _ _ _ (s₁.setTop (mkF m 58 #[.val (.int (6 : Int32))] [(.int ((6 : Int32) <<< ((1 : Int32) &&& 31)))]))
  rw [(by decide : ((6 : Int32) <<< ((1 : Int32) &&& 31)) = (12 : Int32))]
  show own_Goes _ _ _ _ _ _ _ (s₁.setTop (mkF m 58 #[.val (.int (6 : Int32))] [(.int (12 : Int32))]))
  exact own_out X0 hlk (v := some (.int (12 : Int32))) (fun h => by rw [hret] at h; cases h) (fun fs hr => retOut X0 hx (t := .int) hret rfl (Or.inl ⟨rfl, by simp, _, rfl⟩) (hb hby d18_58) hr) e0 ⟨rfl, N0, rfl⟩ (by decide) (by decide)
theorem d17_0 : decode jdk_52_method_2_code 0 = .ok (.iload_n 0, 1) := by decide +kernel
theorem d17_1 : decode jdk_52_method_2_code 1 = .ok (.invokestatic 11, 3) := by decide +kernel
theorem d17_4 : decode jdk_52_method_2_code 4 = .ok (.newarray .byte, 2) := by decide +kernel
theorem d17_6 : decode jdk_52_method_2_code 6 = .ok (.areturn, 1) := by decide +kernel
theorem ef_nbf (m : MethodId)  : entryFrame m #[(.int (6 : Int32))] 1 = mkF m 0 #[.val (.int (6 : Int32))] [] := by
  first | (simp [entryFrame, mkF, argsToLocals, Value.category]; done) | rfl
def Q_nbf (Z : State)  (h0 : Heap) (n0 : Nat) (v : Option Value) (h : Heap) (L : List Loc) : Prop := ∃ (t : Addr) (kt : ClassId), v = some (.ref t) ∧ Fr n0 L ∧ h0.size ≤ t ∧ Keep h0 h [] ∧ Arv Z h t kt .byte (12 : Int32) [(.int (0 : Int32)), (.int (0 : Int32)), (.int (0 : Int32)), (.int (0 : Int32)), (.int (0 : Int32)), (.int (0 : Int32)), (.int (0 : Int32)), (.int (0 : Int32)), (.int (0 : Int32)), (.int (0 : Int32)), (.int (0 : Int32)), (.int (0 : Int32))] (.int (0 : Int32))
set_option maxRecDepth 65536 in
set_option maxHeartbeats 40000000 in
theorem rm_nbf (l : Launch) (Z : State) (a0 : Array Value) (hw : ∀ d ∈ tables_1, d.before a0 Z = true) (ws : List Jvm.Cond)  (h0 : Heap) (n0 : Nat) (O0 : Old Z n0 h0) :
    MetFree l (⟨"java/lang/StringUTF16", "newBytesFor", "(I)[B"⟩ : MethodName) (head1 (Jvm.Cond.code (⟨"java/lang/StringUTF16", "newBytesFor", "(I)[B"⟩ : MethodName) jdk_52_method_2_code 1 (some (.array .byte)) :: ws) ({ frames := 1, cells := 1, slots := 12, locals := 12 } : Room)) (fun av_ U => av_ = #[(.int (6 : Int32))] ∧ Z.Warmed39 U.vm ∧ U.heap = h0) (fun _ _ _ _ _ => True) (fun _ U o_ U' => ∃ v L, o_ = .returned v ∧ Q_nbf Z  h0 n0 v U'.heap L ∧ FrameEnd U o_ U' L ({ frames := 1, cells := 1, slots := 12, locals := 12 } : Room).cells ({ frames := 1, cells := 1, slots := 12, locals := 12 } : Room).slots) := by
  refine MetFree.of_bodySF (plainFor_of_name pn_1) hisR ?_
  intro p e s m args below meth c s₁ Bd hml0 hP hK
  obtain ⟨rfl, hZ, hh⟩ := hP
  have hx := Bd.exec
  have hby := Bd.bytes
  have hml : c.maxLocals = 1 := hml0
  have hown : s.vm.findClass "java/lang/StringUTF16" = some m.cls := findClass_of_methodNamed Bd.named
  have hnm := (name_of_methodNamed Bd.named Bd.method).1
  have hlk := own_lk Bd
  have hret := Bd.returns
  have X0 : Stand p l e ({ frames := 1, cells := 1, slots := 12, locals := 12 } : Room) s m #[(.int (6 : Int32))] below meth c s₁ [] 0 0 := Stand.of_body Bd
  have e0 : s₁.heap = h0 := by rw [← hh, Bd.state]; rfl
  have N0 := Fr.nil n0
  show own_Goes p e below s (Q_nbf Z  h0 n0) ({ frames := 1, cells := 1, slots := 12, locals := 12 } : Room).cells ({ frames := 1, cells := 1, slots := 12, locals := 12 } : Room).slots (s₁.setTop (entryFrame m #[(.int (6 : Int32))] 1))
  refine own_go (fun _ ww => castTop (ef_nbf m ) ww) ?_
  show own_Goes _ _ _ _ _ _ _ (s₁.setTop (mkF m 0 #[.val (.int (6 : Int32))] []))
  refine own_go (fun _ ww => XS.iloadN X0.here hx rfl (hb hby d17_0) rfl  ww) ?_
  show own_Goes _ _ _ _ _ _ _ (s₁.setTop (mkF m 1 #[.val (.int (6 : Int32))] [(.int (6 : Int32))]))
  obtain ⟨_, _, ⟨T92, L92, k92, n92⟩, -, X92, ⟨Lc92, hQ92, l92, y92, z92⟩, st92⟩ := Jvm.LawKit.callS X0 hx (y := (⟨"java/lang/StringUTF16", "newBytesLength", "(I)I"⟩ : MethodName)) hown (mvT hZ (hw _ (List.mem_of_getElem? (i := 87) rfl))) (mvT hZ (hw _ (List.mem_of_getElem? (i := 88) rfl))) (mvT hZ (hw _ (List.mem_of_getElem? (i := 24) rfl))) (mvT hZ (hw _ (List.mem_of_getElem? (i := 89) rfl))) (by decide) (backOf (W := 0) (rm_nbl l Z a0 hw []  h0 n0 O0 ) hZ (hw _ (List.mem_of_getElem? (i := 89) rfl)) (hw _ (List.mem_of_getElem? (i := 24) rfl)) (by decide) (by decide)) (g := (mkF m 1 #[.val (.int (6 : Int32))] [(.int (6 : Int32))])) rfl (by rw [hml]; rfl) (argsL := [(.int (6 : Int32))]) (rest := []) (lenOf pd_0 rfl) rfl (by show 2 * 0 + _ ≤ _; exact Nat.le_of_eq rfl) (hb hby d17_1) (fun _ _ => ⟨rfl, e0, (by decide : 0 + 0 ≤ _), (by decide : 0 + 0 ≤ _)⟩)
  dsimp only [Pt.U, Pt.locs, Pt.cells, Pt.slots] at X92 l92 y92 z92 st92 hQ92
  subst l92 y92 z92
  obtain ⟨rfl, N92q, e92⟩ := hQ92
  have N92 := Fr.app N0 N92q
  refine own_go st92 ?_
  show own_Goes _ _ _ _ _ _ _ (T92.setTop (mkF m 4 #[.val (.int (6 : Int32))] [(.int (12 : Int32))]))
  obtain ⟨T93, h93, k93, X93, e93, E93, A93, st93⟩ := newP X92 hx hZ (hw _ (List.mem_of_getElem? (i := 26) rfl)) e92 (g := (mkF m 4 #[.val (.int (6 : Int32))] [(.int (12 : Int32))])) rfl (hb hby d17_4) rfl (by decide) (cap := 12) (by decide) (by decide) (by decide) (by decide)
  obtain ⟨b93, g93⟩ : ∃ z, z = h0.size := ⟨_, rfl⟩
  rw [← g93] at A93 st93
  have g_b93 : n0 ≤ b93 := Nat.le_trans (O0.1 ▸ O0.2.1) (Nat.le_of_eq g93.symm)
  have O93 := O0.ext E93
  have sz_b93 : h0.size ≤ b93 := Nat.le_trans (own_ks (Keep.refl h0 [])) (Nat.le_of_eq g93.symm)
  have K93 := (Keep.refl h0 []).ext E93
  have V93 : Arv Z h93 b93 k93 .byte (12 : Int32) [(.int (0 : Int32)), (.int (0 : Int32)), (.int (0 : Int32)), (.int (0 : Int32)), (.int (0 : Int32)), (.int (0 : Int32)), (.int (0 : Int32)), (.int (0 : Int32)), (.int (0 : Int32)), (.int (0 : Int32)), (.int (0 : Int32)), (.int (0 : Int32))] (.int (0 : Int32)) := (Arv.new A93 (by decide)).pad (pad_rep [] (.int (0 : Int32)) 12)
  refine own_go st93 ?_
  show own_Goes _ _ _ _ _ _ _ (T93.setTop (mkF m 6 #[.val (.int (6 : Int32))] [(.ref b93)]))
  exact own_out X93 hlk (v := some (.ref b93)) (fun h => by rw [hret] at h; cases h) (fun fs hr => retOut X93 hx (t := (.array .byte)) hret rfl (Or.inr (Or.inr (Or.inr (Or.inr ⟨rfl, rfl, rfl⟩)))) (hb hby d17_6) hr) e93 ⟨_, k93, rfl, N92, sz_b93, K93, V93⟩ (by decide) (by decide)
theorem d19_0 : decode jdk_52_method_4_code 0 = .ok (.getstatic 44, 3) := by decide +kernel
theorem d19_3 : decode jdk_52_method_4_code 3 = .ok (.ifCond .ne 25, 3) := by decide +kernel
theorem d19_28 : decode jdk_52_method_4_code 28 = .ok (.iload_n 1, 1) := by decide +kernel
theorem d19_29 : decode jdk_52_method_4_code 29 = .ok (.iconst 1, 1) := by decide +kernel
theorem d19_30 : decode jdk_52_method_4_code 30 = .ok (.ishl, 1) := by decide +kernel
theorem d19_31 : decode jdk_52_method_4_code 31 = .ok (.istore_n 1, 1) := by decide +kernel
theorem d19_32 : decode jdk_52_method_4_code 32 = .ok (.aload_n 0, 1) := by decide +kernel
theorem d19_33 : decode jdk_52_method_4_code 33 = .ok (.iload_n 1, 1) := by decide +kernel
theorem d19_34 : decode jdk_52_method_4_code 34 = .ok (.iinc 1 1, 3) := by decide +kernel
theorem d19_37 : decode jdk_52_method_4_code 37 = .ok (.iload_n 2, 1) := by decide +kernel
theorem d19_38 : decode jdk_52_method_4_code 38 = .ok (.getstatic 59, 3) := by decide +kernel
theorem d19_41 : decode jdk_52_method_4_code 41 = .ok (.ishr, 1) := by decide +kernel
theorem d19_42 : decode jdk_52_method_4_code 42 = .ok (.i2b, 1) := by decide +kernel
theorem d19_43 : decode jdk_52_method_4_code 43 = .ok (.bastore, 1) := by decide +kernel
theorem d19_44 : decode jdk_52_method_4_code 44 = .ok (.aload_n 0, 1) := by decide +kernel
theorem d19_45 : decode jdk_52_method_4_code 45 = .ok (.iload_n 1, 1) := by decide +kernel
theorem d19_46 : decode jdk_52_method_4_code 46 = .ok (.iload_n 2, 1) := by decide +kernel
theorem d19_47 : decode jdk_52_method_4_code 47 = .ok (.getstatic 63, 3) := by decide +kernel
theorem d19_50 : decode jdk_52_method_4_code 50 = .ok (.ishr, 1) := by decide +kernel
theorem d19_51 : decode jdk_52_method_4_code 51 = .ok (.i2b, 1) := by decide +kernel
theorem d19_52 : decode jdk_52_method_4_code 52 = .ok (.bastore, 1) := by decide +kernel
theorem d19_53 : decode jdk_52_method_4_code 53 = .ok (.return_, 1) := by decide +kernel
theorem ef_putc0 (m : MethodId) (t : Addr) (kt : ClassId) (z0_ : Int32) (z1_ : Int32) (z2_ : Int32) (z3_ : Int32) (z4_ : Int32) (z5_ : Int32) (z6_ : Int32) (z7_ : Int32) (z8_ : Int32) (z9_ : Int32) (z10_ : Int32) (z11_ : Int32) (c_ : Int32) : entryFrame m #[(.ref t), (.int (0 : Int32)), (.int c_)] 3 = mkF m 0 #[.val (.ref t), .val (.int (0 : Int32)), .val (.int c_)] [] := by
  first | (simp [entryFrame, mkF, argsToLocals, Value.category]; done) | rfl
def Q_putc0 (Z : State) (t : Addr) (kt : ClassId) (z0_ : Int32) (z1_ : Int32) (z2_ : Int32) (z3_ : Int32) (z4_ : Int32) (z5_ : Int32) (z6_ : Int32) (z7_ : Int32) (z8_ : Int32) (z9_ : Int32) (z10_ : Int32) (z11_ : Int32) (c_ : Int32) (h0 : Heap) (n0 : Nat) (v : Option Value) (h : Heap) (L : List Loc) : Prop := v = none ∧ Fr n0 L ∧ Keep h0 h [t] ∧ Arv Z h t kt .byte (12 : Int32) [(.int ((c_ >>> ((0 : Int32) &&& 31)).toInt8.toInt32)), (.int ((c_ >>> ((8 : Int32) &&& 31)).toInt8.toInt32)), (.int z2_), (.int z3_), (.int z4_), (.int z5_), (.int z6_), (.int z7_), (.int z8_), (.int z9_), (.int z10_), (.int z11_)] (.int (0 : Int32))
set_option maxRecDepth 65536 in
set_option maxHeartbeats 40000000 in
theorem rm_putc0 (l : Launch) (Z : State) (a0 : Array Value) (hw : ∀ d ∈ tables_1, d.before a0 Z = true) (ws : List Jvm.Cond) (t : Addr) (kt : ClassId) (z0_ : Int32) (z1_ : Int32) (z2_ : Int32) (z3_ : Int32) (z4_ : Int32) (z5_ : Int32) (z6_ : Int32) (z7_ : Int32) (z8_ : Int32) (z9_ : Int32) (z10_ : Int32) (z11_ : Int32) (c_ : Int32) (h0 : Heap) (n0 : Nat) (O0 : Old Z n0 h0) (Vt : Arv Z h0 t kt .byte (12 : Int32) [(.int z0_), (.int z1_), (.int z2_), (.int z3_), (.int z4_), (.int z5_), (.int z6_), (.int z7_), (.int z8_), (.int z9_), (.int z10_), (.int z11_)] (.int (0 : Int32))) (g_t : n0 ≤ t) (SA : Sta Z Z.heap "java/lang/StringUTF16" "$assertionsDisabled" "Z" (.int (1 : Int32))) (SH : Sta Z Z.heap "java/lang/StringUTF16" "HI_BYTE_SHIFT" "I" (.int (0 : Int32))) (SLo : Sta Z Z.heap "java/lang/StringUTF16" "LO_BYTE_SHIFT" "I" (.int (8 : Int32))) :
    MetFree l (⟨"java/lang/StringUTF16", "putChar", "([BII)V"⟩ : MethodName) (head1 (Jvm.Cond.code (⟨"java/lang/StringUTF16", "putChar", "([BII)V"⟩ : MethodName) jdk_52_method_4_code 3 none :: ws) ({ frames := 0, cells := 0, slots := 0, locals := 0 } : Room)) (fun av_ U => av_ = #[(.ref t), (.int (0 : Int32)), (.int c_)] ∧ Z.Warmed39 U.vm ∧ U.heap = h0) (fun _ _ _ _ _ => True) (fun _ U o_ U' => ∃ v L, o_ = .returned v ∧ Q_putc0 Z t kt z0_ z1_ z2_ z3_ z4_ z5_ z6_ z7_ z8_ z9_ z10_ z11_ c_ h0 n0 v U'.heap L ∧ FrameEnd U o_ U' L ({ frames := 0, cells := 0, slots := 0, locals := 0 } : Room).cells ({ frames := 0, cells := 0, slots := 0, locals := 0 } : Room).slots) := by
  refine MetFree.of_bodySF (plainFor_of_name pn_1) hisR ?_
  intro p e s m args below meth c s₁ Bd hml0 hP hK
  obtain ⟨rfl, hZ, hh⟩ := hP
  have hx := Bd.exec
  have hby := Bd.bytes
  have hml : c.maxLocals = 3 := hml0
  have hown : s.vm.findClass "java/lang/StringUTF16" = some m.cls := findClass_of_methodNamed Bd.named
  have hnm := (name_of_methodNamed Bd.named Bd.method).1
  have hlk := own_lk Bd
  have hret := Bd.returns
  have X0 : Stand p l e ({ frames := 0, cells := 0, slots := 0, locals := 0 } : Room) s m #[(.ref t), (.int (0 : Int32)), (.int c_)] below meth c s₁ [] 0 0 := Stand.of_body Bd
  have e0 : s₁.heap = h0 := by rw [← hh, Bd.state]; rfl
  have N0 := Fr.nil n0
  show own_Goes p e below s (Q_putc0 Z t kt z0_ z1_ z2_ z3_ z4_ z5_ z6_ z7_ z8_ z9_ z10_ z11_ c_ h0 n0) ({ frames := 0, cells := 0, slots := 0, locals := 0 } : Room).cells ({ frames := 0, cells := 0, slots := 0, locals := 0 } : Room).slots (s₁.setTop (entryFrame m #[(.ref t), (.int (0 : Int32)), (.int c_)] 3))
  refine own_go (fun _ ww => castTop (ef_putc0 m t kt z0_ z1_ z2_ z3_ z4_ z5_ z6_ z7_ z8_ z9_ z10_ z11_ c_) ww) ?_
  show own_Goes _ _ _ _ _ _ _ (s₁.setTop (mkF m 0 #[.val (.ref t), .val (.int (0 : Int32)), .val (.int c_)] []))
  obtain ⟨T94, X94, e94, st94⟩ := getS X0 hx hZ hown (host := "") (hw _ (List.mem_of_getElem? (i := 94) rfl)) Via.refl e0 (SA.ext O0.2) (g := (mkF m 0 #[.val (.ref t), .val (.int (0 : Int32)), .val (.int c_)] [])) rfl (hb hby d19_0)
  refine own_go st94 ?_
  show own_Goes _ _ _ _ _ _ _ (T94.setTop (mkF m 3 #[.val (.ref t), .val (.int (0 : Int32)), .val (.int c_)] [(.int (1 : Int32))]))
  refine own_go (fun _ ww => XS.ifYes X94.here hx rfl (pc0 := 3) (pc' := 28) rfl (hb hby d19_3) rfl (own_if .ne (feq (by decide : ¬ ((1 : Int32) = (0 : Int32)))).2) (by decide) (by decide) ww) ?_
  show own_Goes _ _ _ _ _ _ _ (T94.setTop (mkF m 28 #[.val (.ref t), .val (.int (0 : Int32)), .val (.int c_)] []))
  refine own_go (fun _ ww => XS.iloadN X94.here hx rfl (hb hby d19_28) rfl  ww) ?_
  show own_Goes _ _ _ _ _ _ _ (T94.setTop (mkF m 29 #[.val (.ref t), .val (.int (0 : Int32)), .val (.int c_)] [(.int (0 : Int32))]))
  refine own_go (fun _ ww => XS.iconst X94.here hx rfl (hb hby d19_29) ww) ?_
  show own_Goes _ _ _ _ _ _ _ (T94.setTop (mkF m 30 #[.val (.ref t), .val (.int (0 : Int32)), .val (.int c_)] [(.int (1 : Int32)), (.int (0 : Int32))]))
  refine own_go (fun _ ww => XT.ishl X94.here hx rfl (hb hby d19_30) rfl ww) ?_
  show own_Goes _ _ _ _ _ _ _ (T94.setTop (mkF m 31 #[.val (.ref t), .val (.int (0 : Int32)), .val (.int c_)] [(.int ((0 : Int32) <<< ((1 : Int32) &&& 31)))]))
  rw [(by decide : ((0 : Int32) <<< ((1 : Int32) &&& 31)) = (0 : Int32))]
  show own_Goes _ _ _ _ _ _ _ (T94.setTop (mkF m 31 #[.val (.ref t), .val (.int (0 : Int32)), .val (.int c_)] [(.int (0 : Int32))]))
  refine own_go (fun _ ww => XS.istoreN X94.here hx rfl (hb hby d19_31) rfl (l' := #[.val (.ref t), .val (.int (0 : Int32)), .val (.int c_)]) rfl ww) ?_
  show own_Goes _ _ _ _ _ _ _ (T94.setTop (mkF m 32 #[.val (.ref t), .val (.int (0 : Int32)), .val (.int c_)] []))
  refine own_go (fun _ ww => XS.aloadN X94.here hx rfl (hb hby d19_32) rfl rfl ww) ?_
  show own_Goes _ _ _ _ _ _ _ (T94.setTop (mkF m 33 #[.val (.ref t), .val (.int (0 : Int32)), .val (.int c_)] [(.ref t)]))
  refine own_go (fun _ ww => XS.iloadN X94.here hx rfl (hb hby d19_33) rfl  ww) ?_
  show own_Goes _ _ _ _ _ _ _ (T94.setTop (mkF m 34 #[.val (.ref t), .val (.int (0 : Int32)), .val (.int c_)] [(.int (0 : Int32)), (.ref t)]))
  refine own_go (fun _ ww => XS.iinc X94.here hx rfl (hb hby d19_34) rfl (l' := #[.val (.ref t), .val (.int (1 : Int32)), .val (.int c_)]) rfl ww) ?_
  show own_Goes _ _ _ _ _ _ _ (T94.setTop (mkF m 37 #[.val (.ref t), .val (.int (1 : Int32)), .val (.int c_)] [(.int (0 : Int32)), (.ref t)]))
  refine own_go (fun _ ww => XS.iloadN X94.here hx rfl (hb hby d19_37) rfl  ww) ?_
  show own_Goes _ _ _ _ _ _ _ (T94.setTop (mkF m 38 #[.val (.ref t), .val (.int (1 : Int32)), .val (.int c_)] [(.int c_), (.int (0 : Int32)), (.ref t)]))
  obtain ⟨T95, X95, e95, st95⟩ := getS X94 hx hZ hown (host := "") (hw _ (List.mem_of_getElem? (i := 95) rfl)) Via.refl e94 (SH.ext O0.2) (g := (mkF m 38 #[.val (.ref t), .val (.int (1 : Int32)), .val (.int c_)] [(.int c_), (.int (0 : Int32)), (.ref t)])) rfl (hb hby d19_38)
  refine own_go st95 ?_
  show own_Goes _ _ _ _ _ _ _ (T95.setTop (mkF m 41 #[.val (.ref t), .val (.int (1 : Int32)), .val (.int c_)] [(.int (0 : Int32)), (.int c_), (.int (0 : Int32)), (.ref t)]))
  refine own_go (fun _ ww => XT.ishr X95.here hx rfl (hb hby d19_41) rfl ww) ?_
  show own_Goes _ _ _ _ _ _ _ (T95.setTop (mkF m 42 #[.val (.ref t), .val (.int (1 : Int32)), .val (.int c_)] [(.int (c_ >>> ((0 : Int32) &&& 31))), (.int (0 : Int32)), (.ref t)]))
  refine own_go (fun _ ww => XT.i2b X95.here hx rfl (hb hby d19_42) rfl ww) ?_
  show own_Goes _ _ _ _ _ _ _ (T95.setTop (mkF m 43 #[.val (.ref t), .val (.int (1 : Int32)), .val (.int c_)] [(.int ((c_ >>> ((0 : Int32) &&& 31)).toInt8.toInt32)), (.int (0 : Int32)), (.ref t)]))
  obtain ⟨cl96, Ar96, q96, S96, M96, H96, U96⟩ := id Vt
  obtain ⟨T96, h96, X96, e96, W96, st96⟩ := stB X95 hx hZ e95 Ar96 (j := (0 : Int32)) (inb_of S96 ⟨by decide, by decide⟩) (g := (mkF m 43 #[.val (.ref t), .val (.int (1 : Int32)), .val (.int c_)] [(.int ((c_ >>> ((0 : Int32) &&& 31)).toInt8.toInt32)), (.int (0 : Int32)), (.ref t)])) rfl rfl (hb hby d19_43)
  have nr96 : nar .byte ((c_ >>> ((0 : Int32) &&& 31)).toInt8.toInt32) = ((c_ >>> ((0 : Int32) &&& 31)).toInt8.toInt32) := (own_narb _)
  rw [nr96] at W96
  have ft96 : fits .byte (.int ((c_ >>> ((0 : Int32) &&& 31)).toInt8.toInt32)) = true := (fits_nar_byte _)
  have f97 : Arv Z h96 t kt .byte (12 : Int32) [(.int ((c_ >>> ((0 : Int32) &&& 31)).toInt8.toInt32)), (.int z1_), (.int z2_), (.int z3_), (.int z4_), (.int z5_), (.int z6_), (.int z7_), (.int z8_), (.int z9_), (.int z10_), (.int z11_)] (.int (0 : Int32)) := (Arv.set Ar96 q96 S96 M96 H96 U96 ft96 W96 0 rfl (Nat.le_of_ble_eq_true rfl))
  have N96 := Fr.snoc X96 N0 g_t
  have O96 := O0.wr W96 g_t
  have K96 := (Keep.refl h0 [t]).wr W96 (Or.inl (List.mem_of_getElem? (i := 0) rfl))
  refine own_go st96 ?_
  show own_Goes _ _ _ _ _ _ _ (T96.setTop (mkF m 44 #[.val (.ref t), .val (.int (1 : Int32)), .val (.int c_)] []))
  refine own_go (fun _ ww => XS.aloadN X96.here hx rfl (hb hby d19_44) rfl rfl ww) ?_
  show own_Goes _ _ _ _ _ _ _ (T96.setTop (mkF m 45 #[.val (.ref t), .val (.int (1 : Int32)), .val (.int c_)] [(.ref t)]))
  refine own_go (fun _ ww => XS.iloadN X96.here hx rfl (hb hby d19_45) rfl  ww) ?_
  show own_Goes _ _ _ _ _ _ _ (T96.setTop (mkF m 46 #[.val (.ref t), .val (.int (1 : Int32)), .val (.int c_)] [(.int (1 : Int32)), (.ref t)]))
  refine own_go (fun _ ww => XS.iloadN X96.here hx rfl (hb hby d19_46) rfl  ww) ?_
  show own_Goes _ _ _ _ _ _ _ (T96.setTop (mkF m 47 #[.val (.ref t), .val (.int (1 : Int32)), .val (.int c_)] [(.int c_), (.int (1 : Int32)), (.ref t)]))
  obtain ⟨T98, X98, e98, st98⟩ := getS X96 hx hZ hown (host := "") (hw _ (List.mem_of_getElem? (i := 96) rfl)) Via.refl e96 (SLo.ext O96.2) (g := (mkF m 47 #[.val (.ref t), .val (.int (1 : Int32)), .val (.int c_)] [(.int c_), (.int (1 : Int32)), (.ref t)])) rfl (hb hby d19_47)
  refine own_go st98 ?_
  show own_Goes _ _ _ _ _ _ _ (T98.setTop (mkF m 50 #[.val (.ref t), .val (.int (1 : Int32)), .val (.int c_)] [(.int (8 : Int32)), (.int c_), (.int (1 : Int32)), (.ref t)]))
  refine own_go (fun _ ww => XT.ishr X98.here hx rfl (hb hby d19_50) rfl ww) ?_
  show own_Goes _ _ _ _ _ _ _ (T98.setTop (mkF m 51 #[.val (.ref t), .val (.int (1 : Int32)), .val (.int c_)] [(.int (c_ >>> ((8 : Int32) &&& 31))), (.int (1 : Int32)), (.ref t)]))
  refine own_go (fun _ ww => XT.i2b X98.here hx rfl (hb hby d19_51) rfl ww) ?_
  show own_Goes _ _ _ _ _ _ _ (T98.setTop (mkF m 52 #[.val (.ref t), .val (.int (1 : Int32)), .val (.int c_)] [(.int ((c_ >>> ((8 : Int32) &&& 31)).toInt8.toInt32)), (.int (1 : Int32)), (.ref t)]))
  obtain ⟨cl99, Ar99, q99, S99, M99, H99, U99⟩ := id f97
  obtain ⟨T99, h99, X99, e99, W99, st99⟩ := stB X98 hx hZ e98 Ar99 (j := (1 : Int32)) (inb_of S99 ⟨by decide, by decide⟩) (g := (mkF m 52 #[.val (.ref t), .val (.int (1 : Int32)), .val (.int c_)] [(.int ((c_ >>> ((8 : Int32) &&& 31)).toInt8.toInt32)), (.int (1 : Int32)), (.ref t)])) rfl rfl (hb hby d19_52)
  have nr99 : nar .byte ((c_ >>> ((8 : Int32) &&& 31)).toInt8.toInt32) = ((c_ >>> ((8 : Int32) &&& 31)).toInt8.toInt32) := (own_narb _)
  rw [nr99] at W99
  have ft99 : fits .byte (.int ((c_ >>> ((8 : Int32) &&& 31)).toInt8.toInt32)) = true := (fits_nar_byte _)
  have f100 : Arv Z h99 t kt .byte (12 : Int32) [(.int ((c_ >>> ((0 : Int32) &&& 31)).toInt8.toInt32)), (.int ((c_ >>> ((8 : Int32) &&& 31)).toInt8.toInt32)), (.int z2_), (.int z3_), (.int z4_), (.int z5_), (.int z6_), (.int z7_), (.int z8_), (.int z9_), (.int z10_), (.int z11_)] (.int (0 : Int32)) := (Arv.set Ar99 q99 S99 M99 H99 U99 ft99 W99 1 rfl (Nat.le_of_ble_eq_true rfl))
  have N99 := Fr.snoc X99 N96 g_t
  have O99 := O96.wr W99 g_t
  have K99 := K96.wr W99 (Or.inl (List.mem_of_getElem? (i := 0) rfl))
  refine own_go st99 ?_
  show own_Goes _ _ _ _ _ _ _ (T99.setTop (mkF m 53 #[.val (.ref t), .val (.int (1 : Int32)), .val (.int c_)] []))
  exact own_out X99 hlk (v := none) (fun _ => rfl) (fun fs hr => X99.returnOut hx hret (hb hby d19_53) hr) e99 ⟨rfl, N99, K99, f100⟩ (by decide) (by decide)
theorem ef_putc1 (m : MethodId) (t : Addr) (kt : ClassId) (z0_ : Int32) (z1_ : Int32) (z2_ : Int32) (z3_ : Int32) (z4_ : Int32) (z5_ : Int32) (z6_ : Int32) (z7_ : Int32) (z8_ : Int32) (z9_ : Int32) (z10_ : Int32) (z11_ : Int32) (c_ : Int32) : entryFrame m #[(.ref t), (.int (1 : Int32)), (.int c_)] 3 = mkF m 0 #[.val (.ref t), .val (.int (1 : Int32)), .val (.int c_)] [] := by
  first | (simp [entryFrame, mkF, argsToLocals, Value.category]; done) | rfl
def Q_putc1 (Z : State) (t : Addr) (kt : ClassId) (z0_ : Int32) (z1_ : Int32) (z2_ : Int32) (z3_ : Int32) (z4_ : Int32) (z5_ : Int32) (z6_ : Int32) (z7_ : Int32) (z8_ : Int32) (z9_ : Int32) (z10_ : Int32) (z11_ : Int32) (c_ : Int32) (h0 : Heap) (n0 : Nat) (v : Option Value) (h : Heap) (L : List Loc) : Prop := v = none ∧ Fr n0 L ∧ Keep h0 h [t] ∧ Arv Z h t kt .byte (12 : Int32) [(.int z0_), (.int z1_), (.int ((c_ >>> ((0 : Int32) &&& 31)).toInt8.toInt32)), (.int ((c_ >>> ((8 : Int32) &&& 31)).toInt8.toInt32)), (.int z4_), (.int z5_), (.int z6_), (.int z7_), (.int z8_), (.int z9_), (.int z10_), (.int z11_)] (.int (0 : Int32))
set_option maxRecDepth 65536 in
set_option maxHeartbeats 40000000 in
theorem rm_putc1 (l : Launch) (Z : State) (a0 : Array Value) (hw : ∀ d ∈ tables_1, d.before a0 Z = true) (ws : List Jvm.Cond) (t : Addr) (kt : ClassId) (z0_ : Int32) (z1_ : Int32) (z2_ : Int32) (z3_ : Int32) (z4_ : Int32) (z5_ : Int32) (z6_ : Int32) (z7_ : Int32) (z8_ : Int32) (z9_ : Int32) (z10_ : Int32) (z11_ : Int32) (c_ : Int32) (h0 : Heap) (n0 : Nat) (O0 : Old Z n0 h0) (Vt : Arv Z h0 t kt .byte (12 : Int32) [(.int z0_), (.int z1_), (.int z2_), (.int z3_), (.int z4_), (.int z5_), (.int z6_), (.int z7_), (.int z8_), (.int z9_), (.int z10_), (.int z11_)] (.int (0 : Int32))) (g_t : n0 ≤ t) (SA : Sta Z Z.heap "java/lang/StringUTF16" "$assertionsDisabled" "Z" (.int (1 : Int32))) (SH : Sta Z Z.heap "java/lang/StringUTF16" "HI_BYTE_SHIFT" "I" (.int (0 : Int32))) (SLo : Sta Z Z.heap "java/lang/StringUTF16" "LO_BYTE_SHIFT" "I" (.int (8 : Int32))) :
    MetFree l (⟨"java/lang/StringUTF16", "putChar", "([BII)V"⟩ : MethodName) (head1 (Jvm.Cond.code (⟨"java/lang/StringUTF16", "putChar", "([BII)V"⟩ : MethodName) jdk_52_method_4_code 3 none :: ws) ({ frames := 0, cells := 0, slots := 0, locals := 0 } : Room)) (fun av_ U => av_ = #[(.ref t), (.int (1 : Int32)), (.int c_)] ∧ Z.Warmed39 U.vm ∧ U.heap = h0) (fun _ _ _ _ _ => True) (fun _ U o_ U' => ∃ v L, o_ = .returned v ∧ Q_putc1 Z t kt z0_ z1_ z2_ z3_ z4_ z5_ z6_ z7_ z8_ z9_ z10_ z11_ c_ h0 n0 v U'.heap L ∧ FrameEnd U o_ U' L ({ frames := 0, cells := 0, slots := 0, locals := 0 } : Room).cells ({ frames := 0, cells := 0, slots := 0, locals := 0 } : Room).slots) := by
  refine MetFree.of_bodySF (plainFor_of_name pn_1) hisR ?_
  intro p e s m args below meth c s₁ Bd hml0 hP hK
  obtain ⟨rfl, hZ, hh⟩ := hP
  have hx := Bd.exec
  have hby := Bd.bytes
  have hml : c.maxLocals = 3 := hml0
  have hown : s.vm.findClass "java/lang/StringUTF16" = some m.cls := findClass_of_methodNamed Bd.named
  have hnm := (name_of_methodNamed Bd.named Bd.method).1
  have hlk := own_lk Bd
  have hret := Bd.returns
  have X0 : Stand p l e ({ frames := 0, cells := 0, slots := 0, locals := 0 } : Room) s m #[(.ref t), (.int (1 : Int32)), (.int c_)] below meth c s₁ [] 0 0 := Stand.of_body Bd
  have e0 : s₁.heap = h0 := by rw [← hh, Bd.state]; rfl
  have N0 := Fr.nil n0
  show own_Goes p e below s (Q_putc1 Z t kt z0_ z1_ z2_ z3_ z4_ z5_ z6_ z7_ z8_ z9_ z10_ z11_ c_ h0 n0) ({ frames := 0, cells := 0, slots := 0, locals := 0 } : Room).cells ({ frames := 0, cells := 0, slots := 0, locals := 0 } : Room).slots (s₁.setTop (entryFrame m #[(.ref t), (.int (1 : Int32)), (.int c_)] 3))
  refine own_go (fun _ ww => castTop (ef_putc1 m t kt z0_ z1_ z2_ z3_ z4_ z5_ z6_ z7_ z8_ z9_ z10_ z11_ c_) ww) ?_
  show own_Goes _ _ _ _ _ _ _ (s₁.setTop (mkF m 0 #[.val (.ref t), .val (.int (1 : Int32)), .val (.int c_)] []))
  obtain ⟨T101, X101, e101, st101⟩ := getS X0 hx hZ hown (host := "") (hw _ (List.mem_of_getElem? (i := 94) rfl)) Via.refl e0 (SA.ext O0.2) (g := (mkF m 0 #[.val (.ref t), .val (.int (1 : Int32)), .val (.int c_)] [])) rfl (hb hby d19_0)
  refine own_go st101 ?_
  show own_Goes _ _ _ _ _ _ _ (T101.setTop (mkF m 3 #[.val (.ref t), .val (.int (1 : Int32)), .val (.int c_)] [(.int (1 : Int32))]))
  refine own_go (fun _ ww => XS.ifYes X101.here hx rfl (pc0 := 3) (pc' := 28) rfl (hb hby d19_3) rfl (own_if .ne (feq (by decide : ¬ ((1 : Int32) = (0 : Int32)))).2) (by decide) (by decide) ww) ?_
  show own_Goes _ _ _ _ _ _ _ (T101.setTop (mkF m 28 #[.val (.ref t), .val (.int (1 : Int32)), .val (.int c_)] []))
  refine own_go (fun _ ww => XS.iloadN X101.here hx rfl (hb hby d19_28) rfl  ww) ?_
  show own_Goes _ _ _ _ _ _ _ (T101.setTop (mkF m 29 #[.val (.ref t), .val (.int (1 : Int32)), .val (.int c_)] [(.int (1 : Int32))]))
  refine own_go (fun _ ww => XS.iconst X101.here hx rfl (hb hby d19_29) ww) ?_
  show own_Goes _ _ _ _ _ _ _ (T101.setTop (mkF m 30 #[.val (.ref t), .val (.int (1 : Int32)), .val (.int c_)] [(.int (1 : Int32)), (.int (1 : Int32))]))
  refine own_go (fun _ ww => XT.ishl X101.here hx rfl (hb hby d19_30) rfl ww) ?_
  show own_Goes _ _ _ _ _ _ _ (T101.setTop (mkF m 31 #[.val (.ref t), .val (.int (1 : Int32)), .val (.int c_)] [(.int ((1 : Int32) <<< ((1 : Int32) &&& 31)))]))
  rw [(by decide : ((1 : Int32) <<< ((1 : Int32) &&& 31)) = (2 : Int32))]
  show own_Goes _ _ _ _ _ _ _ (T101.setTop (mkF m 31 #[.val (.ref t), .val (.int (1 : Int32)), .val (.int c_)] [(.int (2 : Int32))]))
  refine own_go (fun _ ww => XS.istoreN X101.here hx rfl (hb hby d19_31) rfl (l' := #[.val (.ref t), .val (.int (2 : Int32)), .val (.int c_)]) rfl ww) ?_
  show own_Goes _ _ _ _ _ _ _ (T101.setTop (mkF m 32 #[.val (.ref t), .val (.int (2 : Int32)), .val (.int c_)] []))
  refine own_go (fun _ ww => XS.aloadN X101.here hx rfl (hb hby d19_32) rfl rfl ww) ?_
  show own_Goes _ _ _ _ _ _ _ (T101.setTop (mkF m 33 #[.val (.ref t), .val (.int (2 : Int32)), .val (.int c_)] [(.ref t)]))
  refine own_go (fun _ ww => XS.iloadN X101.here hx rfl (hb hby d19_33) rfl  ww) ?_
  show own_Goes _ _ _ _ _ _ _ (T101.setTop (mkF m 34 #[.val (.ref t), .val (.int (2 : Int32)), .val (.int c_)] [(.int (2 : Int32)), (.ref t)]))
  refine own_go (fun _ ww => XS.iinc X101.here hx rfl (hb hby d19_34) rfl (l' := #[.val (.ref t), .val (.int (3 : Int32)), .val (.int c_)]) rfl ww) ?_
  show own_Goes _ _ _ _ _ _ _ (T101.setTop (mkF m 37 #[.val (.ref t), .val (.int (3 : Int32)), .val (.int c_)] [(.int (2 : Int32)), (.ref t)]))
  refine own_go (fun _ ww => XS.iloadN X101.here hx rfl (hb hby d19_37) rfl  ww) ?_
  show own_Goes _ _ _ _ _ _ _ (T101.setTop (mkF m 38 #[.val (.ref t), .val (.int (3 : Int32)), .val (.int c_)] [(.int c_), (.int (2 : Int32)), (.ref t)]))
  obtain ⟨T102, X102, e102, st102⟩ := getS X101 hx hZ hown (host := "") (hw _ (List.mem_of_getElem? (i := 95) rfl)) Via.refl e101 (SH.ext O0.2) (g := (mkF m 38 #[.val (.ref t), .val (.int (3 : Int32)), .val (.int c_)] [(.int c_), (.int (2 : Int32)), (.ref t)])) rfl (hb hby d19_38)
  refine own_go st102 ?_
  show own_Goes _ _ _ _ _ _ _ (T102.setTop (mkF m 41 #[.val (.ref t), .val (.int (3 : Int32)), .val (.int c_)] [(.int (0 : Int32)), (.int c_), (.int (2 : Int32)), (.ref t)]))
  refine own_go (fun _ ww => XT.ishr X102.here hx rfl (hb hby d19_41) rfl ww) ?_
  show own_Goes _ _ _ _ _ _ _ (T102.setTop (mkF m 42 #[.val (.ref t), .val (.int (3 : Int32)), .val (.int c_)] [(.int (c_ >>> ((0 : Int32) &&& 31))), (.int (2 : Int32)), (.ref t)]))
  refine own_go (fun _ ww => XT.i2b X102.here hx rfl (hb hby d19_42) rfl ww) ?_
  show own_Goes _ _ _ _ _ _ _ (T102.setTop (mkF m 43 #[.val (.ref t), .val (.int (3 : Int32)), .val (.int c_)] [(.int ((c_ >>> ((0 : Int32) &&& 31)).toInt8.toInt32)), (.int (2 : Int32)), (.ref t)]))
  obtain ⟨cl103, Ar103, q103, S103, M103, H103, U103⟩ := id Vt
  obtain ⟨T103, h103, X103, e103, W103, st103⟩ := stB X102 hx hZ e102 Ar103 (j := (2 : Int32)) (inb_of S103 ⟨by decide, by decide⟩) (g := (mkF m 43 #[.val (.ref t), .val (.int (3 : Int32)), .val (.int c_)] [(.int ((c_ >>> ((0 : Int32) &&& 31)).toInt8.toInt32)), (.int (2 : Int32)), (.ref t)])) rfl rfl (hb hby d19_43)
  have nr103 : nar .byte ((c_ >>> ((0 : Int32) &&& 31)).toInt8.toInt32) = ((c_ >>> ((0 : Int32) &&& 31)).toInt8.toInt32) := (own_narb _)
  rw [nr103] at W103
  have ft103 : fits .byte (.int ((c_ >>> ((0 : Int32) &&& 31)).toInt8.toInt32)) = true := (fits_nar_byte _)
  have f104 : Arv Z h103 t kt .byte (12 : Int32) [(.int z0_), (.int z1_), (.int ((c_ >>> ((0 : Int32) &&& 31)).toInt8.toInt32)), (.int z3_), (.int z4_), (.int z5_), (.int z6_), (.int z7_), (.int z8_), (.int z9_), (.int z10_), (.int z11_)] (.int (0 : Int32)) := (Arv.set Ar103 q103 S103 M103 H103 U103 ft103 W103 2 rfl (Nat.le_of_ble_eq_true rfl))
  have N103 := Fr.snoc X103 N0 g_t
  have O103 := O0.wr W103 g_t
  have K103 := (Keep.refl h0 [t]).wr W103 (Or.inl (List.mem_of_getElem? (i := 0) rfl))
  refine own_go st103 ?_
  show own_Goes _ _ _ _ _ _ _ (T103.setTop (mkF m 44 #[.val (.ref t), .val (.int (3 : Int32)), .val (.int c_)] []))
  refine own_go (fun _ ww => XS.aloadN X103.here hx rfl (hb hby d19_44) rfl rfl ww) ?_
  show own_Goes _ _ _ _ _ _ _ (T103.setTop (mkF m 45 #[.val (.ref t), .val (.int (3 : Int32)), .val (.int c_)] [(.ref t)]))
  refine own_go (fun _ ww => XS.iloadN X103.here hx rfl (hb hby d19_45) rfl  ww) ?_
  show own_Goes _ _ _ _ _ _ _ (T103.setTop (mkF m 46 #[.val (.ref t), .val (.int (3 : Int32)), .val (.int c_)] [(.int (3 : Int32)), (.ref t)]))
  refine own_go (fun _ ww => XS.iloadN X103.here hx rfl (hb hby d19_46) rfl  ww) ?_
  show own_Goes _ _ _ _ _ _ _ (T103.setTop (mkF m 47 #[.val (.ref t), .val (.int (3 : Int32)), .val (.int c_)] [(.int c_), (.int (3 : Int32)), (.ref t)]))
  obtain ⟨T105, X105, e105, st105⟩ := getS X103 hx hZ hown (host := "") (hw _ (List.mem_of_getElem? (i := 96) rfl)) Via.refl e103 (SLo.ext O103.2) (g := (mkF m 47 #[.val (.ref t), .val (.int (3 : Int32)), .val (.int c_)] [(.int c_), (.int (3 : Int32)), (.ref t)])) rfl (hb hby d19_47)
  refine own_go st105 ?_
  show own_Goes _ _ _ _ _ _ _ (T105.setTop (mkF m 50 #[.val (.ref t), .val (.int (3 : Int32)), .val (.int c_)] [(.int (8 : Int32)), (.int c_), (.int (3 : Int32)), (.ref t)]))
  refine own_go (fun _ ww => XT.ishr X105.here hx rfl (hb hby d19_50) rfl ww) ?_
  show own_Goes _ _ _ _ _ _ _ (T105.setTop (mkF m 51 #[.val (.ref t), .val (.int (3 : Int32)), .val (.int c_)] [(.int (c_ >>> ((8 : Int32) &&& 31))), (.int (3 : Int32)), (.ref t)]))
  refine own_go (fun _ ww => XT.i2b X105.here hx rfl (hb hby d19_51) rfl ww) ?_
  show own_Goes _ _ _ _ _ _ _ (T105.setTop (mkF m 52 #[.val (.ref t), .val (.int (3 : Int32)), .val (.int c_)] [(.int ((c_ >>> ((8 : Int32) &&& 31)).toInt8.toInt32)), (.int (3 : Int32)), (.ref t)]))
  obtain ⟨cl106, Ar106, q106, S106, M106, H106, U106⟩ := id f104
  obtain ⟨T106, h106, X106, e106, W106, st106⟩ := stB X105 hx hZ e105 Ar106 (j := (3 : Int32)) (inb_of S106 ⟨by decide, by decide⟩) (g := (mkF m 52 #[.val (.ref t), .val (.int (3 : Int32)), .val (.int c_)] [(.int ((c_ >>> ((8 : Int32) &&& 31)).toInt8.toInt32)), (.int (3 : Int32)), (.ref t)])) rfl rfl (hb hby d19_52)
  have nr106 : nar .byte ((c_ >>> ((8 : Int32) &&& 31)).toInt8.toInt32) = ((c_ >>> ((8 : Int32) &&& 31)).toInt8.toInt32) := (own_narb _)
  rw [nr106] at W106
  have ft106 : fits .byte (.int ((c_ >>> ((8 : Int32) &&& 31)).toInt8.toInt32)) = true := (fits_nar_byte _)
  have f107 : Arv Z h106 t kt .byte (12 : Int32) [(.int z0_), (.int z1_), (.int ((c_ >>> ((0 : Int32) &&& 31)).toInt8.toInt32)), (.int ((c_ >>> ((8 : Int32) &&& 31)).toInt8.toInt32)), (.int z4_), (.int z5_), (.int z6_), (.int z7_), (.int z8_), (.int z9_), (.int z10_), (.int z11_)] (.int (0 : Int32)) := (Arv.set Ar106 q106 S106 M106 H106 U106 ft106 W106 3 rfl (Nat.le_of_ble_eq_true rfl))
  have N106 := Fr.snoc X106 N103 g_t
  have O106 := O103.wr W106 g_t
  have K106 := K103.wr W106 (Or.inl (List.mem_of_getElem? (i := 0) rfl))
  refine own_go st106 ?_
  show own_Goes _ _ _ _ _ _ _ (T106.setTop (mkF m 53 #[.val (.ref t), .val (.int (3 : Int32)), .val (.int c_)] []))
  exact own_out X106 hlk (v := none) (fun _ => rfl) (fun fs hr => X106.returnOut hx hret (hb hby d19_53) hr) e106 ⟨rfl, N106, K106, f107⟩ (by decide) (by decide)
theorem ef_putc2 (m : MethodId) (t : Addr) (kt : ClassId) (z0_ : Int32) (z1_ : Int32) (z2_ : Int32) (z3_ : Int32) (z4_ : Int32) (z5_ : Int32) (z6_ : Int32) (z7_ : Int32) (z8_ : Int32) (z9_ : Int32) (z10_ : Int32) (z11_ : Int32) (c_ : Int32) : entryFrame m #[(.ref t), (.int (2 : Int32)), (.int c_)] 3 = mkF m 0 #[.val (.ref t), .val (.int (2 : Int32)), .val (.int c_)] [] := by
  first | (simp [entryFrame, mkF, argsToLocals, Value.category]; done) | rfl
def Q_putc2 (Z : State) (t : Addr) (kt : ClassId) (z0_ : Int32) (z1_ : Int32) (z2_ : Int32) (z3_ : Int32) (z4_ : Int32) (z5_ : Int32) (z6_ : Int32) (z7_ : Int32) (z8_ : Int32) (z9_ : Int32) (z10_ : Int32) (z11_ : Int32) (c_ : Int32) (h0 : Heap) (n0 : Nat) (v : Option Value) (h : Heap) (L : List Loc) : Prop := v = none ∧ Fr n0 L ∧ Keep h0 h [t] ∧ Arv Z h t kt .byte (12 : Int32) [(.int z0_), (.int z1_), (.int z2_), (.int z3_), (.int ((c_ >>> ((0 : Int32) &&& 31)).toInt8.toInt32)), (.int ((c_ >>> ((8 : Int32) &&& 31)).toInt8.toInt32)), (.int z6_), (.int z7_), (.int z8_), (.int z9_), (.int z10_), (.int z11_)] (.int (0 : Int32))
set_option maxRecDepth 65536 in
set_option maxHeartbeats 40000000 in
theorem rm_putc2 (l : Launch) (Z : State) (a0 : Array Value) (hw : ∀ d ∈ tables_1, d.before a0 Z = true) (ws : List Jvm.Cond) (t : Addr) (kt : ClassId) (z0_ : Int32) (z1_ : Int32) (z2_ : Int32) (z3_ : Int32) (z4_ : Int32) (z5_ : Int32) (z6_ : Int32) (z7_ : Int32) (z8_ : Int32) (z9_ : Int32) (z10_ : Int32) (z11_ : Int32) (c_ : Int32) (h0 : Heap) (n0 : Nat) (O0 : Old Z n0 h0) (Vt : Arv Z h0 t kt .byte (12 : Int32) [(.int z0_), (.int z1_), (.int z2_), (.int z3_), (.int z4_), (.int z5_), (.int z6_), (.int z7_), (.int z8_), (.int z9_), (.int z10_), (.int z11_)] (.int (0 : Int32))) (g_t : n0 ≤ t) (SA : Sta Z Z.heap "java/lang/StringUTF16" "$assertionsDisabled" "Z" (.int (1 : Int32))) (SH : Sta Z Z.heap "java/lang/StringUTF16" "HI_BYTE_SHIFT" "I" (.int (0 : Int32))) (SLo : Sta Z Z.heap "java/lang/StringUTF16" "LO_BYTE_SHIFT" "I" (.int (8 : Int32))) :
    MetFree l (⟨"java/lang/StringUTF16", "putChar", "([BII)V"⟩ : MethodName) (head1 (Jvm.Cond.code (⟨"java/lang/StringUTF16", "putChar", "([BII)V"⟩ : MethodName) jdk_52_method_4_code 3 none :: ws) ({ frames := 0, cells := 0, slots := 0, locals := 0 } : Room)) (fun av_ U => av_ = #[(.ref t), (.int (2 : Int32)), (.int c_)] ∧ Z.Warmed39 U.vm ∧ U.heap = h0) (fun _ _ _ _ _ => True) (fun _ U o_ U' => ∃ v L, o_ = .returned v ∧ Q_putc2 Z t kt z0_ z1_ z2_ z3_ z4_ z5_ z6_ z7_ z8_ z9_ z10_ z11_ c_ h0 n0 v U'.heap L ∧ FrameEnd U o_ U' L ({ frames := 0, cells := 0, slots := 0, locals := 0 } : Room).cells ({ frames := 0, cells := 0, slots := 0, locals := 0 } : Room).slots) := by
  refine MetFree.of_bodySF (plainFor_of_name pn_1) hisR ?_
  intro p e s m args below meth c s₁ Bd hml0 hP hK
  obtain ⟨rfl, hZ, hh⟩ := hP
  have hx := Bd.exec
  have hby := Bd.bytes
  have hml : c.maxLocals = 3 := hml0
  have hown : s.vm.findClass "java/lang/StringUTF16" = some m.cls := findClass_of_methodNamed Bd.named
  have hnm := (name_of_methodNamed Bd.named Bd.method).1
  have hlk := own_lk Bd
  have hret := Bd.returns
  have X0 : Stand p l e ({ frames := 0, cells := 0, slots := 0, locals := 0 } : Room) s m #[(.ref t), (.int (2 : Int32)), (.int c_)] below meth c s₁ [] 0 0 := Stand.of_body Bd
  have e0 : s₁.heap = h0 := by rw [← hh, Bd.state]; rfl
  have N0 := Fr.nil n0
  show own_Goes p e below s (Q_putc2 Z t kt z0_ z1_ z2_ z3_ z4_ z5_ z6_ z7_ z8_ z9_ z10_ z11_ c_ h0 n0) ({ frames := 0, cells := 0, slots := 0, locals := 0 } : Room).cells ({ frames := 0, cells := 0, slots := 0, locals := 0 } : Room).slots (s₁.setTop (entryFrame m #[(.ref t), (.int (2 : Int32)), (.int c_)] 3))
  refine own_go (fun _ ww => castTop (ef_putc2 m t kt z0_ z1_ z2_ z3_ z4_ z5_ z6_ z7_ z8_ z9_ z10_ z11_ c_) ww) ?_
  show own_Goes _ _ _ _ _ _ _ (s₁.setTop (mkF m 0 #[.val (.ref t), .val (.int (2 : Int32)), .val (.int c_)] []))
  obtain ⟨T108, X108, e108, st108⟩ := getS X0 hx hZ hown (host := "") (hw _ (List.mem_of_getElem? (i := 94) rfl)) Via.refl e0 (SA.ext O0.2) (g := (mkF m 0 #[.val (.ref t), .val (.int (2 : Int32)), .val (.int c_)] [])) rfl (hb hby d19_0)
  refine own_go st108 ?_
  show own_Goes _ _ _ _ _ _ _ (T108.setTop (mkF m 3 #[.val (.ref t), .val (.int (2 : Int32)), .val (.int c_)] [(.int (1 : Int32))]))
  refine own_go (fun _ ww => XS.ifYes X108.here hx rfl (pc0 := 3) (pc' := 28) rfl (hb hby d19_3) rfl (own_if .ne (feq (by decide : ¬ ((1 : Int32) = (0 : Int32)))).2) (by decide) (by decide) ww) ?_
  show own_Goes _ _ _ _ _ _ _ (T108.setTop (mkF m 28 #[.val (.ref t), .val (.int (2 : Int32)), .val (.int c_)] []))
  refine own_go (fun _ ww => XS.iloadN X108.here hx rfl (hb hby d19_28) rfl  ww) ?_
  show own_Goes _ _ _ _ _ _ _ (T108.setTop (mkF m 29 #[.val (.ref t), .val (.int (2 : Int32)), .val (.int c_)] [(.int (2 : Int32))]))
  refine own_go (fun _ ww => XS.iconst X108.here hx rfl (hb hby d19_29) ww) ?_
  show own_Goes _ _ _ _ _ _ _ (T108.setTop (mkF m 30 #[.val (.ref t), .val (.int (2 : Int32)), .val (.int c_)] [(.int (1 : Int32)), (.int (2 : Int32))]))
  refine own_go (fun _ ww => XT.ishl X108.here hx rfl (hb hby d19_30) rfl ww) ?_
  show own_Goes _ _ _ _ _ _ _ (T108.setTop (mkF m 31 #[.val (.ref t), .val (.int (2 : Int32)), .val (.int c_)] [(.int ((2 : Int32) <<< ((1 : Int32) &&& 31)))]))
  rw [(by decide : ((2 : Int32) <<< ((1 : Int32) &&& 31)) = (4 : Int32))]
  show own_Goes _ _ _ _ _ _ _ (T108.setTop (mkF m 31 #[.val (.ref t), .val (.int (2 : Int32)), .val (.int c_)] [(.int (4 : Int32))]))
  refine own_go (fun _ ww => XS.istoreN X108.here hx rfl (hb hby d19_31) rfl (l' := #[.val (.ref t), .val (.int (4 : Int32)), .val (.int c_)]) rfl ww) ?_
  show own_Goes _ _ _ _ _ _ _ (T108.setTop (mkF m 32 #[.val (.ref t), .val (.int (4 : Int32)), .val (.int c_)] []))
  refine own_go (fun _ ww => XS.aloadN X108.here hx rfl (hb hby d19_32) rfl rfl ww) ?_
  show own_Goes _ _ _ _ _ _ _ (T108.setTop (mkF m 33 #[.val (.ref t), .val (.int (4 : Int32)), .val (.int c_)] [(.ref t)]))
  refine own_go (fun _ ww => XS.iloadN X108.here hx rfl (hb hby d19_33) rfl  ww) ?_
  show own_Goes _ _ _ _ _ _ _ (T108.setTop (mkF m 34 #[.val (.ref t), .val (.int (4 : Int32)), .val (.int c_)] [(.int (4 : Int32)), (.ref t)]))
  refine own_go (fun _ ww => XS.iinc X108.here hx rfl (hb hby d19_34) rfl (l' := #[.val (.ref t), .val (.int (5 : Int32)), .val (.int c_)]) rfl ww) ?_
  show own_Goes _ _ _ _ _ _ _ (T108.setTop (mkF m 37 #[.val (.ref t), .val (.int (5 : Int32)), .val (.int c_)] [(.int (4 : Int32)), (.ref t)]))
  refine own_go (fun _ ww => XS.iloadN X108.here hx rfl (hb hby d19_37) rfl  ww) ?_
  show own_Goes _ _ _ _ _ _ _ (T108.setTop (mkF m 38 #[.val (.ref t), .val (.int (5 : Int32)), .val (.int c_)] [(.int c_), (.int (4 : Int32)), (.ref t)]))
  obtain ⟨T109, X109, e109, st109⟩ := getS X108 hx hZ hown (host := "") (hw _ (List.mem_of_getElem? (i := 95) rfl)) Via.refl e108 (SH.ext O0.2) (g := (mkF m 38 #[.val (.ref t), .val (.int (5 : Int32)), .val (.int c_)] [(.int c_), (.int (4 : Int32)), (.ref t)])) rfl (hb hby d19_38)
  refine own_go st109 ?_
  show own_Goes _ _ _ _ _ _ _ (T109.setTop (mkF m 41 #[.val (.ref t), .val (.int (5 : Int32)), .val (.int c_)] [(.int (0 : Int32)), (.int c_), (.int (4 : Int32)), (.ref t)]))
  refine own_go (fun _ ww => XT.ishr X109.here hx rfl (hb hby d19_41) rfl ww) ?_
  show own_Goes _ _ _ _ _ _ _ (T109.setTop (mkF m 42 #[.val (.ref t), .val (.int (5 : Int32)), .val (.int c_)] [(.int (c_ >>> ((0 : Int32) &&& 31))), (.int (4 : Int32)), (.ref t)]))
  refine own_go (fun _ ww => XT.i2b X109.here hx rfl (hb hby d19_42) rfl ww) ?_
  show own_Goes _ _ _ _ _ _ _ (T109.setTop (mkF m 43 #[.val (.ref t), .val (.int (5 : Int32)), .val (.int c_)] [(.int ((c_ >>> ((0 : Int32) &&& 31)).toInt8.toInt32)), (.int (4 : Int32)), (.ref t)]))
  obtain ⟨cl110, Ar110, q110, S110, M110, H110, U110⟩ := id Vt
  obtain ⟨T110, h110, X110, e110, W110, st110⟩ := stB X109 hx hZ e109 Ar110 (j := (4 : Int32)) (inb_of S110 ⟨by decide, by decide⟩) (g := (mkF m 43 #[.val (.ref t), .val (.int (5 : Int32)), .val (.int c_)] [(.int ((c_ >>> ((0 : Int32) &&& 31)).toInt8.toInt32)), (.int (4 : Int32)), (.ref t)])) rfl rfl (hb hby d19_43)
  have nr110 : nar .byte ((c_ >>> ((0 : Int32) &&& 31)).toInt8.toInt32) = ((c_ >>> ((0 : Int32) &&& 31)).toInt8.toInt32) := (own_narb _)
  rw [nr110] at W110
  have ft110 : fits .byte (.int ((c_ >>> ((0 : Int32) &&& 31)).toInt8.toInt32)) = true := (fits_nar_byte _)
  have f111 : Arv Z h110 t kt .byte (12 : Int32) [(.int z0_), (.int z1_), (.int z2_), (.int z3_), (.int ((c_ >>> ((0 : Int32) &&& 31)).toInt8.toInt32)), (.int z5_), (.int z6_), (.int z7_), (.int z8_), (.int z9_), (.int z10_), (.int z11_)] (.int (0 : Int32)) := (Arv.set Ar110 q110 S110 M110 H110 U110 ft110 W110 4 rfl (Nat.le_of_ble_eq_true rfl))
  have N110 := Fr.snoc X110 N0 g_t
  have O110 := O0.wr W110 g_t
  have K110 := (Keep.refl h0 [t]).wr W110 (Or.inl (List.mem_of_getElem? (i := 0) rfl))
  refine own_go st110 ?_
  show own_Goes _ _ _ _ _ _ _ (T110.setTop (mkF m 44 #[.val (.ref t), .val (.int (5 : Int32)), .val (.int c_)] []))
  refine own_go (fun _ ww => XS.aloadN X110.here hx rfl (hb hby d19_44) rfl rfl ww) ?_
  show own_Goes _ _ _ _ _ _ _ (T110.setTop (mkF m 45 #[.val (.ref t), .val (.int (5 : Int32)), .val (.int c_)] [(.ref t)]))
  refine own_go (fun _ ww => XS.iloadN X110.here hx rfl (hb hby d19_45) rfl  ww) ?_
  show own_Goes _ _ _ _ _ _ _ (T110.setTop (mkF m 46 #[.val (.ref t), .val (.int (5 : Int32)), .val (.int c_)] [(.int (5 : Int32)), (.ref t)]))
  refine own_go (fun _ ww => XS.iloadN X110.here hx rfl (hb hby d19_46) rfl  ww) ?_
  show own_Goes _ _ _ _ _ _ _ (T110.setTop (mkF m 47 #[.val (.ref t), .val (.int (5 : Int32)), .val (.int c_)] [(.int c_), (.int (5 : Int32)), (.ref t)]))
  obtain ⟨T112, X112, e112, st112⟩ := getS X110 hx hZ hown (host := "") (hw _ (List.mem_of_getElem? (i := 96) rfl)) Via.refl e110 (SLo.ext O110.2) (g := (mkF m 47 #[.val (.ref t), .val (.int (5 : Int32)), .val (.int c_)] [(.int c_), (.int (5 : Int32)), (.ref t)])) rfl (hb hby d19_47)
  refine own_go st112 ?_
  show own_Goes _ _ _ _ _ _ _ (T112.setTop (mkF m 50 #[.val (.ref t), .val (.int (5 : Int32)), .val (.int c_)] [(.int (8 : Int32)), (.int c_), (.int (5 : Int32)), (.ref t)]))
  refine own_go (fun _ ww => XT.ishr X112.here hx rfl (hb hby d19_50) rfl ww) ?_
  show own_Goes _ _ _ _ _ _ _ (T112.setTop (mkF m 51 #[.val (.ref t), .val (.int (5 : Int32)), .val (.int c_)] [(.int (c_ >>> ((8 : Int32) &&& 31))), (.int (5 : Int32)), (.ref t)]))
  refine own_go (fun _ ww => XT.i2b X112.here hx rfl (hb hby d19_51) rfl ww) ?_
  show own_Goes _ _ _ _ _ _ _ (T112.setTop (mkF m 52 #[.val (.ref t), .val (.int (5 : Int32)), .val (.int c_)] [(.int ((c_ >>> ((8 : Int32) &&& 31)).toInt8.toInt32)), (.int (5 : Int32)), (.ref t)]))
  obtain ⟨cl113, Ar113, q113, S113, M113, H113, U113⟩ := id f111
  obtain ⟨T113, h113, X113, e113, W113, st113⟩ := stB X112 hx hZ e112 Ar113 (j := (5 : Int32)) (inb_of S113 ⟨by decide, by decide⟩) (g := (mkF m 52 #[.val (.ref t), .val (.int (5 : Int32)), .val (.int c_)] [(.int ((c_ >>> ((8 : Int32) &&& 31)).toInt8.toInt32)), (.int (5 : Int32)), (.ref t)])) rfl rfl (hb hby d19_52)
  have nr113 : nar .byte ((c_ >>> ((8 : Int32) &&& 31)).toInt8.toInt32) = ((c_ >>> ((8 : Int32) &&& 31)).toInt8.toInt32) := (own_narb _)
  rw [nr113] at W113
  have ft113 : fits .byte (.int ((c_ >>> ((8 : Int32) &&& 31)).toInt8.toInt32)) = true := (fits_nar_byte _)
  have f114 : Arv Z h113 t kt .byte (12 : Int32) [(.int z0_), (.int z1_), (.int z2_), (.int z3_), (.int ((c_ >>> ((0 : Int32) &&& 31)).toInt8.toInt32)), (.int ((c_ >>> ((8 : Int32) &&& 31)).toInt8.toInt32)), (.int z6_), (.int z7_), (.int z8_), (.int z9_), (.int z10_), (.int z11_)] (.int (0 : Int32)) := (Arv.set Ar113 q113 S113 M113 H113 U113 ft113 W113 5 rfl (Nat.le_of_ble_eq_true rfl))
  have N113 := Fr.snoc X113 N110 g_t
  have O113 := O110.wr W113 g_t
  have K113 := K110.wr W113 (Or.inl (List.mem_of_getElem? (i := 0) rfl))
  refine own_go st113 ?_
  show own_Goes _ _ _ _ _ _ _ (T113.setTop (mkF m 53 #[.val (.ref t), .val (.int (5 : Int32)), .val (.int c_)] []))
  exact own_out X113 hlk (v := none) (fun _ => rfl) (fun fs hr => X113.returnOut hx hret (hb hby d19_53) hr) e113 ⟨rfl, N113, K113, f114⟩ (by decide) (by decide)
theorem ef_putc3 (m : MethodId) (t : Addr) (kt : ClassId) (z0_ : Int32) (z1_ : Int32) (z2_ : Int32) (z3_ : Int32) (z4_ : Int32) (z5_ : Int32) (z6_ : Int32) (z7_ : Int32) (z8_ : Int32) (z9_ : Int32) (z10_ : Int32) (z11_ : Int32) (c_ : Int32) : entryFrame m #[(.ref t), (.int (3 : Int32)), (.int c_)] 3 = mkF m 0 #[.val (.ref t), .val (.int (3 : Int32)), .val (.int c_)] [] := by
  first | (simp [entryFrame, mkF, argsToLocals, Value.category]; done) | rfl
def Q_putc3 (Z : State) (t : Addr) (kt : ClassId) (z0_ : Int32) (z1_ : Int32) (z2_ : Int32) (z3_ : Int32) (z4_ : Int32) (z5_ : Int32) (z6_ : Int32) (z7_ : Int32) (z8_ : Int32) (z9_ : Int32) (z10_ : Int32) (z11_ : Int32) (c_ : Int32) (h0 : Heap) (n0 : Nat) (v : Option Value) (h : Heap) (L : List Loc) : Prop := v = none ∧ Fr n0 L ∧ Keep h0 h [t] ∧ Arv Z h t kt .byte (12 : Int32) [(.int z0_), (.int z1_), (.int z2_), (.int z3_), (.int z4_), (.int z5_), (.int ((c_ >>> ((0 : Int32) &&& 31)).toInt8.toInt32)), (.int ((c_ >>> ((8 : Int32) &&& 31)).toInt8.toInt32)), (.int z8_), (.int z9_), (.int z10_), (.int z11_)] (.int (0 : Int32))
set_option maxRecDepth 65536 in
set_option maxHeartbeats 40000000 in
theorem rm_putc3 (l : Launch) (Z : State) (a0 : Array Value) (hw : ∀ d ∈ tables_1, d.before a0 Z = true) (ws : List Jvm.Cond) (t : Addr) (kt : ClassId) (z0_ : Int32) (z1_ : Int32) (z2_ : Int32) (z3_ : Int32) (z4_ : Int32) (z5_ : Int32) (z6_ : Int32) (z7_ : Int32) (z8_ : Int32) (z9_ : Int32) (z10_ : Int32) (z11_ : Int32) (c_ : Int32) (h0 : Heap) (n0 : Nat) (O0 : Old Z n0 h0) (Vt : Arv Z h0 t kt .byte (12 : Int32) [(.int z0_), (.int z1_), (.int z2_), (.int z3_), (.int z4_), (.int z5_), (.int z6_), (.int z7_), (.int z8_), (.int z9_), (.int z10_), (.int z11_)] (.int (0 : Int32))) (g_t : n0 ≤ t) (SA : Sta Z Z.heap "java/lang/StringUTF16" "$assertionsDisabled" "Z" (.int (1 : Int32))) (SH : Sta Z Z.heap "java/lang/StringUTF16" "HI_BYTE_SHIFT" "I" (.int (0 : Int32))) (SLo : Sta Z Z.heap "java/lang/StringUTF16" "LO_BYTE_SHIFT" "I" (.int (8 : Int32))) :
    MetFree l (⟨"java/lang/StringUTF16", "putChar", "([BII)V"⟩ : MethodName) (head1 (Jvm.Cond.code (⟨"java/lang/StringUTF16", "putChar", "([BII)V"⟩ : MethodName) jdk_52_method_4_code 3 none :: ws) ({ frames := 0, cells := 0, slots := 0, locals := 0 } : Room)) (fun av_ U => av_ = #[(.ref t), (.int (3 : Int32)), (.int c_)] ∧ Z.Warmed39 U.vm ∧ U.heap = h0) (fun _ _ _ _ _ => True) (fun _ U o_ U' => ∃ v L, o_ = .returned v ∧ Q_putc3 Z t kt z0_ z1_ z2_ z3_ z4_ z5_ z6_ z7_ z8_ z9_ z10_ z11_ c_ h0 n0 v U'.heap L ∧ FrameEnd U o_ U' L ({ frames := 0, cells := 0, slots := 0, locals := 0 } : Room).cells ({ frames := 0, cells := 0, slots := 0, locals := 0 } : Room).slots) := by
  refine MetFree.of_bodySF (plainFor_of_name pn_1) hisR ?_
  intro p e s m args below meth c s₁ Bd hml0 hP hK
  obtain ⟨rfl, hZ, hh⟩ := hP
  have hx := Bd.exec
  have hby := Bd.bytes
  have hml : c.maxLocals = 3 := hml0
  have hown : s.vm.findClass "java/lang/StringUTF16" = some m.cls := findClass_of_methodNamed Bd.named
  have hnm := (name_of_methodNamed Bd.named Bd.method).1
  have hlk := own_lk Bd
  have hret := Bd.returns
  have X0 : Stand p l e ({ frames := 0, cells := 0, slots := 0, locals := 0 } : Room) s m #[(.ref t), (.int (3 : Int32)), (.int c_)] below meth c s₁ [] 0 0 := Stand.of_body Bd
  have e0 : s₁.heap = h0 := by rw [← hh, Bd.state]; rfl
  have N0 := Fr.nil n0
  show own_Goes p e below s (Q_putc3 Z t kt z0_ z1_ z2_ z3_ z4_ z5_ z6_ z7_ z8_ z9_ z10_ z11_ c_ h0 n0) ({ frames := 0, cells := 0, slots := 0, locals := 0 } : Room).cells ({ frames := 0, cells := 0, slots := 0, locals := 0 } : Room).slots (s₁.setTop (entryFrame m #[(.ref t), (.int (3 : Int32)), (.int c_)] 3))
  refine own_go (fun _ ww => castTop (ef_putc3 m t kt z0_ z1_ z2_ z3_ z4_ z5_ z6_ z7_ z8_ z9_ z10_ z11_ c_) ww) ?_
  show own_Goes _ _ _ _ _ _ _ (s₁.setTop (mkF m 0 #[.val (.ref t), .val (.int (3 : Int32)), .val (.int c_)] []))
  obtain ⟨T115, X115, e115, st115⟩ := getS X0 hx hZ hown (host := "") (hw _ (List.mem_of_getElem? (i := 94) rfl)) Via.refl e0 (SA.ext O0.2) (g := (mkF m 0 #[.val (.ref t), .val (.int (3 : Int32)), .val (.int c_)] [])) rfl (hb hby d19_0)
  refine own_go st115 ?_
  show own_Goes _ _ _ _ _ _ _ (T115.setTop (mkF m 3 #[.val (.ref t), .val (.int (3 : Int32)), .val (.int c_)] [(.int (1 : Int32))]))
  refine own_go (fun _ ww => XS.ifYes X115.here hx rfl (pc0 := 3) (pc' := 28) rfl (hb hby d19_3) rfl (own_if .ne (feq (by decide : ¬ ((1 : Int32) = (0 : Int32)))).2) (by decide) (by decide) ww) ?_
  show own_Goes _ _ _ _ _ _ _ (T115.setTop (mkF m 28 #[.val (.ref t), .val (.int (3 : Int32)), .val (.int c_)] []))
  refine own_go (fun _ ww => XS.iloadN X115.here hx rfl (hb hby d19_28) rfl  ww) ?_
  show own_Goes _ _ _ _ _ _ _ (T115.setTop (mkF m 29 #[.val (.ref t), .val (.int (3 : Int32)), .val (.int c_)] [(.int (3 : Int32))]))
  refine own_go (fun _ ww => XS.iconst X115.here hx rfl (hb hby d19_29) ww) ?_
  show own_Goes _ _ _ _ _ _ _ (T115.setTop (mkF m 30 #[.val (.ref t), .val (.int (3 : Int32)), .val (.int c_)] [(.int (1 : Int32)), (.int (3 : Int32))]))
  refine own_go (fun _ ww => XT.ishl X115.here hx rfl (hb hby d19_30) rfl ww) ?_
  show own_Goes _ _ _ _ _ _ _ (T115.setTop (mkF m 31 #[.val (.ref t), .val (.int (3 : Int32)), .val (.int c_)] [(.int ((3 : Int32) <<< ((1 : Int32) &&& 31)))]))
  rw [(by decide : ((3 : Int32) <<< ((1 : Int32) &&& 31)) = (6 : Int32))]
  show own_Goes _ _ _ _ _ _ _ (T115.setTop (mkF m 31 #[.val (.ref t), .val (.int (3 : Int32)), .val (.int c_)] [(.int (6 : Int32))]))
  refine own_go (fun _ ww => XS.istoreN X115.here hx rfl (hb hby d19_31) rfl (l' := #[.val (.ref t), .val (.int (6 : Int32)), .val (.int c_)]) rfl ww) ?_
  show own_Goes _ _ _ _ _ _ _ (T115.setTop (mkF m 32 #[.val (.ref t), .val (.int (6 : Int32)), .val (.int c_)] []))
  refine own_go (fun _ ww => XS.aloadN X115.here hx rfl (hb hby d19_32) rfl rfl ww) ?_
  show own_Goes _ _ _ _ _ _ _ (T115.setTop (mkF m 33 #[.val (.ref t), .val (.int (6 : Int32)), .val (.int c_)] [(.ref t)]))
  refine own_go (fun _ ww => XS.iloadN X115.here hx rfl (hb hby d19_33) rfl  ww) ?_
  show own_Goes _ _ _ _ _ _ _ (T115.setTop (mkF m 34 #[.val (.ref t), .val (.int (6 : Int32)), .val (.int c_)] [(.int (6 : Int32)), (.ref t)]))
  refine own_go (fun _ ww => XS.iinc X115.here hx rfl (hb hby d19_34) rfl (l' := #[.val (.ref t), .val (.int (7 : Int32)), .val (.int c_)]) rfl ww) ?_
  show own_Goes _ _ _ _ _ _ _ (T115.setTop (mkF m 37 #[.val (.ref t), .val (.int (7 : Int32)), .val (.int c_)] [(.int (6 : Int32)), (.ref t)]))
  refine own_go (fun _ ww => XS.iloadN X115.here hx rfl (hb hby d19_37) rfl  ww) ?_
  show own_Goes _ _ _ _ _ _ _ (T115.setTop (mkF m 38 #[.val (.ref t), .val (.int (7 : Int32)), .val (.int c_)] [(.int c_), (.int (6 : Int32)), (.ref t)]))
  obtain ⟨T116, X116, e116, st116⟩ := getS X115 hx hZ hown (host := "") (hw _ (List.mem_of_getElem? (i := 95) rfl)) Via.refl e115 (SH.ext O0.2) (g := (mkF m 38 #[.val (.ref t), .val (.int (7 : Int32)), .val (.int c_)] [(.int c_), (.int (6 : Int32)), (.ref t)])) rfl (hb hby d19_38)
  refine own_go st116 ?_
  show own_Goes _ _ _ _ _ _ _ (T116.setTop (mkF m 41 #[.val (.ref t), .val (.int (7 : Int32)), .val (.int c_)] [(.int (0 : Int32)), (.int c_), (.int (6 : Int32)), (.ref t)]))
  refine own_go (fun _ ww => XT.ishr X116.here hx rfl (hb hby d19_41) rfl ww) ?_
  show own_Goes _ _ _ _ _ _ _ (T116.setTop (mkF m 42 #[.val (.ref t), .val (.int (7 : Int32)), .val (.int c_)] [(.int (c_ >>> ((0 : Int32) &&& 31))), (.int (6 : Int32)), (.ref t)]))
  refine own_go (fun _ ww => XT.i2b X116.here hx rfl (hb hby d19_42) rfl ww) ?_
  show own_Goes _ _ _ _ _ _ _ (T116.setTop (mkF m 43 #[.val (.ref t), .val (.int (7 : Int32)), .val (.int c_)] [(.int ((c_ >>> ((0 : Int32) &&& 31)).toInt8.toInt32)), (.int (6 : Int32)), (.ref t)]))
  obtain ⟨cl117, Ar117, q117, S117, M117, H117, U117⟩ := id Vt
  obtain ⟨T117, h117, X117, e117, W117, st117⟩ := stB X116 hx hZ e116 Ar117 (j := (6 : Int32)) (inb_of S117 ⟨by decide, by decide⟩) (g := (mkF m 43 #[.val (.ref t), .val (.int (7 : Int32)), .val (.int c_)] [(.int ((c_ >>> ((0 : Int32) &&& 31)).toInt8.toInt32)), (.int (6 : Int32)), (.ref t)])) rfl rfl (hb hby d19_43)
  have nr117 : nar .byte ((c_ >>> ((0 : Int32) &&& 31)).toInt8.toInt32) = ((c_ >>> ((0 : Int32) &&& 31)).toInt8.toInt32) := (own_narb _)
  rw [nr117] at W117
  have ft117 : fits .byte (.int ((c_ >>> ((0 : Int32) &&& 31)).toInt8.toInt32)) = true := (fits_nar_byte _)
  have f118 : Arv Z h117 t kt .byte (12 : Int32) [(.int z0_), (.int z1_), (.int z2_), (.int z3_), (.int z4_), (.int z5_), (.int ((c_ >>> ((0 : Int32) &&& 31)).toInt8.toInt32)), (.int z7_), (.int z8_), (.int z9_), (.int z10_), (.int z11_)] (.int (0 : Int32)) := (Arv.set Ar117 q117 S117 M117 H117 U117 ft117 W117 6 rfl (Nat.le_of_ble_eq_true rfl))
  have N117 := Fr.snoc X117 N0 g_t
  have O117 := O0.wr W117 g_t
  have K117 := (Keep.refl h0 [t]).wr W117 (Or.inl (List.mem_of_getElem? (i := 0) rfl))
  refine own_go st117 ?_
  show own_Goes _ _ _ _ _ _ _ (T117.setTop (mkF m 44 #[.val (.ref t), .val (.int (7 : Int32)), .val (.int c_)] []))
  refine own_go (fun _ ww => XS.aloadN X117.here hx rfl (hb hby d19_44) rfl rfl ww) ?_
  show own_Goes _ _ _ _ _ _ _ (T117.setTop (mkF m 45 #[.val (.ref t), .val (.int (7 : Int32)), .val (.int c_)] [(.ref t)]))
  refine own_go (fun _ ww => XS.iloadN X117.here hx rfl (hb hby d19_45) rfl  ww) ?_
  show own_Goes _ _ _ _ _ _ _ (T117.setTop (mkF m 46 #[.val (.ref t), .val (.int (7 : Int32)), .val (.int c_)] [(.int (7 : Int32)), (.ref t)]))
  refine own_go (fun _ ww => XS.iloadN X117.here hx rfl (hb hby d19_46) rfl  ww) ?_
  show own_Goes _ _ _ _ _ _ _ (T117.setTop (mkF m 47 #[.val (.ref t), .val (.int (7 : Int32)), .val (.int c_)] [(.int c_), (.int (7 : Int32)), (.ref t)]))
  obtain ⟨T119, X119, e119, st119⟩ := getS X117 hx hZ hown (host := "") (hw _ (List.mem_of_getElem? (i := 96) rfl)) Via.refl e117 (SLo.ext O117.2) (g := (mkF m 47 #[.val (.ref t), .val (.int (7 : Int32)), .val (.int c_)] [(.int c_), (.int (7 : Int32)), (.ref t)])) rfl (hb hby d19_47)
  refine own_go st119 ?_
  show own_Goes _ _ _ _ _ _ _ (T119.setTop (mkF m 50 #[.val (.ref t), .val (.int (7 : Int32)), .val (.int c_)] [(.int (8 : Int32)), (.int c_), (.int (7 : Int32)), (.ref t)]))
  refine own_go (fun _ ww => XT.ishr X119.here hx rfl (hb hby d19_50) rfl ww) ?_
  show own_Goes _ _ _ _ _ _ _ (T119.setTop (mkF m 51 #[.val (.ref t), .val (.int (7 : Int32)), .val (.int c_)] [(.int (c_ >>> ((8 : Int32) &&& 31))), (.int (7 : Int32)), (.ref t)]))
  refine own_go (fun _ ww => XT.i2b X119.here hx rfl (hb hby d19_51) rfl ww) ?_
  show own_Goes _ _ _ _ _ _ _ (T119.setTop (mkF m 52 #[.val (.ref t), .val (.int (7 : Int32)), .val (.int c_)] [(.int ((c_ >>> ((8 : Int32) &&& 31)).toInt8.toInt32)), (.int (7 : Int32)), (.ref t)]))
  obtain ⟨cl120, Ar120, q120, S120, M120, H120, U120⟩ := id f118
  obtain ⟨T120, h120, X120, e120, W120, st120⟩ := stB X119 hx hZ e119 Ar120 (j := (7 : Int32)) (inb_of S120 ⟨by decide, by decide⟩) (g := (mkF m 52 #[.val (.ref t), .val (.int (7 : Int32)), .val (.int c_)] [(.int ((c_ >>> ((8 : Int32) &&& 31)).toInt8.toInt32)), (.int (7 : Int32)), (.ref t)])) rfl rfl (hb hby d19_52)
  have nr120 : nar .byte ((c_ >>> ((8 : Int32) &&& 31)).toInt8.toInt32) = ((c_ >>> ((8 : Int32) &&& 31)).toInt8.toInt32) := (own_narb _)
  rw [nr120] at W120
  have ft120 : fits .byte (.int ((c_ >>> ((8 : Int32) &&& 31)).toInt8.toInt32)) = true := (fits_nar_byte _)
  have f121 : Arv Z h120 t kt .byte (12 : Int32) [(.int z0_), (.int z1_), (.int z2_), (.int z3_), (.int z4_), (.int z5_), (.int ((c_ >>> ((0 : Int32) &&& 31)).toInt8.toInt32)), (.int ((c_ >>> ((8 : Int32) &&& 31)).toInt8.toInt32)), (.int z8_), (.int z9_), (.int z10_), (.int z11_)] (.int (0 : Int32)) := (Arv.set Ar120 q120 S120 M120 H120 U120 ft120 W120 7 rfl (Nat.le_of_ble_eq_true rfl))
  have N120 := Fr.snoc X120 N117 g_t
  have O120 := O117.wr W120 g_t
  have K120 := K117.wr W120 (Or.inl (List.mem_of_getElem? (i := 0) rfl))
  refine own_go st120 ?_
  show own_Goes _ _ _ _ _ _ _ (T120.setTop (mkF m 53 #[.val (.ref t), .val (.int (7 : Int32)), .val (.int c_)] []))
  exact own_out X120 hlk (v := none) (fun _ => rfl) (fun fs hr => X120.returnOut hx hret (hb hby d19_53) hr) e120 ⟨rfl, N120, K120, f121⟩ (by decide) (by decide)
theorem ef_putc4 (m : MethodId) (t : Addr) (kt : ClassId) (z0_ : Int32) (z1_ : Int32) (z2_ : Int32) (z3_ : Int32) (z4_ : Int32) (z5_ : Int32) (z6_ : Int32) (z7_ : Int32) (z8_ : Int32) (z9_ : Int32) (z10_ : Int32) (z11_ : Int32) (c_ : Int32) : entryFrame m #[(.ref t), (.int (4 : Int32)), (.int c_)] 3 = mkF m 0 #[.val (.ref t), .val (.int (4 : Int32)), .val (.int c_)] [] := by
  first | (simp [entryFrame, mkF, argsToLocals, Value.category]; done) | rfl
def Q_putc4 (Z : State) (t : Addr) (kt : ClassId) (z0_ : Int32) (z1_ : Int32) (z2_ : Int32) (z3_ : Int32) (z4_ : Int32) (z5_ : Int32) (z6_ : Int32) (z7_ : Int32) (z8_ : Int32) (z9_ : Int32) (z10_ : Int32) (z11_ : Int32) (c_ : Int32) (h0 : Heap) (n0 : Nat) (v : Option Value) (h : Heap) (L : List Loc) : Prop := v = none ∧ Fr n0 L ∧ Keep h0 h [t] ∧ Arv Z h t kt .byte (12 : Int32) [(.int z0_), (.int z1_), (.int z2_), (.int z3_), (.int z4_), (.int z5_), (.int z6_), (.int z7_), (.int ((c_ >>> ((0 : Int32) &&& 31)).toInt8.toInt32)), (.int ((c_ >>> ((8 : Int32) &&& 31)).toInt8.toInt32)), (.int z10_), (.int z11_)] (.int (0 : Int32))
set_option maxRecDepth 65536 in
set_option maxHeartbeats 40000000 in
theorem rm_putc4 (l : Launch) (Z : State) (a0 : Array Value) (hw : ∀ d ∈ tables_1, d.before a0 Z = true) (ws : List Jvm.Cond) (t : Addr) (kt : ClassId) (z0_ : Int32) (z1_ : Int32) (z2_ : Int32) (z3_ : Int32) (z4_ : Int32) (z5_ : Int32) (z6_ : Int32) (z7_ : Int32) (z8_ : Int32) (z9_ : Int32) (z10_ : Int32) (z11_ : Int32) (c_ : Int32) (h0 : Heap) (n0 : Nat) (O0 : Old Z n0 h0) (Vt : Arv Z h0 t kt .byte (12 : Int32) [(.int z0_), (.int z1_), (.int z2_), (.int z3_), (.int z4_), (.int z5_), (.int z6_), (.int z7_), (.int z8_), (.int z9_), (.int z10_), (.int z11_)] (.int (0 : Int32))) (g_t : n0 ≤ t) (SA : Sta Z Z.heap "java/lang/StringUTF16" "$assertionsDisabled" "Z" (.int (1 : Int32))) (SH : Sta Z Z.heap "java/lang/StringUTF16" "HI_BYTE_SHIFT" "I" (.int (0 : Int32))) (SLo : Sta Z Z.heap "java/lang/StringUTF16" "LO_BYTE_SHIFT" "I" (.int (8 : Int32))) :
    MetFree l (⟨"java/lang/StringUTF16", "putChar", "([BII)V"⟩ : MethodName) (head1 (Jvm.Cond.code (⟨"java/lang/StringUTF16", "putChar", "([BII)V"⟩ : MethodName) jdk_52_method_4_code 3 none :: ws) ({ frames := 0, cells := 0, slots := 0, locals := 0 } : Room)) (fun av_ U => av_ = #[(.ref t), (.int (4 : Int32)), (.int c_)] ∧ Z.Warmed39 U.vm ∧ U.heap = h0) (fun _ _ _ _ _ => True) (fun _ U o_ U' => ∃ v L, o_ = .returned v ∧ Q_putc4 Z t kt z0_ z1_ z2_ z3_ z4_ z5_ z6_ z7_ z8_ z9_ z10_ z11_ c_ h0 n0 v U'.heap L ∧ FrameEnd U o_ U' L ({ frames := 0, cells := 0, slots := 0, locals := 0 } : Room).cells ({ frames := 0, cells := 0, slots := 0, locals := 0 } : Room).slots) := by
  refine MetFree.of_bodySF (plainFor_of_name pn_1) hisR ?_
  intro p e s m args below meth c s₁ Bd hml0 hP hK
  obtain ⟨rfl, hZ, hh⟩ := hP
  have hx := Bd.exec
  have hby := Bd.bytes
  have hml : c.maxLocals = 3 := hml0
  have hown : s.vm.findClass "java/lang/StringUTF16" = some m.cls := findClass_of_methodNamed Bd.named
  have hnm := (name_of_methodNamed Bd.named Bd.method).1
  have hlk := own_lk Bd
  have hret := Bd.returns
  have X0 : Stand p l e ({ frames := 0, cells := 0, slots := 0, locals := 0 } : Room) s m #[(.ref t), (.int (4 : Int32)), (.int c_)] below meth c s₁ [] 0 0 := Stand.of_body Bd
  have e0 : s₁.heap = h0 := by rw [← hh, Bd.state]; rfl
  have N0 := Fr.nil n0
  show own_Goes p e below s (Q_putc4 Z t kt z0_ z1_ z2_ z3_ z4_ z5_ z6_ z7_ z8_ z9_ z10_ z11_ c_ h0 n0) ({ frames := 0, cells := 0, slots := 0, locals := 0 } : Room).cells ({ frames := 0, cells := 0, slots := 0, locals := 0 } : Room).slots (s₁.setTop (entryFrame m #[(.ref t), (.int (4 : Int32)), (.int c_)] 3))
  refine own_go (fun _ ww => castTop (ef_putc4 m t kt z0_ z1_ z2_ z3_ z4_ z5_ z6_ z7_ z8_ z9_ z10_ z11_ c_) ww) ?_
  show own_Goes _ _ _ _ _ _ _ (s₁.setTop (mkF m 0 #[.val (.ref t), .val (.int (4 : Int32)), .val (.int c_)] []))
  obtain ⟨T122, X122, e122, st122⟩ := getS X0 hx hZ hown (host := "") (hw _ (List.mem_of_getElem? (i := 94) rfl)) Via.refl e0 (SA.ext O0.2) (g := (mkF m 0 #[.val (.ref t), .val (.int (4 : Int32)), .val (.int c_)] [])) rfl (hb hby d19_0)
  refine own_go st122 ?_
  show own_Goes _ _ _ _ _ _ _ (T122.setTop (mkF m 3 #[.val (.ref t), .val (.int (4 : Int32)), .val (.int c_)] [(.int (1 : Int32))]))
  refine own_go (fun _ ww => XS.ifYes X122.here hx rfl (pc0 := 3) (pc' := 28) rfl (hb hby d19_3) rfl (own_if .ne (feq (by decide : ¬ ((1 : Int32) = (0 : Int32)))).2) (by decide) (by decide) ww) ?_
  show own_Goes _ _ _ _ _ _ _ (T122.setTop (mkF m 28 #[.val (.ref t), .val (.int (4 : Int32)), .val (.int c_)] []))
  refine own_go (fun _ ww => XS.iloadN X122.here hx rfl (hb hby d19_28) rfl  ww) ?_
  show own_Goes _ _ _ _ _ _ _ (T122.setTop (mkF m 29 #[.val (.ref t), .val (.int (4 : Int32)), .val (.int c_)] [(.int (4 : Int32))]))
  refine own_go (fun _ ww => XS.iconst X122.here hx rfl (hb hby d19_29) ww) ?_
  show own_Goes _ _ _ _ _ _ _ (T122.setTop (mkF m 30 #[.val (.ref t), .val (.int (4 : Int32)), .val (.int c_)] [(.int (1 : Int32)), (.int (4 : Int32))]))
  refine own_go (fun _ ww => XT.ishl X122.here hx rfl (hb hby d19_30) rfl ww) ?_
  show own_Goes _ _ _ _ _ _ _ (T122.setTop (mkF m 31 #[.val (.ref t), .val (.int (4 : Int32)), .val (.int c_)] [(.int ((4 : Int32) <<< ((1 : Int32) &&& 31)))]))
  rw [(by decide : ((4 : Int32) <<< ((1 : Int32) &&& 31)) = (8 : Int32))]
  show own_Goes _ _ _ _ _ _ _ (T122.setTop (mkF m 31 #[.val (.ref t), .val (.int (4 : Int32)), .val (.int c_)] [(.int (8 : Int32))]))
  refine own_go (fun _ ww => XS.istoreN X122.here hx rfl (hb hby d19_31) rfl (l' := #[.val (.ref t), .val (.int (8 : Int32)), .val (.int c_)]) rfl ww) ?_
  show own_Goes _ _ _ _ _ _ _ (T122.setTop (mkF m 32 #[.val (.ref t), .val (.int (8 : Int32)), .val (.int c_)] []))
  refine own_go (fun _ ww => XS.aloadN X122.here hx rfl (hb hby d19_32) rfl rfl ww) ?_
  show own_Goes _ _ _ _ _ _ _ (T122.setTop (mkF m 33 #[.val (.ref t), .val (.int (8 : Int32)), .val (.int c_)] [(.ref t)]))
  refine own_go (fun _ ww => XS.iloadN X122.here hx rfl (hb hby d19_33) rfl  ww) ?_
  show own_Goes _ _ _ _ _ _ _ (T122.setTop (mkF m 34 #[.val (.ref t), .val (.int (8 : Int32)), .val (.int c_)] [(.int (8 : Int32)), (.ref t)]))
  refine own_go (fun _ ww => XS.iinc X122.here hx rfl (hb hby d19_34) rfl (l' := #[.val (.ref t), .val (.int (9 : Int32)), .val (.int c_)]) rfl ww) ?_
  show own_Goes _ _ _ _ _ _ _ (T122.setTop (mkF m 37 #[.val (.ref t), .val (.int (9 : Int32)), .val (.int c_)] [(.int (8 : Int32)), (.ref t)]))
  refine own_go (fun _ ww => XS.iloadN X122.here hx rfl (hb hby d19_37) rfl  ww) ?_
  show own_Goes _ _ _ _ _ _ _ (T122.setTop (mkF m 38 #[.val (.ref t), .val (.int (9 : Int32)), .val (.int c_)] [(.int c_), (.int (8 : Int32)), (.ref t)]))
  obtain ⟨T123, X123, e123, st123⟩ := getS X122 hx hZ hown (host := "") (hw _ (List.mem_of_getElem? (i := 95) rfl)) Via.refl e122 (SH.ext O0.2) (g := (mkF m 38 #[.val (.ref t), .val (.int (9 : Int32)), .val (.int c_)] [(.int c_), (.int (8 : Int32)), (.ref t)])) rfl (hb hby d19_38)
  refine own_go st123 ?_
  show own_Goes _ _ _ _ _ _ _ (T123.setTop (mkF m 41 #[.val (.ref t), .val (.int (9 : Int32)), .val (.int c_)] [(.int (0 : Int32)), (.int c_), (.int (8 : Int32)), (.ref t)]))
  refine own_go (fun _ ww => XT.ishr X123.here hx rfl (hb hby d19_41) rfl ww) ?_
  show own_Goes _ _ _ _ _ _ _ (T123.setTop (mkF m 42 #[.val (.ref t), .val (.int (9 : Int32)), .val (.int c_)] [(.int (c_ >>> ((0 : Int32) &&& 31))), (.int (8 : Int32)), (.ref t)]))
  refine own_go (fun _ ww => XT.i2b X123.here hx rfl (hb hby d19_42) rfl ww) ?_
  show own_Goes _ _ _ _ _ _ _ (T123.setTop (mkF m 43 #[.val (.ref t), .val (.int (9 : Int32)), .val (.int c_)] [(.int ((c_ >>> ((0 : Int32) &&& 31)).toInt8.toInt32)), (.int (8 : Int32)), (.ref t)]))
  obtain ⟨cl124, Ar124, q124, S124, M124, H124, U124⟩ := id Vt
  obtain ⟨T124, h124, X124, e124, W124, st124⟩ := stB X123 hx hZ e123 Ar124 (j := (8 : Int32)) (inb_of S124 ⟨by decide, by decide⟩) (g := (mkF m 43 #[.val (.ref t), .val (.int (9 : Int32)), .val (.int c_)] [(.int ((c_ >>> ((0 : Int32) &&& 31)).toInt8.toInt32)), (.int (8 : Int32)), (.ref t)])) rfl rfl (hb hby d19_43)
  have nr124 : nar .byte ((c_ >>> ((0 : Int32) &&& 31)).toInt8.toInt32) = ((c_ >>> ((0 : Int32) &&& 31)).toInt8.toInt32) := (own_narb _)
  rw [nr124] at W124
  have ft124 : fits .byte (.int ((c_ >>> ((0 : Int32) &&& 31)).toInt8.toInt32)) = true := (fits_nar_byte _)
  have f125 : Arv Z h124 t kt .byte (12 : Int32) [(.int z0_), (.int z1_), (.int z2_), (.int z3_), (.int z4_), (.int z5_), (.int z6_), (.int z7_), (.int ((c_ >>> ((0 : Int32) &&& 31)).toInt8.toInt32)), (.int z9_), (.int z10_), (.int z11_)] (.int (0 : Int32)) := (Arv.set Ar124 q124 S124 M124 H124 U124 ft124 W124 8 rfl (Nat.le_of_ble_eq_true rfl))
  have N124 := Fr.snoc X124 N0 g_t
  have O124 := O0.wr W124 g_t
  have K124 := (Keep.refl h0 [t]).wr W124 (Or.inl (List.mem_of_getElem? (i := 0) rfl))
  refine own_go st124 ?_
  show own_Goes _ _ _ _ _ _ _ (T124.setTop (mkF m 44 #[.val (.ref t), .val (.int (9 : Int32)), .val (.int c_)] []))
  refine own_go (fun _ ww => XS.aloadN X124.here hx rfl (hb hby d19_44) rfl rfl ww) ?_
  show own_Goes _ _ _ _ _ _ _ (T124.setTop (mkF m 45 #[.val (.ref t), .val (.int (9 : Int32)), .val (.int c_)] [(.ref t)]))
  refine own_go (fun _ ww => XS.iloadN X124.here hx rfl (hb hby d19_45) rfl  ww) ?_
  show own_Goes _ _ _ _ _ _ _ (T124.setTop (mkF m 46 #[.val (.ref t), .val (.int (9 : Int32)), .val (.int c_)] [(.int (9 : Int32)), (.ref t)]))
  refine own_go (fun _ ww => XS.iloadN X124.here hx rfl (hb hby d19_46) rfl  ww) ?_
  show own_Goes _ _ _ _ _ _ _ (T124.setTop (mkF m 47 #[.val (.ref t), .val (.int (9 : Int32)), .val (.int c_)] [(.int c_), (.int (9 : Int32)), (.ref t)]))
  obtain ⟨T126, X126, e126, st126⟩ := getS X124 hx hZ hown (host := "") (hw _ (List.mem_of_getElem? (i := 96) rfl)) Via.refl e124 (SLo.ext O124.2) (g := (mkF m 47 #[.val (.ref t), .val (.int (9 : Int32)), .val (.int c_)] [(.int c_), (.int (9 : Int32)), (.ref t)])) rfl (hb hby d19_47)
  refine own_go st126 ?_
  show own_Goes _ _ _ _ _ _ _ (T126.setTop (mkF m 50 #[.val (.ref t), .val (.int (9 : Int32)), .val (.int c_)] [(.int (8 : Int32)), (.int c_), (.int (9 : Int32)), (.ref t)]))
  refine own_go (fun _ ww => XT.ishr X126.here hx rfl (hb hby d19_50) rfl ww) ?_
  show own_Goes _ _ _ _ _ _ _ (T126.setTop (mkF m 51 #[.val (.ref t), .val (.int (9 : Int32)), .val (.int c_)] [(.int (c_ >>> ((8 : Int32) &&& 31))), (.int (9 : Int32)), (.ref t)]))
  refine own_go (fun _ ww => XT.i2b X126.here hx rfl (hb hby d19_51) rfl ww) ?_
  show own_Goes _ _ _ _ _ _ _ (T126.setTop (mkF m 52 #[.val (.ref t), .val (.int (9 : Int32)), .val (.int c_)] [(.int ((c_ >>> ((8 : Int32) &&& 31)).toInt8.toInt32)), (.int (9 : Int32)), (.ref t)]))
  obtain ⟨cl127, Ar127, q127, S127, M127, H127, U127⟩ := id f125
  obtain ⟨T127, h127, X127, e127, W127, st127⟩ := stB X126 hx hZ e126 Ar127 (j := (9 : Int32)) (inb_of S127 ⟨by decide, by decide⟩) (g := (mkF m 52 #[.val (.ref t), .val (.int (9 : Int32)), .val (.int c_)] [(.int ((c_ >>> ((8 : Int32) &&& 31)).toInt8.toInt32)), (.int (9 : Int32)), (.ref t)])) rfl rfl (hb hby d19_52)
  have nr127 : nar .byte ((c_ >>> ((8 : Int32) &&& 31)).toInt8.toInt32) = ((c_ >>> ((8 : Int32) &&& 31)).toInt8.toInt32) := (own_narb _)
  rw [nr127] at W127
  have ft127 : fits .byte (.int ((c_ >>> ((8 : Int32) &&& 31)).toInt8.toInt32)) = true := (fits_nar_byte _)
  have f128 : Arv Z h127 t kt .byte (12 : Int32) [(.int z0_), (.int z1_), (.int z2_), (.int z3_), (.int z4_), (.int z5_), (.int z6_), (.int z7_), (.int ((c_ >>> ((0 : Int32) &&& 31)).toInt8.toInt32)), (.int ((c_ >>> ((8 : Int32) &&& 31)).toInt8.toInt32)), (.int z10_), (.int z11_)] (.int (0 : Int32)) := (Arv.set Ar127 q127 S127 M127 H127 U127 ft127 W127 9 rfl (Nat.le_of_ble_eq_true rfl))
  have N127 := Fr.snoc X127 N124 g_t
  have O127 := O124.wr W127 g_t
  have K127 := K124.wr W127 (Or.inl (List.mem_of_getElem? (i := 0) rfl))
  refine own_go st127 ?_
  show own_Goes _ _ _ _ _ _ _ (T127.setTop (mkF m 53 #[.val (.ref t), .val (.int (9 : Int32)), .val (.int c_)] []))
  exact own_out X127 hlk (v := none) (fun _ => rfl) (fun fs hr => X127.returnOut hx hret (hb hby d19_53) hr) e127 ⟨rfl, N127, K127, f128⟩ (by decide) (by decide)
theorem ef_putc5 (m : MethodId) (t : Addr) (kt : ClassId) (z0_ : Int32) (z1_ : Int32) (z2_ : Int32) (z3_ : Int32) (z4_ : Int32) (z5_ : Int32) (z6_ : Int32) (z7_ : Int32) (z8_ : Int32) (z9_ : Int32) (z10_ : Int32) (z11_ : Int32) (c_ : Int32) : entryFrame m #[(.ref t), (.int (5 : Int32)), (.int c_)] 3 = mkF m 0 #[.val (.ref t), .val (.int (5 : Int32)), .val (.int c_)] [] := by
  first | (simp [entryFrame, mkF, argsToLocals, Value.category]; done) | rfl
def Q_putc5 (Z : State) (t : Addr) (kt : ClassId) (z0_ : Int32) (z1_ : Int32) (z2_ : Int32) (z3_ : Int32) (z4_ : Int32) (z5_ : Int32) (z6_ : Int32) (z7_ : Int32) (z8_ : Int32) (z9_ : Int32) (z10_ : Int32) (z11_ : Int32) (c_ : Int32) (h0 : Heap) (n0 : Nat) (v : Option Value) (h : Heap) (L : List Loc) : Prop := v = none ∧ Fr n0 L ∧ Keep h0 h [t] ∧ Arv Z h t kt .byte (12 : Int32) [(.int z0_), (.int z1_), (.int z2_), (.int z3_), (.int z4_), (.int z5_), (.int z6_), (.int z7_), (.int z8_), (.int z9_), (.int ((c_ >>> ((0 : Int32) &&& 31)).toInt8.toInt32)), (.int ((c_ >>> ((8 : Int32) &&& 31)).toInt8.toInt32))] (.int (0 : Int32))
set_option maxRecDepth 65536 in
set_option maxHeartbeats 40000000 in
theorem rm_putc5 (l : Launch) (Z : State) (a0 : Array Value) (hw : ∀ d ∈ tables_1, d.before a0 Z = true) (ws : List Jvm.Cond) (t : Addr) (kt : ClassId) (z0_ : Int32) (z1_ : Int32) (z2_ : Int32) (z3_ : Int32) (z4_ : Int32) (z5_ : Int32) (z6_ : Int32) (z7_ : Int32) (z8_ : Int32) (z9_ : Int32) (z10_ : Int32) (z11_ : Int32) (c_ : Int32) (h0 : Heap) (n0 : Nat) (O0 : Old Z n0 h0) (Vt : Arv Z h0 t kt .byte (12 : Int32) [(.int z0_), (.int z1_), (.int z2_), (.int z3_), (.int z4_), (.int z5_), (.int z6_), (.int z7_), (.int z8_), (.int z9_), (.int z10_), (.int z11_)] (.int (0 : Int32))) (g_t : n0 ≤ t) (SA : Sta Z Z.heap "java/lang/StringUTF16" "$assertionsDisabled" "Z" (.int (1 : Int32))) (SH : Sta Z Z.heap "java/lang/StringUTF16" "HI_BYTE_SHIFT" "I" (.int (0 : Int32))) (SLo : Sta Z Z.heap "java/lang/StringUTF16" "LO_BYTE_SHIFT" "I" (.int (8 : Int32))) :
    MetFree l (⟨"java/lang/StringUTF16", "putChar", "([BII)V"⟩ : MethodName) (head1 (Jvm.Cond.code (⟨"java/lang/StringUTF16", "putChar", "([BII)V"⟩ : MethodName) jdk_52_method_4_code 3 none :: ws) ({ frames := 0, cells := 0, slots := 0, locals := 0 } : Room)) (fun av_ U => av_ = #[(.ref t), (.int (5 : Int32)), (.int c_)] ∧ Z.Warmed39 U.vm ∧ U.heap = h0) (fun _ _ _ _ _ => True) (fun _ U o_ U' => ∃ v L, o_ = .returned v ∧ Q_putc5 Z t kt z0_ z1_ z2_ z3_ z4_ z5_ z6_ z7_ z8_ z9_ z10_ z11_ c_ h0 n0 v U'.heap L ∧ FrameEnd U o_ U' L ({ frames := 0, cells := 0, slots := 0, locals := 0 } : Room).cells ({ frames := 0, cells := 0, slots := 0, locals := 0 } : Room).slots) := by
  refine MetFree.of_bodySF (plainFor_of_name pn_1) hisR ?_
  intro p e s m args below meth c s₁ Bd hml0 hP hK
  obtain ⟨rfl, hZ, hh⟩ := hP
  have hx := Bd.exec
  have hby := Bd.bytes
  have hml : c.maxLocals = 3 := hml0
  have hown : s.vm.findClass "java/lang/StringUTF16" = some m.cls := findClass_of_methodNamed Bd.named
  have hnm := (name_of_methodNamed Bd.named Bd.method).1
  have hlk := own_lk Bd
  have hret := Bd.returns
  have X0 : Stand p l e ({ frames := 0, cells := 0, slots := 0, locals := 0 } : Room) s m #[(.ref t), (.int (5 : Int32)), (.int c_)] below meth c s₁ [] 0 0 := Stand.of_body Bd
  have e0 : s₁.heap = h0 := by rw [← hh, Bd.state]; rfl
  have N0 := Fr.nil n0
  show own_Goes p e below s (Q_putc5 Z t kt z0_ z1_ z2_ z3_ z4_ z5_ z6_ z7_ z8_ z9_ z10_ z11_ c_ h0 n0) ({ frames := 0, cells := 0, slots := 0, locals := 0 } : Room).cells ({ frames := 0, cells := 0, slots := 0, locals := 0 } : Room).slots (s₁.setTop (entryFrame m #[(.ref t), (.int (5 : Int32)), (.int c_)] 3))
  refine own_go (fun _ ww => castTop (ef_putc5 m t kt z0_ z1_ z2_ z3_ z4_ z5_ z6_ z7_ z8_ z9_ z10_ z11_ c_) ww) ?_
  show own_Goes _ _ _ _ _ _ _ (s₁.setTop (mkF m 0 #[.val (.ref t), .val (.int (5 : Int32)), .val (.int c_)] []))
  obtain ⟨T129, X129, e129, st129⟩ := getS X0 hx hZ hown (host := "") (hw _ (List.mem_of_getElem? (i := 94) rfl)) Via.refl e0 (SA.ext O0.2) (g := (mkF m 0 #[.val (.ref t), .val (.int (5 : Int32)), .val (.int c_)] [])) rfl (hb hby d19_0)
  refine own_go st129 ?_
  show own_Goes _ _ _ _ _ _ _ (T129.setTop (mkF m 3 #[.val (.ref t), .val (.int (5 : Int32)), .val (.int c_)] [(.int (1 : Int32))]))
  refine own_go (fun _ ww => XS.ifYes X129.here hx rfl (pc0 := 3) (pc' := 28) rfl (hb hby d19_3) rfl (own_if .ne (feq (by decide : ¬ ((1 : Int32) = (0 : Int32)))).2) (by decide) (by decide) ww) ?_
  show own_Goes _ _ _ _ _ _ _ (T129.setTop (mkF m 28 #[.val (.ref t), .val (.int (5 : Int32)), .val (.int c_)] []))
  refine own_go (fun _ ww => XS.iloadN X129.here hx rfl (hb hby d19_28) rfl  ww) ?_
  show own_Goes _ _ _ _ _ _ _ (T129.setTop (mkF m 29 #[.val (.ref t), .val (.int (5 : Int32)), .val (.int c_)] [(.int (5 : Int32))]))
  refine own_go (fun _ ww => XS.iconst X129.here hx rfl (hb hby d19_29) ww) ?_
  show own_Goes _ _ _ _ _ _ _ (T129.setTop (mkF m 30 #[.val (.ref t), .val (.int (5 : Int32)), .val (.int c_)] [(.int (1 : Int32)), (.int (5 : Int32))]))
  refine own_go (fun _ ww => XT.ishl X129.here hx rfl (hb hby d19_30) rfl ww) ?_
  show own_Goes _ _ _ _ _ _ _ (T129.setTop (mkF m 31 #[.val (.ref t), .val (.int (5 : Int32)), .val (.int c_)] [(.int ((5 : Int32) <<< ((1 : Int32) &&& 31)))]))
  rw [(by decide : ((5 : Int32) <<< ((1 : Int32) &&& 31)) = (10 : Int32))]
  show own_Goes _ _ _ _ _ _ _ (T129.setTop (mkF m 31 #[.val (.ref t), .val (.int (5 : Int32)), .val (.int c_)] [(.int (10 : Int32))]))
  refine own_go (fun _ ww => XS.istoreN X129.here hx rfl (hb hby d19_31) rfl (l' := #[.val (.ref t), .val (.int (10 : Int32)), .val (.int c_)]) rfl ww) ?_
  show own_Goes _ _ _ _ _ _ _ (T129.setTop (mkF m 32 #[.val (.ref t), .val (.int (10 : Int32)), .val (.int c_)] []))
  refine own_go (fun _ ww => XS.aloadN X129.here hx rfl (hb hby d19_32) rfl rfl ww) ?_
  show own_Goes _ _ _ _ _ _ _ (T129.setTop (mkF m 33 #[.val (.ref t), .val (.int (10 : Int32)), .val (.int c_)] [(.ref t)]))
  refine own_go (fun _ ww => XS.iloadN X129.here hx rfl (hb hby d19_33) rfl  ww) ?_
  show own_Goes _ _ _ _ _ _ _ (T129.setTop (mkF m 34 #[.val (.ref t), .val (.int (10 : Int32)), .val (.int c_)] [(.int (10 : Int32)), (.ref t)]))
  refine own_go (fun _ ww => XS.iinc X129.here hx rfl (hb hby d19_34) rfl (l' := #[.val (.ref t), .val (.int (11 : Int32)), .val (.int c_)]) rfl ww) ?_
  show own_Goes _ _ _ _ _ _ _ (T129.setTop (mkF m 37 #[.val (.ref t), .val (.int (11 : Int32)), .val (.int c_)] [(.int (10 : Int32)), (.ref t)]))
  refine own_go (fun _ ww => XS.iloadN X129.here hx rfl (hb hby d19_37) rfl  ww) ?_
  show own_Goes _ _ _ _ _ _ _ (T129.setTop (mkF m 38 #[.val (.ref t), .val (.int (11 : Int32)), .val (.int c_)] [(.int c_), (.int (10 : Int32)), (.ref t)]))
  obtain ⟨T130, X130, e130, st130⟩ := getS X129 hx hZ hown (host := "") (hw _ (List.mem_of_getElem? (i := 95) rfl)) Via.refl e129 (SH.ext O0.2) (g := (mkF m 38 #[.val (.ref t), .val (.int (11 : Int32)), .val (.int c_)] [(.int c_), (.int (10 : Int32)), (.ref t)])) rfl (hb hby d19_38)
  refine own_go st130 ?_
  show own_Goes _ _ _ _ _ _ _ (T130.setTop (mkF m 41 #[.val (.ref t), .val (.int (11 : Int32)), .val (.int c_)] [(.int (0 : Int32)), (.int c_), (.int (10 : Int32)), (.ref t)]))
  refine own_go (fun _ ww => XT.ishr X130.here hx rfl (hb hby d19_41) rfl ww) ?_
  show own_Goes _ _ _ _ _ _ _ (T130.setTop (mkF m 42 #[.val (.ref t), .val (.int (11 : Int32)), .val (.int c_)] [(.int (c_ >>> ((0 : Int32) &&& 31))), (.int (10 : Int32)), (.ref t)]))
  refine own_go (fun _ ww => XT.i2b X130.here hx rfl (hb hby d19_42) rfl ww) ?_
  show own_Goes _ _ _ _ _ _ _ (T130.setTop (mkF m 43 #[.val (.ref t), .val (.int (11 : Int32)), .val (.int c_)] [(.int ((c_ >>> ((0 : Int32) &&& 31)).toInt8.toInt32)), (.int (10 : Int32)), (.ref t)]))
  obtain ⟨cl131, Ar131, q131, S131, M131, H131, U131⟩ := id Vt
  obtain ⟨T131, h131, X131, e131, W131, st131⟩ := stB X130 hx hZ e130 Ar131 (j := (10 : Int32)) (inb_of S131 ⟨by decide, by decide⟩) (g := (mkF m 43 #[.val (.ref t), .val (.int (11 : Int32)), .val (.int c_)] [(.int ((c_ >>> ((0 : Int32) &&& 31)).toInt8.toInt32)), (.int (10 : Int32)), (.ref t)])) rfl rfl (hb hby d19_43)
  have nr131 : nar .byte ((c_ >>> ((0 : Int32) &&& 31)).toInt8.toInt32) = ((c_ >>> ((0 : Int32) &&& 31)).toInt8.toInt32) := (own_narb _)
  rw [nr131] at W131
  have ft131 : fits .byte (.int ((c_ >>> ((0 : Int32) &&& 31)).toInt8.toInt32)) = true := (fits_nar_byte _)
  have f132 : Arv Z h131 t kt .byte (12 : Int32) [(.int z0_), (.int z1_), (.int z2_), (.int z3_), (.int z4_), (.int z5_), (.int z6_), (.int z7_), (.int z8_), (.int z9_), (.int ((c_ >>> ((0 : Int32) &&& 31)).toInt8.toInt32)), (.int z11_)] (.int (0 : Int32)) := (Arv.set Ar131 q131 S131 M131 H131 U131 ft131 W131 10 rfl (Nat.le_of_ble_eq_true rfl))
  have N131 := Fr.snoc X131 N0 g_t
  have O131 := O0.wr W131 g_t
  have K131 := (Keep.refl h0 [t]).wr W131 (Or.inl (List.mem_of_getElem? (i := 0) rfl))
  refine own_go st131 ?_
  show own_Goes _ _ _ _ _ _ _ (T131.setTop (mkF m 44 #[.val (.ref t), .val (.int (11 : Int32)), .val (.int c_)] []))
  refine own_go (fun _ ww => XS.aloadN X131.here hx rfl (hb hby d19_44) rfl rfl ww) ?_
  show own_Goes _ _ _ _ _ _ _ (T131.setTop (mkF m 45 #[.val (.ref t), .val (.int (11 : Int32)), .val (.int c_)] [(.ref t)]))
  refine own_go (fun _ ww => XS.iloadN X131.here hx rfl (hb hby d19_45) rfl  ww) ?_
  show own_Goes _ _ _ _ _ _ _ (T131.setTop (mkF m 46 #[.val (.ref t), .val (.int (11 : Int32)), .val (.int c_)] [(.int (11 : Int32)), (.ref t)]))
  refine own_go (fun _ ww => XS.iloadN X131.here hx rfl (hb hby d19_46) rfl  ww) ?_
  show own_Goes _ _ _ _ _ _ _ (T131.setTop (mkF m 47 #[.val (.ref t), .val (.int (11 : Int32)), .val (.int c_)] [(.int c_), (.int (11 : Int32)), (.ref t)]))
  obtain ⟨T133, X133, e133, st133⟩ := getS X131 hx hZ hown (host := "") (hw _ (List.mem_of_getElem? (i := 96) rfl)) Via.refl e131 (SLo.ext O131.2) (g := (mkF m 47 #[.val (.ref t), .val (.int (11 : Int32)), .val (.int c_)] [(.int c_), (.int (11 : Int32)), (.ref t)])) rfl (hb hby d19_47)
  refine own_go st133 ?_
  show own_Goes _ _ _ _ _ _ _ (T133.setTop (mkF m 50 #[.val (.ref t), .val (.int (11 : Int32)), .val (.int c_)] [(.int (8 : Int32)), (.int c_), (.int (11 : Int32)), (.ref t)]))
  refine own_go (fun _ ww => XT.ishr X133.here hx rfl (hb hby d19_50) rfl ww) ?_
  show own_Goes _ _ _ _ _ _ _ (T133.setTop (mkF m 51 #[.val (.ref t), .val (.int (11 : Int32)), .val (.int c_)] [(.int (c_ >>> ((8 : Int32) &&& 31))), (.int (11 : Int32)), (.ref t)]))
  refine own_go (fun _ ww => XT.i2b X133.here hx rfl (hb hby d19_51) rfl ww) ?_
  show own_Goes _ _ _ _ _ _ _ (T133.setTop (mkF m 52 #[.val (.ref t), .val (.int (11 : Int32)), .val (.int c_)] [(.int ((c_ >>> ((8 : Int32) &&& 31)).toInt8.toInt32)), (.int (11 : Int32)), (.ref t)]))
  obtain ⟨cl134, Ar134, q134, S134, M134, H134, U134⟩ := id f132
  obtain ⟨T134, h134, X134, e134, W134, st134⟩ := stB X133 hx hZ e133 Ar134 (j := (11 : Int32)) (inb_of S134 ⟨by decide, by decide⟩) (g := (mkF m 52 #[.val (.ref t), .val (.int (11 : Int32)), .val (.int c_)] [(.int ((c_ >>> ((8 : Int32) &&& 31)).toInt8.toInt32)), (.int (11 : Int32)), (.ref t)])) rfl rfl (hb hby d19_52)
  have nr134 : nar .byte ((c_ >>> ((8 : Int32) &&& 31)).toInt8.toInt32) = ((c_ >>> ((8 : Int32) &&& 31)).toInt8.toInt32) := (own_narb _)
  rw [nr134] at W134
  have ft134 : fits .byte (.int ((c_ >>> ((8 : Int32) &&& 31)).toInt8.toInt32)) = true := (fits_nar_byte _)
  have f135 : Arv Z h134 t kt .byte (12 : Int32) [(.int z0_), (.int z1_), (.int z2_), (.int z3_), (.int z4_), (.int z5_), (.int z6_), (.int z7_), (.int z8_), (.int z9_), (.int ((c_ >>> ((0 : Int32) &&& 31)).toInt8.toInt32)), (.int ((c_ >>> ((8 : Int32) &&& 31)).toInt8.toInt32))] (.int (0 : Int32)) := (Arv.set Ar134 q134 S134 M134 H134 U134 ft134 W134 11 rfl (Nat.le_of_ble_eq_true rfl))
  have N134 := Fr.snoc X134 N131 g_t
  have O134 := O131.wr W134 g_t
  have K134 := K131.wr W134 (Or.inl (List.mem_of_getElem? (i := 0) rfl))
  refine own_go st134 ?_
  show own_Goes _ _ _ _ _ _ _ (T134.setTop (mkF m 53 #[.val (.ref t), .val (.int (11 : Int32)), .val (.int c_)] []))
  exact own_out X134 hlk (v := none) (fun _ => rfl) (fun fs hr => X134.returnOut hx hret (hb hby d19_53) hr) e134 ⟨rfl, N134, K134, f135⟩ (by decide) (by decide)
theorem d16_0 : decode jdk_52_method_14_code 0 = .ok (.iload_n 2, 1) := by decide +kernel
theorem d16_1 : decode jdk_52_method_14_code 1 = .ok (.invokestatic 107, 3) := by decide +kernel
theorem d16_4 : decode jdk_52_method_14_code 4 = .ok (.astore_n 3, 1) := by decide +kernel
theorem d16_5 : decode jdk_52_method_14_code 5 = .ok (.iconst 0, 1) := by decide +kernel
theorem d16_6 : decode jdk_52_method_14_code 6 = .ok (.istore 4, 2) := by decide +kernel
theorem d16_8 : decode jdk_52_method_14_code 8 = .ok (.iload 4, 2) := by decide +kernel
theorem d16_10 : decode jdk_52_method_14_code 10 = .ok (.iload_n 2, 1) := by decide +kernel
theorem d16_11 : decode jdk_52_method_14_code 11 = .ok (.if_icmp .ge 21, 3) := by decide +kernel
theorem d16_14 : decode jdk_52_method_14_code 14 = .ok (.aload_n 3, 1) := by decide +kernel
theorem d16_15 : decode jdk_52_method_14_code 15 = .ok (.iload 4, 2) := by decide +kernel
theorem d16_17 : decode jdk_52_method_14_code 17 = .ok (.aload_n 0, 1) := by decide +kernel
theorem d16_18 : decode jdk_52_method_14_code 18 = .ok (.iload_n 1, 1) := by decide +kernel
theorem d16_19 : decode jdk_52_method_14_code 19 = .ok (.caload, 1) := by decide +kernel
theorem d16_20 : decode jdk_52_method_14_code 20 = .ok (.invokestatic 111, 3) := by decide +kernel
theorem d16_23 : decode jdk_52_method_14_code 23 = .ok (.iinc 1 1, 3) := by decide +kernel
theorem d16_26 : decode jdk_52_method_14_code 26 = .ok (.iinc 4 1, 3) := by decide +kernel
theorem d16_29 : decode jdk_52_method_14_code 29 = .ok (.goto (-21), 3) := by decide +kernel
theorem d16_32 : decode jdk_52_method_14_code 32 = .ok (.aload_n 3, 1) := by decide +kernel
theorem d16_33 : decode jdk_52_method_14_code 33 = .ok (.areturn, 1) := by decide +kernel
theorem ef_tob (m : MethodId) (b : Addr) (kb : ClassId) (c0 : Int32) (c1 : Int32) (c2 : Int32) (c3 : Int32) (c4 : Int32) (c5 : Int32) : entryFrame m #[(.ref b), (.int (0 : Int32)), (.int (6 : Int32))] 5 = mkF m 0 #[.val (.ref b), .val (.int (0 : Int32)), .val (.int (6 : Int32)), .unset, .unset] [] := by
  first | (simp [entryFrame, mkF, argsToLocals, Value.category]; done) | rfl
def Q_tob (Z : State) (b : Addr) (kb : ClassId) (c0 : Int32) (c1 : Int32) (c2 : Int32) (c3 : Int32) (c4 : Int32) (c5 : Int32) (h0 : Heap) (n0 : Nat) (v : Option Value) (h : Heap) (L : List Loc) : Prop := ∃ (t : Addr) (kt : ClassId), v = some (.ref t) ∧ Fr n0 L ∧ h0.size ≤ t ∧ Keep h0 h [] ∧ Arv Z h t kt .byte (12 : Int32) (StrChars.Road.wideBytes ([c0, c1, c2, c3, c4, c5] : List Int32)) (.int (0 : Int32))
set_option maxRecDepth 65536 in
set_option maxHeartbeats 40000000 in
theorem rm_tob (l : Launch) (Z : State) (a0 : Array Value) (hw : ∀ d ∈ tables_1, d.before a0 Z = true) (ws : List Jvm.Cond) (b : Addr) (kb : ClassId) (c0 : Int32) (c1 : Int32) (c2 : Int32) (c3 : Int32) (c4 : Int32) (c5 : Int32) (h0 : Heap) (n0 : Nat) (O0 : Old Z n0 h0) (Vb : Arv Z h0 b kb .char (6 : Int32) [(.int c0), (.int c1), (.int c2), (.int c3), (.int c4), (.int c5)] (.int (0 : Int32))) (SA : Sta Z Z.heap "java/lang/StringUTF16" "$assertionsDisabled" "Z" (.int (1 : Int32))) (SH : Sta Z Z.heap "java/lang/StringUTF16" "HI_BYTE_SHIFT" "I" (.int (0 : Int32))) (SLo : Sta Z Z.heap "java/lang/StringUTF16" "LO_BYTE_SHIFT" "I" (.int (8 : Int32))) :
    MetFree l (⟨"java/lang/StringUTF16", "toBytes", "([CII)[B"⟩ : MethodName) (head1 (Jvm.Cond.code (⟨"java/lang/StringUTF16", "toBytes", "([CII)[B"⟩ : MethodName) jdk_52_method_14_code 5 (some (.array .byte)) :: ws) ({ frames := 2, cells := 1, slots := 12, locals := 24 } : Room)) (fun av_ U => av_ = #[(.ref b), (.int (0 : Int32)), (.int (6 : Int32))] ∧ Z.Warmed39 U.vm ∧ U.heap = h0) (fun _ _ _ _ _ => True) (fun _ U o_ U' => ∃ v L, o_ = .returned v ∧ Q_tob Z b kb c0 c1 c2 c3 c4 c5 h0 n0 v U'.heap L ∧ FrameEnd U o_ U' L ({ frames := 2, cells := 1, slots := 12, locals := 24 } : Room).cells ({ frames := 2, cells := 1, slots := 12, locals := 24 } : Room).slots) := by
  refine MetFree.of_bodySF (plainFor_of_name pn_1) hisR ?_
  intro p e s m args below meth c s₁ Bd hml0 hP hK
  obtain ⟨rfl, hZ, hh⟩ := hP
  have hx := Bd.exec
  have hby := Bd.bytes
  have hml : c.maxLocals = 5 := hml0
  have hown : s.vm.findClass "java/lang/StringUTF16" = some m.cls := findClass_of_methodNamed Bd.named
  have hnm := (name_of_methodNamed Bd.named Bd.method).1
  have hlk := own_lk Bd
  have hret := Bd.returns
  have X0 : Stand p l e ({ frames := 2, cells := 1, slots := 12, locals := 24 } : Room) s m #[(.ref b), (.int (0 : Int32)), (.int (6 : Int32))] below meth c s₁ [] 0 0 := Stand.of_body Bd
  have e0 : s₁.heap = h0 := by rw [← hh, Bd.state]; rfl
  have N0 := Fr.nil n0
  show own_Goes p e below s (Q_tob Z b kb c0 c1 c2 c3 c4 c5 h0 n0) ({ frames := 2, cells := 1, slots := 12, locals := 24 } : Room).cells ({ frames := 2, cells := 1, slots := 12, locals := 24 } : Room).slots (s₁.setTop (entryFrame m #[(.ref b), (.int (0 : Int32)), (.int (6 : Int32))] 5))
  refine own_go (fun _ ww => castTop (ef_tob m b kb c0 c1 c2 c3 c4 c5) ww) ?_
  show own_Goes _ _ _ _ _ _ _ (s₁.setTop (mkF m 0 #[.val (.ref b), .val (.int (0 : Int32)), .val (.int (6 : Int32)), .unset, .unset] []))
  refine own_go (fun _ ww => XS.iloadN X0.here hx rfl (hb hby d16_0) rfl  ww) ?_
  show own_Goes _ _ _ _ _ _ _ (s₁.setTop (mkF m 1 #[.val (.ref b), .val (.int (0 : Int32)), .val (.int (6 : Int32)), .unset, .unset] [(.int (6 : Int32))]))
  obtain ⟨_, _, ⟨T136, L136, k136, n136⟩, -, X136, ⟨Lc136, hQ136, l136, y136, z136⟩, st136⟩ := Jvm.LawKit.callS X0 hx (y := (⟨"java/lang/StringUTF16", "newBytesFor", "(I)[B"⟩ : MethodName)) hown (mvT hZ (hw _ (List.mem_of_getElem? (i := 84) rfl))) (mvT hZ (hw _ (List.mem_of_getElem? (i := 85) rfl))) (mvT hZ (hw _ (List.mem_of_getElem? (i := 24) rfl))) (mvT hZ (hw _ (List.mem_of_getElem? (i := 86) rfl))) (by decide) (backOf (W := 0) (rm_nbf l Z a0 hw []  h0 n0 O0 ) hZ (hw _ (List.mem_of_getElem? (i := 86) rfl)) (hw _ (List.mem_of_getElem? (i := 24) rfl)) (by decide) (by decide)) (g := (mkF m 1 #[.val (.ref b), .val (.int (0 : Int32)), .val (.int (6 : Int32)), .unset, .unset] [(.int (6 : Int32))])) rfl (by rw [hml]; rfl) (argsL := [(.int (6 : Int32))]) (rest := []) (lenOf pd_1 rfl) rfl (by show 2 * 0 + _ ≤ _; exact Nat.le_of_eq rfl) (hb hby d16_1) (fun _ _ => ⟨rfl, e0, (by decide : 0 + 1 ≤ _), (by decide : 0 + 12 ≤ _)⟩)
  dsimp only [Pt.U, Pt.locs, Pt.cells, Pt.slots] at X136 l136 y136 z136 st136 hQ136
  subst l136 y136 z136
  obtain ⟨t136, kt136, rfl, N136q, B136, K136q, V136q⟩ := hQ136
  have N136 := Fr.app N0 N136q
  have ne_b_t136 : b ≠ t136 := Nat.ne_of_lt (Nat.lt_of_lt_of_le Vb.lt B136)
  have g_t136 : n0 ≤ t136 := Nat.le_trans (O0.1 ▸ O0.2.1) B136
  have sz_t136 : h0.size ≤ t136 := Nat.le_trans (own_ks (Keep.refl h0 [])) B136
  have f137 : Arv Z T136.heap b kb .char (6 : Int32) [(.int c0), (.int c1), (.int c2), (.int c3), (.int c4), (.int c5)] (.int (0 : Int32)) := (Vb.keep K136q nin0)
  have O136 := O0.keep K136q all0
  have K136 := (Keep.refl h0 []).trans K136q all0
  refine own_go st136 ?_
  show own_Goes _ _ _ _ _ _ _ (T136.setTop (mkF m 4 #[.val (.ref b), .val (.int (0 : Int32)), .val (.int (6 : Int32)), .unset, .unset] [(.ref t136)]))
  refine own_go (fun _ ww => XS.astoreN X136.here hx rfl (hb hby d16_4) rfl rfl (l' := #[.val (.ref b), .val (.int (0 : Int32)), .val (.int (6 : Int32)), .val (.ref t136), .unset]) rfl ww) ?_
  show own_Goes _ _ _ _ _ _ _ (T136.setTop (mkF m 5 #[.val (.ref b), .val (.int (0 : Int32)), .val (.int (6 : Int32)), .val (.ref t136), .unset] []))
  refine own_go (fun _ ww => XS.iconst X136.here hx rfl (hb hby d16_5) ww) ?_
  show own_Goes _ _ _ _ _ _ _ (T136.setTop (mkF m 6 #[.val (.ref b), .val (.int (0 : Int32)), .val (.int (6 : Int32)), .val (.ref t136), .unset] [(.int (0 : Int32))]))
  refine own_go (fun _ ww => XS.istore X136.here hx rfl (hb hby d16_6) rfl (l' := #[.val (.ref b), .val (.int (0 : Int32)), .val (.int (6 : Int32)), .val (.ref t136), .val (.int (0 : Int32))]) rfl ww) ?_
  show own_Goes _ _ _ _ _ _ _ (T136.setTop (mkF m 8 #[.val (.ref b), .val (.int (0 : Int32)), .val (.int (6 : Int32)), .val (.ref t136), .val (.int (0 : Int32))] []))
  refine own_go (fun _ ww => XS.iload X136.here hx rfl (hb hby d16_8) rfl  ww) ?_
  show own_Goes _ _ _ _ _ _ _ (T136.setTop (mkF m 10 #[.val (.ref b), .val (.int (0 : Int32)), .val (.int (6 : Int32)), .val (.ref t136), .val (.int (0 : Int32))] [(.int (0 : Int32))]))
  refine own_go (fun _ ww => XS.iloadN X136.here hx rfl (hb hby d16_10) rfl  ww) ?_
  show own_Goes _ _ _ _ _ _ _ (T136.setTop (mkF m 11 #[.val (.ref b), .val (.int (0 : Int32)), .val (.int (6 : Int32)), .val (.ref t136), .val (.int (0 : Int32))] [(.int (6 : Int32)), (.int (0 : Int32))]))
  refine own_go (fun _ ww => XS.icmpNo X136.here hx rfl (hb hby d16_11) rfl (tlt (by decide : (0 : Int32) < (6 : Int32))).2.1 ww) ?_
  show own_Goes _ _ _ _ _ _ _ (T136.setTop (mkF m 14 #[.val (.ref b), .val (.int (0 : Int32)), .val (.int (6 : Int32)), .val (.ref t136), .val (.int (0 : Int32))] []))
  refine own_go (fun _ ww => XS.aloadN X136.here hx rfl (hb hby d16_14) rfl rfl ww) ?_
  show own_Goes _ _ _ _ _ _ _ (T136.setTop (mkF m 15 #[.val (.ref b), .val (.int (0 : Int32)), .val (.int (6 : Int32)), .val (.ref t136), .val (.int (0 : Int32))] [(.ref t136)]))
  refine own_go (fun _ ww => XS.iload X136.here hx rfl (hb hby d16_15) rfl  ww) ?_
  show own_Goes _ _ _ _ _ _ _ (T136.setTop (mkF m 17 #[.val (.ref b), .val (.int (0 : Int32)), .val (.int (6 : Int32)), .val (.ref t136), .val (.int (0 : Int32))] [(.int (0 : Int32)), (.ref t136)]))
  refine own_go (fun _ ww => XS.aloadN X136.here hx rfl (hb hby d16_17) rfl rfl ww) ?_
  show own_Goes _ _ _ _ _ _ _ (T136.setTop (mkF m 18 #[.val (.ref b), .val (.int (0 : Int32)), .val (.int (6 : Int32)), .val (.ref t136), .val (.int (0 : Int32))] [(.ref b), (.int (0 : Int32)), (.ref t136)]))
  refine own_go (fun _ ww => XS.iloadN X136.here hx rfl (hb hby d16_18) rfl  ww) ?_
  show own_Goes _ _ _ _ _ _ _ (T136.setTop (mkF m 19 #[.val (.ref b), .val (.int (0 : Int32)), .val (.int (6 : Int32)), .val (.ref t136), .val (.int (0 : Int32))] [(.int (0 : Int32)), (.ref b), (.int (0 : Int32)), (.ref t136)]))
  obtain ⟨cl138, Ar138, -, S138, -, H138, -⟩ := id f137
  have hin138 := inb_of (j := (0 : Int32)) S138 ⟨by decide, by decide⟩
  have hat138 : cl138.slots[((0 : Int32)).toNatClampNeg]? = some (.int c0) := Has.at H138 hin138 rfl
  refine own_go (fun _ ww => X136.caload hx (j := (0 : Int32)) (v := (.int c0)) Ar138.1 (State.isArrayOf_alike hZ.alike Ar138.2.1) Ar138.2.2 hin138 hat138 (g := (mkF m 19 #[.val (.ref b), .val (.int (0 : Int32)), .val (.int (6 : Int32)), .val (.ref t136), .val (.int (0 : Int32))] [(.int (0 : Int32)), (.ref b), (.int (0 : Int32)), (.ref t136)])) rfl rfl (hb hby d16_19) _ ww) ?_
  show own_Goes _ _ _ _ _ _ _ (T136.setTop (mkF m 20 #[.val (.ref b), .val (.int (0 : Int32)), .val (.int (6 : Int32)), .val (.ref t136), .val (.int (0 : Int32))] [(.int c0), (.int (0 : Int32)), (.ref t136)]))
  obtain ⟨_, _, ⟨T139, L139, k139, n139⟩, -, X139, ⟨Lc139, hQ139, l139, y139, z139⟩, st139⟩ := Jvm.LawKit.callS X136 hx (y := (⟨"java/lang/StringUTF16", "putChar", "([BII)V"⟩ : MethodName)) hown (mvT hZ (hw _ (List.mem_of_getElem? (i := 91) rfl))) (mvT hZ (hw _ (List.mem_of_getElem? (i := 92) rfl))) (mvT hZ (hw _ (List.mem_of_getElem? (i := 24) rfl))) (mvT hZ (hw _ (List.mem_of_getElem? (i := 93) rfl))) (by decide) (backOf (W := 0) (rm_putc0 l Z a0 hw [] t136 kt136 (0 : Int32) (0 : Int32) (0 : Int32) (0 : Int32) (0 : Int32) (0 : Int32) (0 : Int32) (0 : Int32) (0 : Int32) (0 : Int32) (0 : Int32) (0 : Int32) c0 T136.heap n0 O136 V136q g_t136 SA SH SLo) hZ (hw _ (List.mem_of_getElem? (i := 93) rfl)) (hw _ (List.mem_of_getElem? (i := 24) rfl)) (by decide) (by decide)) (g := (mkF m 20 #[.val (.ref b), .val (.int (0 : Int32)), .val (.int (6 : Int32)), .val (.ref t136), .val (.int (0 : Int32))] [(.int c0), (.int (0 : Int32)), (.ref t136)])) rfl (by rw [hml]; rfl) (argsL := [(.ref t136), (.int (0 : Int32)), (.int c0)]) (rest := []) (lenOf pd_2 rfl) rfl (by show 2 * 0 + _ ≤ _; exact Nat.le_of_eq rfl) (hb hby d16_20) (fun _ _ => ⟨rfl, rfl, (by decide : 1 + 0 ≤ _), (by decide : 12 + 0 ≤ _)⟩)
  dsimp only [Pt.U, Pt.locs, Pt.cells, Pt.slots] at X139 l139 y139 z139 st139 hQ139
  subst l139 y139 z139
  obtain ⟨rfl, N139q, K139q, V139q⟩ := hQ139
  have N139 := Fr.app N136 N139q
  have f140 : Arv Z T139.heap b kb .char (6 : Int32) [(.int c0), (.int c1), (.int c2), (.int c3), (.int c4), (.int c5)] (.int (0 : Int32)) := (f137.keep K139q (ninS ne_b_t136 nin0))
  have O139 := O136.keep K139q (allS g_t136 all0)
  have K139 := K136.trans K139q (allS (Or.inr sz_t136) all0)
  refine own_go st139 ?_
  show own_Goes _ _ _ _ _ _ _ (T139.setTop (mkF m 23 #[.val (.ref b), .val (.int (0 : Int32)), .val (.int (6 : Int32)), .val (.ref t136), .val (.int (0 : Int32))] []))
  refine own_go (fun _ ww => XS.iinc X139.here hx rfl (hb hby d16_23) rfl (l' := #[.val (.ref b), .val (.int (1 : Int32)), .val (.int (6 : Int32)), .val (.ref t136), .val (.int (0 : Int32))]) rfl ww) ?_
  show own_Goes _ _ _ _ _ _ _ (T139.setTop (mkF m 26 #[.val (.ref b), .val (.int (1 : Int32)), .val (.int (6 : Int32)), .val (.ref t136), .val (.int (0 : Int32))] []))
  refine own_go (fun _ ww => XS.iinc X139.here hx rfl (hb hby d16_26) rfl (l' := #[.val (.ref b), .val (.int (1 : Int32)), .val (.int (6 : Int32)), .val (.ref t136), .val (.int (1 : Int32))]) rfl ww) ?_
  show own_Goes _ _ _ _ _ _ _ (T139.setTop (mkF m 29 #[.val (.ref b), .val (.int (1 : Int32)), .val (.int (6 : Int32)), .val (.ref t136), .val (.int (1 : Int32))] []))
  refine own_go (fun _ ww => XS.goto X139.here hx rfl (pc0 := 29) (pc' := 8) rfl (hb hby d16_29) (by decide) (by decide) ww) ?_
  show own_Goes _ _ _ _ _ _ _ (T139.setTop (mkF m 8 #[.val (.ref b), .val (.int (1 : Int32)), .val (.int (6 : Int32)), .val (.ref t136), .val (.int (1 : Int32))] []))
  refine own_go (fun _ ww => XS.iload X139.here hx rfl (hb hby d16_8) rfl  ww) ?_
  show own_Goes _ _ _ _ _ _ _ (T139.setTop (mkF m 10 #[.val (.ref b), .val (.int (1 : Int32)), .val (.int (6 : Int32)), .val (.ref t136), .val (.int (1 : Int32))] [(.int (1 : Int32))]))
  refine own_go (fun _ ww => XS.iloadN X139.here hx rfl (hb hby d16_10) rfl  ww) ?_
  show own_Goes _ _ _ _ _ _ _ (T139.setTop (mkF m 11 #[.val (.ref b), .val (.int (1 : Int32)), .val (.int (6 : Int32)), .val (.ref t136), .val (.int (1 : Int32))] [(.int (6 : Int32)), (.int (1 : Int32))]))
  refine own_go (fun _ ww => XS.icmpNo X139.here hx rfl (hb hby d16_11) rfl (tlt (by decide : (1 : Int32) < (6 : Int32))).2.1 ww) ?_
  show own_Goes _ _ _ _ _ _ _ (T139.setTop (mkF m 14 #[.val (.ref b), .val (.int (1 : Int32)), .val (.int (6 : Int32)), .val (.ref t136), .val (.int (1 : Int32))] []))
  refine own_go (fun _ ww => XS.aloadN X139.here hx rfl (hb hby d16_14) rfl rfl ww) ?_
  show own_Goes _ _ _ _ _ _ _ (T139.setTop (mkF m 15 #[.val (.ref b), .val (.int (1 : Int32)), .val (.int (6 : Int32)), .val (.ref t136), .val (.int (1 : Int32))] [(.ref t136)]))
  refine own_go (fun _ ww => XS.iload X139.here hx rfl (hb hby d16_15) rfl  ww) ?_
  show own_Goes _ _ _ _ _ _ _ (T139.setTop (mkF m 17 #[.val (.ref b), .val (.int (1 : Int32)), .val (.int (6 : Int32)), .val (.ref t136), .val (.int (1 : Int32))] [(.int (1 : Int32)), (.ref t136)]))
  refine own_go (fun _ ww => XS.aloadN X139.here hx rfl (hb hby d16_17) rfl rfl ww) ?_
  show own_Goes _ _ _ _ _ _ _ (T139.setTop (mkF m 18 #[.val (.ref b), .val (.int (1 : Int32)), .val (.int (6 : Int32)), .val (.ref t136), .val (.int (1 : Int32))] [(.ref b), (.int (1 : Int32)), (.ref t136)]))
  refine own_go (fun _ ww => XS.iloadN X139.here hx rfl (hb hby d16_18) rfl  ww) ?_
  show own_Goes _ _ _ _ _ _ _ (T139.setTop (mkF m 19 #[.val (.ref b), .val (.int (1 : Int32)), .val (.int (6 : Int32)), .val (.ref t136), .val (.int (1 : Int32))] [(.int (1 : Int32)), (.ref b), (.int (1 : Int32)), (.ref t136)]))
  obtain ⟨cl141, Ar141, -, S141, -, H141, -⟩ := id f140
  have hin141 := inb_of (j := (1 : Int32)) S141 ⟨by decide, by decide⟩
  have hat141 : cl141.slots[((1 : Int32)).toNatClampNeg]? = some (.int c1) := Has.at H141 hin141 rfl
  refine own_go (fun _ ww => X139.caload hx (j := (1 : Int32)) (v := (.int c1)) Ar141.1 (State.isArrayOf_alike hZ.alike Ar141.2.1) Ar141.2.2 hin141 hat141 (g := (mkF m 19 #[.val (.ref b), .val (.int (1 : Int32)), .val (.int (6 : Int32)), .val (.ref t136), .val (.int (1 : Int32))] [(.int (1 : Int32)), (.ref b), (.int (1 : Int32)), (.ref t136)])) rfl rfl (hb hby d16_19) _ ww) ?_
  show own_Goes _ _ _ _ _ _ _ (T139.setTop (mkF m 20 #[.val (.ref b), .val (.int (1 : Int32)), .val (.int (6 : Int32)), .val (.ref t136), .val (.int (1 : Int32))] [(.int c1), (.int (1 : Int32)), (.ref t136)]))
  obtain ⟨_, _, ⟨T142, L142, k142, n142⟩, -, X142, ⟨Lc142, hQ142, l142, y142, z142⟩, st142⟩ := Jvm.LawKit.callS X139 hx (y := (⟨"java/lang/StringUTF16", "putChar", "([BII)V"⟩ : MethodName)) hown (mvT hZ (hw _ (List.mem_of_getElem? (i := 91) rfl))) (mvT hZ (hw _ (List.mem_of_getElem? (i := 92) rfl))) (mvT hZ (hw _ (List.mem_of_getElem? (i := 24) rfl))) (mvT hZ (hw _ (List.mem_of_getElem? (i := 93) rfl))) (by decide) (backOf (W := 0) (rm_putc1 l Z a0 hw [] t136 kt136 ((c0 >>> ((0 : Int32) &&& 31)).toInt8.toInt32) ((c0 >>> ((8 : Int32) &&& 31)).toInt8.toInt32) (0 : Int32) (0 : Int32) (0 : Int32) (0 : Int32) (0 : Int32) (0 : Int32) (0 : Int32) (0 : Int32) (0 : Int32) (0 : Int32) c1 T139.heap n0 O139 V139q g_t136 SA SH SLo) hZ (hw _ (List.mem_of_getElem? (i := 93) rfl)) (hw _ (List.mem_of_getElem? (i := 24) rfl)) (by decide) (by decide)) (g := (mkF m 20 #[.val (.ref b), .val (.int (1 : Int32)), .val (.int (6 : Int32)), .val (.ref t136), .val (.int (1 : Int32))] [(.int c1), (.int (1 : Int32)), (.ref t136)])) rfl (by rw [hml]; rfl) (argsL := [(.ref t136), (.int (1 : Int32)), (.int c1)]) (rest := []) (lenOf pd_2 rfl) rfl (by show 2 * 0 + _ ≤ _; exact Nat.le_of_eq rfl) (hb hby d16_20) (fun _ _ => ⟨rfl, rfl, (by decide : 1 + 0 ≤ _), (by decide : 12 + 0 ≤ _)⟩)
  dsimp only [Pt.U, Pt.locs, Pt.cells, Pt.slots] at X142 l142 y142 z142 st142 hQ142
  subst l142 y142 z142
  obtain ⟨rfl, N142q, K142q, V142q⟩ := hQ142
  have N142 := Fr.app N139 N142q
  have f143 : Arv Z T142.heap b kb .char (6 : Int32) [(.int c0), (.int c1), (.int c2), (.int c3), (.int c4), (.int c5)] (.int (0 : Int32)) := (f140.keep K142q (ninS ne_b_t136 nin0))
  have O142 := O139.keep K142q (allS g_t136 all0)
  have K142 := K139.trans K142q (allS (Or.inr sz_t136) all0)
  refine own_go st142 ?_
  show own_Goes _ _ _ _ _ _ _ (T142.setTop (mkF m 23 #[.val (.ref b), .val (.int (1 : Int32)), .val (.int (6 : Int32)), .val (.ref t136), .val (.int (1 : Int32))] []))
  refine own_go (fun _ ww => XS.iinc X142.here hx rfl (hb hby d16_23) rfl (l' := #[.val (.ref b), .val (.int (2 : Int32)), .val (.int (6 : Int32)), .val (.ref t136), .val (.int (1 : Int32))]) rfl ww) ?_
  show own_Goes _ _ _ _ _ _ _ (T142.setTop (mkF m 26 #[.val (.ref b), .val (.int (2 : Int32)), .val (.int (6 : Int32)), .val (.ref t136), .val (.int (1 : Int32))] []))
  refine own_go (fun _ ww => XS.iinc X142.here hx rfl (hb hby d16_26) rfl (l' := #[.val (.ref b), .val (.int (2 : Int32)), .val (.int (6 : Int32)), .val (.ref t136), .val (.int (2 : Int32))]) rfl ww) ?_
  show own_Goes _ _ _ _ _ _ _ (T142.setTop (mkF m 29 #[.val (.ref b), .val (.int (2 : Int32)), .val (.int (6 : Int32)), .val (.ref t136), .val (.int (2 : Int32))] []))
  refine own_go (fun _ ww => XS.goto X142.here hx rfl (pc0 := 29) (pc' := 8) rfl (hb hby d16_29) (by decide) (by decide) ww) ?_
  show own_Goes _ _ _ _ _ _ _ (T142.setTop (mkF m 8 #[.val (.ref b), .val (.int (2 : Int32)), .val (.int (6 : Int32)), .val (.ref t136), .val (.int (2 : Int32))] []))
  refine own_go (fun _ ww => XS.iload X142.here hx rfl (hb hby d16_8) rfl  ww) ?_
  show own_Goes _ _ _ _ _ _ _ (T142.setTop (mkF m 10 #[.val (.ref b), .val (.int (2 : Int32)), .val (.int (6 : Int32)), .val (.ref t136), .val (.int (2 : Int32))] [(.int (2 : Int32))]))
  refine own_go (fun _ ww => XS.iloadN X142.here hx rfl (hb hby d16_10) rfl  ww) ?_
  show own_Goes _ _ _ _ _ _ _ (T142.setTop (mkF m 11 #[.val (.ref b), .val (.int (2 : Int32)), .val (.int (6 : Int32)), .val (.ref t136), .val (.int (2 : Int32))] [(.int (6 : Int32)), (.int (2 : Int32))]))
  refine own_go (fun _ ww => XS.icmpNo X142.here hx rfl (hb hby d16_11) rfl (tlt (by decide : (2 : Int32) < (6 : Int32))).2.1 ww) ?_
  show own_Goes _ _ _ _ _ _ _ (T142.setTop (mkF m 14 #[.val (.ref b), .val (.int (2 : Int32)), .val (.int (6 : Int32)), .val (.ref t136), .val (.int (2 : Int32))] []))
  refine own_go (fun _ ww => XS.aloadN X142.here hx rfl (hb hby d16_14) rfl rfl ww) ?_
  show own_Goes _ _ _ _ _ _ _ (T142.setTop (mkF m 15 #[.val (.ref b), .val (.int (2 : Int32)), .val (.int (6 : Int32)), .val (.ref t136), .val (.int (2 : Int32))] [(.ref t136)]))
  refine own_go (fun _ ww => XS.iload X142.here hx rfl (hb hby d16_15) rfl  ww) ?_
  show own_Goes _ _ _ _ _ _ _ (T142.setTop (mkF m 17 #[.val (.ref b), .val (.int (2 : Int32)), .val (.int (6 : Int32)), .val (.ref t136), .val (.int (2 : Int32))] [(.int (2 : Int32)), (.ref t136)]))
  refine own_go (fun _ ww => XS.aloadN X142.here hx rfl (hb hby d16_17) rfl rfl ww) ?_
  show own_Goes _ _ _ _ _ _ _ (T142.setTop (mkF m 18 #[.val (.ref b), .val (.int (2 : Int32)), .val (.int (6 : Int32)), .val (.ref t136), .val (.int (2 : Int32))] [(.ref b), (.int (2 : Int32)), (.ref t136)]))
  refine own_go (fun _ ww => XS.iloadN X142.here hx rfl (hb hby d16_18) rfl  ww) ?_
  show own_Goes _ _ _ _ _ _ _ (T142.setTop (mkF m 19 #[.val (.ref b), .val (.int (2 : Int32)), .val (.int (6 : Int32)), .val (.ref t136), .val (.int (2 : Int32))] [(.int (2 : Int32)), (.ref b), (.int (2 : Int32)), (.ref t136)]))
  obtain ⟨cl144, Ar144, -, S144, -, H144, -⟩ := id f143
  have hin144 := inb_of (j := (2 : Int32)) S144 ⟨by decide, by decide⟩
  have hat144 : cl144.slots[((2 : Int32)).toNatClampNeg]? = some (.int c2) := Has.at H144 hin144 rfl
  refine own_go (fun _ ww => X142.caload hx (j := (2 : Int32)) (v := (.int c2)) Ar144.1 (State.isArrayOf_alike hZ.alike Ar144.2.1) Ar144.2.2 hin144 hat144 (g := (mkF m 19 #[.val (.ref b), .val (.int (2 : Int32)), .val (.int (6 : Int32)), .val (.ref t136), .val (.int (2 : Int32))] [(.int (2 : Int32)), (.ref b), (.int (2 : Int32)), (.ref t136)])) rfl rfl (hb hby d16_19) _ ww) ?_
  show own_Goes _ _ _ _ _ _ _ (T142.setTop (mkF m 20 #[.val (.ref b), .val (.int (2 : Int32)), .val (.int (6 : Int32)), .val (.ref t136), .val (.int (2 : Int32))] [(.int c2), (.int (2 : Int32)), (.ref t136)]))
  obtain ⟨_, _, ⟨T145, L145, k145, n145⟩, -, X145, ⟨Lc145, hQ145, l145, y145, z145⟩, st145⟩ := Jvm.LawKit.callS X142 hx (y := (⟨"java/lang/StringUTF16", "putChar", "([BII)V"⟩ : MethodName)) hown (mvT hZ (hw _ (List.mem_of_getElem? (i := 91) rfl))) (mvT hZ (hw _ (List.mem_of_getElem? (i := 92) rfl))) (mvT hZ (hw _ (List.mem_of_getElem? (i := 24) rfl))) (mvT hZ (hw _ (List.mem_of_getElem? (i := 93) rfl))) (by decide) (backOf (W := 0) (rm_putc2 l Z a0 hw [] t136 kt136 ((c0 >>> ((0 : Int32) &&& 31)).toInt8.toInt32) ((c0 >>> ((8 : Int32) &&& 31)).toInt8.toInt32) ((c1 >>> ((0 : Int32) &&& 31)).toInt8.toInt32) ((c1 >>> ((8 : Int32) &&& 31)).toInt8.toInt32) (0 : Int32) (0 : Int32) (0 : Int32) (0 : Int32) (0 : Int32) (0 : Int32) (0 : Int32) (0 : Int32) c2 T142.heap n0 O142 V142q g_t136 SA SH SLo) hZ (hw _ (List.mem_of_getElem? (i := 93) rfl)) (hw _ (List.mem_of_getElem? (i := 24) rfl)) (by decide) (by decide)) (g := (mkF m 20 #[.val (.ref b), .val (.int (2 : Int32)), .val (.int (6 : Int32)), .val (.ref t136), .val (.int (2 : Int32))] [(.int c2), (.int (2 : Int32)), (.ref t136)])) rfl (by rw [hml]; rfl) (argsL := [(.ref t136), (.int (2 : Int32)), (.int c2)]) (rest := []) (lenOf pd_2 rfl) rfl (by show 2 * 0 + _ ≤ _; exact Nat.le_of_eq rfl) (hb hby d16_20) (fun _ _ => ⟨rfl, rfl, (by decide : 1 + 0 ≤ _), (by decide : 12 + 0 ≤ _)⟩)
  dsimp only [Pt.U, Pt.locs, Pt.cells, Pt.slots] at X145 l145 y145 z145 st145 hQ145
  subst l145 y145 z145
  obtain ⟨rfl, N145q, K145q, V145q⟩ := hQ145
  have N145 := Fr.app N142 N145q
  have f146 : Arv Z T145.heap b kb .char (6 : Int32) [(.int c0), (.int c1), (.int c2), (.int c3), (.int c4), (.int c5)] (.int (0 : Int32)) := (f143.keep K145q (ninS ne_b_t136 nin0))
  have O145 := O142.keep K145q (allS g_t136 all0)
  have K145 := K142.trans K145q (allS (Or.inr sz_t136) all0)
  refine own_go st145 ?_
  show own_Goes _ _ _ _ _ _ _ (T145.setTop (mkF m 23 #[.val (.ref b), .val (.int (2 : Int32)), .val (.int (6 : Int32)), .val (.ref t136), .val (.int (2 : Int32))] []))
  refine own_go (fun _ ww => XS.iinc X145.here hx rfl (hb hby d16_23) rfl (l' := #[.val (.ref b), .val (.int (3 : Int32)), .val (.int (6 : Int32)), .val (.ref t136), .val (.int (2 : Int32))]) rfl ww) ?_
  show own_Goes _ _ _ _ _ _ _ (T145.setTop (mkF m 26 #[.val (.ref b), .val (.int (3 : Int32)), .val (.int (6 : Int32)), .val (.ref t136), .val (.int (2 : Int32))] []))
  refine own_go (fun _ ww => XS.iinc X145.here hx rfl (hb hby d16_26) rfl (l' := #[.val (.ref b), .val (.int (3 : Int32)), .val (.int (6 : Int32)), .val (.ref t136), .val (.int (3 : Int32))]) rfl ww) ?_
  show own_Goes _ _ _ _ _ _ _ (T145.setTop (mkF m 29 #[.val (.ref b), .val (.int (3 : Int32)), .val (.int (6 : Int32)), .val (.ref t136), .val (.int (3 : Int32))] []))
  refine own_go (fun _ ww => XS.goto X145.here hx rfl (pc0 := 29) (pc' := 8) rfl (hb hby d16_29) (by decide) (by decide) ww) ?_
  show own_Goes _ _ _ _ _ _ _ (T145.setTop (mkF m 8 #[.val (.ref b), .val (.int (3 : Int32)), .val (.int (6 : Int32)), .val (.ref t136), .val (.int (3 : Int32))] []))
  refine own_go (fun _ ww => XS.iload X145.here hx rfl (hb hby d16_8) rfl  ww) ?_
  show own_Goes _ _ _ _ _ _ _ (T145.setTop (mkF m 10 #[.val (.ref b), .val (.int (3 : Int32)), .val (.int (6 : Int32)), .val (.ref t136), .val (.int (3 : Int32))] [(.int (3 : Int32))]))
  refine own_go (fun _ ww => XS.iloadN X145.here hx rfl (hb hby d16_10) rfl  ww) ?_
  show own_Goes _ _ _ _ _ _ _ (T145.setTop (mkF m 11 #[.val (.ref b), .val (.int (3 : Int32)), .val (.int (6 : Int32)), .val (.ref t136), .val (.int (3 : Int32))] [(.int (6 : Int32)), (.int (3 : Int32))]))
  refine own_go (fun _ ww => XS.icmpNo X145.here hx rfl (hb hby d16_11) rfl (tlt (by decide : (3 : Int32) < (6 : Int32))).2.1 ww) ?_
  show own_Goes _ _ _ _ _ _ _ (T145.setTop (mkF m 14 #[.val (.ref b), .val (.int (3 : Int32)), .val (.int (6 : Int32)), .val (.ref t136), .val (.int (3 : Int32))] []))
  refine own_go (fun _ ww => XS.aloadN X145.here hx rfl (hb hby d16_14) rfl rfl ww) ?_
  show own_Goes _ _ _ _ _ _ _ (T145.setTop (mkF m 15 #[.val (.ref b), .val (.int (3 : Int32)), .val (.int (6 : Int32)), .val (.ref t136), .val (.int (3 : Int32))] [(.ref t136)]))
  refine own_go (fun _ ww => XS.iload X145.here hx rfl (hb hby d16_15) rfl  ww) ?_
  show own_Goes _ _ _ _ _ _ _ (T145.setTop (mkF m 17 #[.val (.ref b), .val (.int (3 : Int32)), .val (.int (6 : Int32)), .val (.ref t136), .val (.int (3 : Int32))] [(.int (3 : Int32)), (.ref t136)]))
  refine own_go (fun _ ww => XS.aloadN X145.here hx rfl (hb hby d16_17) rfl rfl ww) ?_
  show own_Goes _ _ _ _ _ _ _ (T145.setTop (mkF m 18 #[.val (.ref b), .val (.int (3 : Int32)), .val (.int (6 : Int32)), .val (.ref t136), .val (.int (3 : Int32))] [(.ref b), (.int (3 : Int32)), (.ref t136)]))
  refine own_go (fun _ ww => XS.iloadN X145.here hx rfl (hb hby d16_18) rfl  ww) ?_
  show own_Goes _ _ _ _ _ _ _ (T145.setTop (mkF m 19 #[.val (.ref b), .val (.int (3 : Int32)), .val (.int (6 : Int32)), .val (.ref t136), .val (.int (3 : Int32))] [(.int (3 : Int32)), (.ref b), (.int (3 : Int32)), (.ref t136)]))
  obtain ⟨cl147, Ar147, -, S147, -, H147, -⟩ := id f146
  have hin147 := inb_of (j := (3 : Int32)) S147 ⟨by decide, by decide⟩
  have hat147 : cl147.slots[((3 : Int32)).toNatClampNeg]? = some (.int c3) := Has.at H147 hin147 rfl
  refine own_go (fun _ ww => X145.caload hx (j := (3 : Int32)) (v := (.int c3)) Ar147.1 (State.isArrayOf_alike hZ.alike Ar147.2.1) Ar147.2.2 hin147 hat147 (g := (mkF m 19 #[.val (.ref b), .val (.int (3 : Int32)), .val (.int (6 : Int32)), .val (.ref t136), .val (.int (3 : Int32))] [(.int (3 : Int32)), (.ref b), (.int (3 : Int32)), (.ref t136)])) rfl rfl (hb hby d16_19) _ ww) ?_
  show own_Goes _ _ _ _ _ _ _ (T145.setTop (mkF m 20 #[.val (.ref b), .val (.int (3 : Int32)), .val (.int (6 : Int32)), .val (.ref t136), .val (.int (3 : Int32))] [(.int c3), (.int (3 : Int32)), (.ref t136)]))
  obtain ⟨_, _, ⟨T148, L148, k148, n148⟩, -, X148, ⟨Lc148, hQ148, l148, y148, z148⟩, st148⟩ := Jvm.LawKit.callS X145 hx (y := (⟨"java/lang/StringUTF16", "putChar", "([BII)V"⟩ : MethodName)) hown (mvT hZ (hw _ (List.mem_of_getElem? (i := 91) rfl))) (mvT hZ (hw _ (List.mem_of_getElem? (i := 92) rfl))) (mvT hZ (hw _ (List.mem_of_getElem? (i := 24) rfl))) (mvT hZ (hw _ (List.mem_of_getElem? (i := 93) rfl))) (by decide) (backOf (W := 0) (rm_putc3 l Z a0 hw [] t136 kt136 ((c0 >>> ((0 : Int32) &&& 31)).toInt8.toInt32) ((c0 >>> ((8 : Int32) &&& 31)).toInt8.toInt32) ((c1 >>> ((0 : Int32) &&& 31)).toInt8.toInt32) ((c1 >>> ((8 : Int32) &&& 31)).toInt8.toInt32) ((c2 >>> ((0 : Int32) &&& 31)).toInt8.toInt32) ((c2 >>> ((8 : Int32) &&& 31)).toInt8.toInt32) (0 : Int32) (0 : Int32) (0 : Int32) (0 : Int32) (0 : Int32) (0 : Int32) c3 T145.heap n0 O145 V145q g_t136 SA SH SLo) hZ (hw _ (List.mem_of_getElem? (i := 93) rfl)) (hw _ (List.mem_of_getElem? (i := 24) rfl)) (by decide) (by decide)) (g := (mkF m 20 #[.val (.ref b), .val (.int (3 : Int32)), .val (.int (6 : Int32)), .val (.ref t136), .val (.int (3 : Int32))] [(.int c3), (.int (3 : Int32)), (.ref t136)])) rfl (by rw [hml]; rfl) (argsL := [(.ref t136), (.int (3 : Int32)), (.int c3)]) (rest := []) (lenOf pd_2 rfl) rfl (by show 2 * 0 + _ ≤ _; exact Nat.le_of_eq rfl) (hb hby d16_20) (fun _ _ => ⟨rfl, rfl, (by decide : 1 + 0 ≤ _), (by decide : 12 + 0 ≤ _)⟩)
  dsimp only [Pt.U, Pt.locs, Pt.cells, Pt.slots] at X148 l148 y148 z148 st148 hQ148
  subst l148 y148 z148
  obtain ⟨rfl, N148q, K148q, V148q⟩ := hQ148
  have N148 := Fr.app N145 N148q
  have f149 : Arv Z T148.heap b kb .char (6 : Int32) [(.int c0), (.int c1), (.int c2), (.int c3), (.int c4), (.int c5)] (.int (0 : Int32)) := (f146.keep K148q (ninS ne_b_t136 nin0))
  have O148 := O145.keep K148q (allS g_t136 all0)
  have K148 := K145.trans K148q (allS (Or.inr sz_t136) all0)
  refine own_go st148 ?_
  show own_Goes _ _ _ _ _ _ _ (T148.setTop (mkF m 23 #[.val (.ref b), .val (.int (3 : Int32)), .val (.int (6 : Int32)), .val (.ref t136), .val (.int (3 : Int32))] []))
  refine own_go (fun _ ww => XS.iinc X148.here hx rfl (hb hby d16_23) rfl (l' := #[.val (.ref b), .val (.int (4 : Int32)), .val (.int (6 : Int32)), .val (.ref t136), .val (.int (3 : Int32))]) rfl ww) ?_
  show own_Goes _ _ _ _ _ _ _ (T148.setTop (mkF m 26 #[.val (.ref b), .val (.int (4 : Int32)), .val (.int (6 : Int32)), .val (.ref t136), .val (.int (3 : Int32))] []))
  refine own_go (fun _ ww => XS.iinc X148.here hx rfl (hb hby d16_26) rfl (l' := #[.val (.ref b), .val (.int (4 : Int32)), .val (.int (6 : Int32)), .val (.ref t136), .val (.int (4 : Int32))]) rfl ww) ?_
  show own_Goes _ _ _ _ _ _ _ (T148.setTop (mkF m 29 #[.val (.ref b), .val (.int (4 : Int32)), .val (.int (6 : Int32)), .val (.ref t136), .val (.int (4 : Int32))] []))
  refine own_go (fun _ ww => XS.goto X148.here hx rfl (pc0 := 29) (pc' := 8) rfl (hb hby d16_29) (by decide) (by decide) ww) ?_
  show own_Goes _ _ _ _ _ _ _ (T148.setTop (mkF m 8 #[.val (.ref b), .val (.int (4 : Int32)), .val (.int (6 : Int32)), .val (.ref t136), .val (.int (4 : Int32))] []))
  refine own_go (fun _ ww => XS.iload X148.here hx rfl (hb hby d16_8) rfl  ww) ?_
  show own_Goes _ _ _ _ _ _ _ (T148.setTop (mkF m 10 #[.val (.ref b), .val (.int (4 : Int32)), .val (.int (6 : Int32)), .val (.ref t136), .val (.int (4 : Int32))] [(.int (4 : Int32))]))
  refine own_go (fun _ ww => XS.iloadN X148.here hx rfl (hb hby d16_10) rfl  ww) ?_
  show own_Goes _ _ _ _ _ _ _ (T148.setTop (mkF m 11 #[.val (.ref b), .val (.int (4 : Int32)), .val (.int (6 : Int32)), .val (.ref t136), .val (.int (4 : Int32))] [(.int (6 : Int32)), (.int (4 : Int32))]))
  refine own_go (fun _ ww => XS.icmpNo X148.here hx rfl (hb hby d16_11) rfl (tlt (by decide : (4 : Int32) < (6 : Int32))).2.1 ww) ?_
  show own_Goes _ _ _ _ _ _ _ (T148.setTop (mkF m 14 #[.val (.ref b), .val (.int (4 : Int32)), .val (.int (6 : Int32)), .val (.ref t136), .val (.int (4 : Int32))] []))
  refine own_go (fun _ ww => XS.aloadN X148.here hx rfl (hb hby d16_14) rfl rfl ww) ?_
  show own_Goes _ _ _ _ _ _ _ (T148.setTop (mkF m 15 #[.val (.ref b), .val (.int (4 : Int32)), .val (.int (6 : Int32)), .val (.ref t136), .val (.int (4 : Int32))] [(.ref t136)]))
  refine own_go (fun _ ww => XS.iload X148.here hx rfl (hb hby d16_15) rfl  ww) ?_
  show own_Goes _ _ _ _ _ _ _ (T148.setTop (mkF m 17 #[.val (.ref b), .val (.int (4 : Int32)), .val (.int (6 : Int32)), .val (.ref t136), .val (.int (4 : Int32))] [(.int (4 : Int32)), (.ref t136)]))
  refine own_go (fun _ ww => XS.aloadN X148.here hx rfl (hb hby d16_17) rfl rfl ww) ?_
  show own_Goes _ _ _ _ _ _ _ (T148.setTop (mkF m 18 #[.val (.ref b), .val (.int (4 : Int32)), .val (.int (6 : Int32)), .val (.ref t136), .val (.int (4 : Int32))] [(.ref b), (.int (4 : Int32)), (.ref t136)]))
  refine own_go (fun _ ww => XS.iloadN X148.here hx rfl (hb hby d16_18) rfl  ww) ?_
  show own_Goes _ _ _ _ _ _ _ (T148.setTop (mkF m 19 #[.val (.ref b), .val (.int (4 : Int32)), .val (.int (6 : Int32)), .val (.ref t136), .val (.int (4 : Int32))] [(.int (4 : Int32)), (.ref b), (.int (4 : Int32)), (.ref t136)]))
  obtain ⟨cl150, Ar150, -, S150, -, H150, -⟩ := id f149
  have hin150 := inb_of (j := (4 : Int32)) S150 ⟨by decide, by decide⟩
  have hat150 : cl150.slots[((4 : Int32)).toNatClampNeg]? = some (.int c4) := Has.at H150 hin150 rfl
  refine own_go (fun _ ww => X148.caload hx (j := (4 : Int32)) (v := (.int c4)) Ar150.1 (State.isArrayOf_alike hZ.alike Ar150.2.1) Ar150.2.2 hin150 hat150 (g := (mkF m 19 #[.val (.ref b), .val (.int (4 : Int32)), .val (.int (6 : Int32)), .val (.ref t136), .val (.int (4 : Int32))] [(.int (4 : Int32)), (.ref b), (.int (4 : Int32)), (.ref t136)])) rfl rfl (hb hby d16_19) _ ww) ?_
  show own_Goes _ _ _ _ _ _ _ (T148.setTop (mkF m 20 #[.val (.ref b), .val (.int (4 : Int32)), .val (.int (6 : Int32)), .val (.ref t136), .val (.int (4 : Int32))] [(.int c4), (.int (4 : Int32)), (.ref t136)]))
  obtain ⟨_, _, ⟨T151, L151, k151, n151⟩, -, X151, ⟨Lc151, hQ151, l151, y151, z151⟩, st151⟩ := Jvm.LawKit.callS X148 hx (y := (⟨"java/lang/StringUTF16", "putChar", "([BII)V"⟩ : MethodName)) hown (mvT hZ (hw _ (List.mem_of_getElem? (i := 91) rfl))) (mvT hZ (hw _ (List.mem_of_getElem? (i := 92) rfl))) (mvT hZ (hw _ (List.mem_of_getElem? (i := 24) rfl))) (mvT hZ (hw _ (List.mem_of_getElem? (i := 93) rfl))) (by decide) (backOf (W := 0) (rm_putc4 l Z a0 hw [] t136 kt136 ((c0 >>> ((0 : Int32) &&& 31)).toInt8.toInt32) ((c0 >>> ((8 : Int32) &&& 31)).toInt8.toInt32) ((c1 >>> ((0 : Int32) &&& 31)).toInt8.toInt32) ((c1 >>> ((8 : Int32) &&& 31)).toInt8.toInt32) ((c2 >>> ((0 : Int32) &&& 31)).toInt8.toInt32) ((c2 >>> ((8 : Int32) &&& 31)).toInt8.toInt32) ((c3 >>> ((0 : Int32) &&& 31)).toInt8.toInt32) ((c3 >>> ((8 : Int32) &&& 31)).toInt8.toInt32) (0 : Int32) (0 : Int32) (0 : Int32) (0 : Int32) c4 T148.heap n0 O148 V148q g_t136 SA SH SLo) hZ (hw _ (List.mem_of_getElem? (i := 93) rfl)) (hw _ (List.mem_of_getElem? (i := 24) rfl)) (by decide) (by decide)) (g := (mkF m 20 #[.val (.ref b), .val (.int (4 : Int32)), .val (.int (6 : Int32)), .val (.ref t136), .val (.int (4 : Int32))] [(.int c4), (.int (4 : Int32)), (.ref t136)])) rfl (by rw [hml]; rfl) (argsL := [(.ref t136), (.int (4 : Int32)), (.int c4)]) (rest := []) (lenOf pd_2 rfl) rfl (by show 2 * 0 + _ ≤ _; exact Nat.le_of_eq rfl) (hb hby d16_20) (fun _ _ => ⟨rfl, rfl, (by decide : 1 + 0 ≤ _), (by decide : 12 + 0 ≤ _)⟩)
  dsimp only [Pt.U, Pt.locs, Pt.cells, Pt.slots] at X151 l151 y151 z151 st151 hQ151
  subst l151 y151 z151
  obtain ⟨rfl, N151q, K151q, V151q⟩ := hQ151
  have N151 := Fr.app N148 N151q
  have f152 : Arv Z T151.heap b kb .char (6 : Int32) [(.int c0), (.int c1), (.int c2), (.int c3), (.int c4), (.int c5)] (.int (0 : Int32)) := (f149.keep K151q (ninS ne_b_t136 nin0))
  have O151 := O148.keep K151q (allS g_t136 all0)
  have K151 := K148.trans K151q (allS (Or.inr sz_t136) all0)
  refine own_go st151 ?_
  show own_Goes _ _ _ _ _ _ _ (T151.setTop (mkF m 23 #[.val (.ref b), .val (.int (4 : Int32)), .val (.int (6 : Int32)), .val (.ref t136), .val (.int (4 : Int32))] []))
  refine own_go (fun _ ww => XS.iinc X151.here hx rfl (hb hby d16_23) rfl (l' := #[.val (.ref b), .val (.int (5 : Int32)), .val (.int (6 : Int32)), .val (.ref t136), .val (.int (4 : Int32))]) rfl ww) ?_
  show own_Goes _ _ _ _ _ _ _ (T151.setTop (mkF m 26 #[.val (.ref b), .val (.int (5 : Int32)), .val (.int (6 : Int32)), .val (.ref t136), .val (.int (4 : Int32))] []))
  refine own_go (fun _ ww => XS.iinc X151.here hx rfl (hb hby d16_26) rfl (l' := #[.val (.ref b), .val (.int (5 : Int32)), .val (.int (6 : Int32)), .val (.ref t136), .val (.int (5 : Int32))]) rfl ww) ?_
  show own_Goes _ _ _ _ _ _ _ (T151.setTop (mkF m 29 #[.val (.ref b), .val (.int (5 : Int32)), .val (.int (6 : Int32)), .val (.ref t136), .val (.int (5 : Int32))] []))
  refine own_go (fun _ ww => XS.goto X151.here hx rfl (pc0 := 29) (pc' := 8) rfl (hb hby d16_29) (by decide) (by decide) ww) ?_
  show own_Goes _ _ _ _ _ _ _ (T151.setTop (mkF m 8 #[.val (.ref b), .val (.int (5 : Int32)), .val (.int (6 : Int32)), .val (.ref t136), .val (.int (5 : Int32))] []))
  refine own_go (fun _ ww => XS.iload X151.here hx rfl (hb hby d16_8) rfl  ww) ?_
  show own_Goes _ _ _ _ _ _ _ (T151.setTop (mkF m 10 #[.val (.ref b), .val (.int (5 : Int32)), .val (.int (6 : Int32)), .val (.ref t136), .val (.int (5 : Int32))] [(.int (5 : Int32))]))
  refine own_go (fun _ ww => XS.iloadN X151.here hx rfl (hb hby d16_10) rfl  ww) ?_
  show own_Goes _ _ _ _ _ _ _ (T151.setTop (mkF m 11 #[.val (.ref b), .val (.int (5 : Int32)), .val (.int (6 : Int32)), .val (.ref t136), .val (.int (5 : Int32))] [(.int (6 : Int32)), (.int (5 : Int32))]))
  refine own_go (fun _ ww => XS.icmpNo X151.here hx rfl (hb hby d16_11) rfl (tlt (by decide : (5 : Int32) < (6 : Int32))).2.1 ww) ?_
  show own_Goes _ _ _ _ _ _ _ (T151.setTop (mkF m 14 #[.val (.ref b), .val (.int (5 : Int32)), .val (.int (6 : Int32)), .val (.ref t136), .val (.int (5 : Int32))] []))
  refine own_go (fun _ ww => XS.aloadN X151.here hx rfl (hb hby d16_14) rfl rfl ww) ?_
  show own_Goes _ _ _ _ _ _ _ (T151.setTop (mkF m 15 #[.val (.ref b), .val (.int (5 : Int32)), .val (.int (6 : Int32)), .val (.ref t136), .val (.int (5 : Int32))] [(.ref t136)]))
  refine own_go (fun _ ww => XS.iload X151.here hx rfl (hb hby d16_15) rfl  ww) ?_
  show own_Goes _ _ _ _ _ _ _ (T151.setTop (mkF m 17 #[.val (.ref b), .val (.int (5 : Int32)), .val (.int (6 : Int32)), .val (.ref t136), .val (.int (5 : Int32))] [(.int (5 : Int32)), (.ref t136)]))
  refine own_go (fun _ ww => XS.aloadN X151.here hx rfl (hb hby d16_17) rfl rfl ww) ?_
  show own_Goes _ _ _ _ _ _ _ (T151.setTop (mkF m 18 #[.val (.ref b), .val (.int (5 : Int32)), .val (.int (6 : Int32)), .val (.ref t136), .val (.int (5 : Int32))] [(.ref b), (.int (5 : Int32)), (.ref t136)]))
  refine own_go (fun _ ww => XS.iloadN X151.here hx rfl (hb hby d16_18) rfl  ww) ?_
  show own_Goes _ _ _ _ _ _ _ (T151.setTop (mkF m 19 #[.val (.ref b), .val (.int (5 : Int32)), .val (.int (6 : Int32)), .val (.ref t136), .val (.int (5 : Int32))] [(.int (5 : Int32)), (.ref b), (.int (5 : Int32)), (.ref t136)]))
  obtain ⟨cl153, Ar153, -, S153, -, H153, -⟩ := id f152
  have hin153 := inb_of (j := (5 : Int32)) S153 ⟨by decide, by decide⟩
  have hat153 : cl153.slots[((5 : Int32)).toNatClampNeg]? = some (.int c5) := Has.at H153 hin153 rfl
  refine own_go (fun _ ww => X151.caload hx (j := (5 : Int32)) (v := (.int c5)) Ar153.1 (State.isArrayOf_alike hZ.alike Ar153.2.1) Ar153.2.2 hin153 hat153 (g := (mkF m 19 #[.val (.ref b), .val (.int (5 : Int32)), .val (.int (6 : Int32)), .val (.ref t136), .val (.int (5 : Int32))] [(.int (5 : Int32)), (.ref b), (.int (5 : Int32)), (.ref t136)])) rfl rfl (hb hby d16_19) _ ww) ?_
  show own_Goes _ _ _ _ _ _ _ (T151.setTop (mkF m 20 #[.val (.ref b), .val (.int (5 : Int32)), .val (.int (6 : Int32)), .val (.ref t136), .val (.int (5 : Int32))] [(.int c5), (.int (5 : Int32)), (.ref t136)]))
  obtain ⟨_, _, ⟨T154, L154, k154, n154⟩, -, X154, ⟨Lc154, hQ154, l154, y154, z154⟩, st154⟩ := Jvm.LawKit.callS X151 hx (y := (⟨"java/lang/StringUTF16", "putChar", "([BII)V"⟩ : MethodName)) hown (mvT hZ (hw _ (List.mem_of_getElem? (i := 91) rfl))) (mvT hZ (hw _ (List.mem_of_getElem? (i := 92) rfl))) (mvT hZ (hw _ (List.mem_of_getElem? (i := 24) rfl))) (mvT hZ (hw _ (List.mem_of_getElem? (i := 93) rfl))) (by decide) (backOf (W := 0) (rm_putc5 l Z a0 hw [] t136 kt136 ((c0 >>> ((0 : Int32) &&& 31)).toInt8.toInt32) ((c0 >>> ((8 : Int32) &&& 31)).toInt8.toInt32) ((c1 >>> ((0 : Int32) &&& 31)).toInt8.toInt32) ((c1 >>> ((8 : Int32) &&& 31)).toInt8.toInt32) ((c2 >>> ((0 : Int32) &&& 31)).toInt8.toInt32) ((c2 >>> ((8 : Int32) &&& 31)).toInt8.toInt32) ((c3 >>> ((0 : Int32) &&& 31)).toInt8.toInt32) ((c3 >>> ((8 : Int32) &&& 31)).toInt8.toInt32) ((c4 >>> ((0 : Int32) &&& 31)).toInt8.toInt32) ((c4 >>> ((8 : Int32) &&& 31)).toInt8.toInt32) (0 : Int32) (0 : Int32) c5 T151.heap n0 O151 V151q g_t136 SA SH SLo) hZ (hw _ (List.mem_of_getElem? (i := 93) rfl)) (hw _ (List.mem_of_getElem? (i := 24) rfl)) (by decide) (by decide)) (g := (mkF m 20 #[.val (.ref b), .val (.int (5 : Int32)), .val (.int (6 : Int32)), .val (.ref t136), .val (.int (5 : Int32))] [(.int c5), (.int (5 : Int32)), (.ref t136)])) rfl (by rw [hml]; rfl) (argsL := [(.ref t136), (.int (5 : Int32)), (.int c5)]) (rest := []) (lenOf pd_2 rfl) rfl (by show 2 * 0 + _ ≤ _; exact Nat.le_of_eq rfl) (hb hby d16_20) (fun _ _ => ⟨rfl, rfl, (by decide : 1 + 0 ≤ _), (by decide : 12 + 0 ≤ _)⟩)
  dsimp only [Pt.U, Pt.locs, Pt.cells, Pt.slots] at X154 l154 y154 z154 st154 hQ154
  subst l154 y154 z154
  obtain ⟨rfl, N154q, K154q, V154q⟩ := hQ154
  have N154 := Fr.app N151 N154q
  have f155 : Arv Z T154.heap b kb .char (6 : Int32) [(.int c0), (.int c1), (.int c2), (.int c3), (.int c4), (.int c5)] (.int (0 : Int32)) := (f152.keep K154q (ninS ne_b_t136 nin0))
  have O154 := O151.keep K154q (allS g_t136 all0)
  have K154 := K151.trans K154q (allS (Or.inr sz_t136) all0)
  refine own_go st154 ?_
  show own_Goes _ _ _ _ _ _ _ (T154.setTop (mkF m 23 #[.val (.ref b), .val (.int (5 : Int32)), .val (.int (6 : Int32)), .val (.ref t136), .val (.int (5 : Int32))] []))
  refine own_go (fun _ ww => XS.iinc X154.here hx rfl (hb hby d16_23) rfl (l' := #[.val (.ref b), .val (.int (6 : Int32)), .val (.int (6 : Int32)), .val (.ref t136), .val (.int (5 : Int32))]) rfl ww) ?_
  show own_Goes _ _ _ _ _ _ _ (T154.setTop (mkF m 26 #[.val (.ref b), .val (.int (6 : Int32)), .val (.int (6 : Int32)), .val (.ref t136), .val (.int (5 : Int32))] []))
  refine own_go (fun _ ww => XS.iinc X154.here hx rfl (hb hby d16_26) rfl (l' := #[.val (.ref b), .val (.int (6 : Int32)), .val (.int (6 : Int32)), .val (.ref t136), .val (.int (6 : Int32))]) rfl ww) ?_
  show own_Goes _ _ _ _ _ _ _ (T154.setTop (mkF m 29 #[.val (.ref b), .val (.int (6 : Int32)), .val (.int (6 : Int32)), .val (.ref t136), .val (.int (6 : Int32))] []))
  refine own_go (fun _ ww => XS.goto X154.here hx rfl (pc0 := 29) (pc' := 8) rfl (hb hby d16_29) (by decide) (by decide) ww) ?_
  show own_Goes _ _ _ _ _ _ _ (T154.setTop (mkF m 8 #[.val (.ref b), .val (.int (6 : Int32)), .val (.int (6 : Int32)), .val (.ref t136), .val (.int (6 : Int32))] []))
  refine own_go (fun _ ww => XS.iload X154.here hx rfl (hb hby d16_8) rfl  ww) ?_
  show own_Goes _ _ _ _ _ _ _ (T154.setTop (mkF m 10 #[.val (.ref b), .val (.int (6 : Int32)), .val (.int (6 : Int32)), .val (.ref t136), .val (.int (6 : Int32))] [(.int (6 : Int32))]))
  refine own_go (fun _ ww => XS.iloadN X154.here hx rfl (hb hby d16_10) rfl  ww) ?_
  show own_Goes _ _ _ _ _ _ _ (T154.setTop (mkF m 11 #[.val (.ref b), .val (.int (6 : Int32)), .val (.int (6 : Int32)), .val (.ref t136), .val (.int (6 : Int32))] [(.int (6 : Int32)), (.int (6 : Int32))]))
  refine own_go (fun _ ww => XS.icmpYes X154.here hx rfl (pc0 := 11) (pc' := 32) rfl (hb hby d16_11) rfl (flt (by decide : ¬ ((6 : Int32) < (6 : Int32)))).2.1 (by decide) (by decide) ww) ?_
  show own_Goes _ _ _ _ _ _ _ (T154.setTop (mkF m 32 #[.val (.ref b), .val (.int (6 : Int32)), .val (.int (6 : Int32)), .val (.ref t136), .val (.int (6 : Int32))] []))
  refine own_go (fun _ ww => XS.aloadN X154.here hx rfl (hb hby d16_32) rfl rfl ww) ?_
  show own_Goes _ _ _ _ _ _ _ (T154.setTop (mkF m 33 #[.val (.ref b), .val (.int (6 : Int32)), .val (.int (6 : Int32)), .val (.ref t136), .val (.int (6 : Int32))] [(.ref t136)]))
  have qw := V154q
  simp only [StrChars.shr0] at qw
  exact own_out X154 hlk (v := some (.ref t136)) (fun h => by rw [hret] at h; cases h) (fun fs hr => retOut X154 hx (t := (.array .byte)) hret rfl (Or.inr (Or.inr (Or.inr (Or.inr ⟨rfl, rfl, rfl⟩)))) (hb hby d16_33) hr) rfl ⟨_, kt136, rfl, N154, sz_t136, K154, qw⟩ (by decide) (by decide)
theorem d20_0 : decode jdk_52_method_5_code 0 = .ok (.getstatic 44, 3) := by decide +kernel
theorem d20_3 : decode jdk_52_method_5_code 3 = .ok (.ifCond .ne 25, 3) := by decide +kernel
theorem d20_28 : decode jdk_52_method_5_code 28 = .ok (.iload_n 1, 1) := by decide +kernel
theorem d20_29 : decode jdk_52_method_5_code 29 = .ok (.iconst 1, 1) := by decide +kernel
theorem d20_30 : decode jdk_52_method_5_code 30 = .ok (.ishl, 1) := by decide +kernel
theorem d20_31 : decode jdk_52_method_5_code 31 = .ok (.istore_n 1, 1) := by decide +kernel
theorem d20_32 : decode jdk_52_method_5_code 32 = .ok (.aload_n 0, 1) := by decide +kernel
theorem d20_33 : decode jdk_52_method_5_code 33 = .ok (.iload_n 1, 1) := by decide +kernel
theorem d20_34 : decode jdk_52_method_5_code 34 = .ok (.iinc 1 1, 3) := by decide +kernel
theorem d20_37 : decode jdk_52_method_5_code 37 = .ok (.baload, 1) := by decide +kernel
theorem d20_38 : decode jdk_52_method_5_code 38 = .ok (.sipush 255, 3) := by decide +kernel
theorem d20_41 : decode jdk_52_method_5_code 41 = .ok (.iand, 1) := by decide +kernel
theorem d20_42 : decode jdk_52_method_5_code 42 = .ok (.getstatic 59, 3) := by decide +kernel
theorem d20_45 : decode jdk_52_method_5_code 45 = .ok (.ishl, 1) := by decide +kernel
theorem d20_46 : decode jdk_52_method_5_code 46 = .ok (.aload_n 0, 1) := by decide +kernel
theorem d20_47 : decode jdk_52_method_5_code 47 = .ok (.iload_n 1, 1) := by decide +kernel
theorem d20_48 : decode jdk_52_method_5_code 48 = .ok (.baload, 1) := by decide +kernel
theorem d20_49 : decode jdk_52_method_5_code 49 = .ok (.sipush 255, 3) := by decide +kernel
theorem d20_52 : decode jdk_52_method_5_code 52 = .ok (.iand, 1) := by decide +kernel
theorem d20_53 : decode jdk_52_method_5_code 53 = .ok (.getstatic 63, 3) := by decide +kernel
theorem d20_56 : decode jdk_52_method_5_code 56 = .ok (.ishl, 1) := by decide +kernel
theorem d20_57 : decode jdk_52_method_5_code 57 = .ok (.ior, 1) := by decide +kernel
theorem d20_58 : decode jdk_52_method_5_code 58 = .ok (.i2c, 1) := by decide +kernel
theorem d20_59 : decode jdk_52_method_5_code 59 = .ok (.ireturn, 1) := by decide +kernel
theorem ef_getc (m : MethodId) (t : Addr) (kt : ClassId) (cs : List Int32) (j : Nat) : entryFrame m #[(.ref t), (.int (Int32.ofNat j))] 2 = mkF m 0 #[.val (.ref t), .val (.int (Int32.ofNat j))] [] := by
  first | (simp [entryFrame, mkF, argsToLocals, Value.category]; done) | rfl
def Q_getc (Z : State) (t : Addr) (kt : ClassId) (cs : List Int32) (j : Nat) (h0 : Heap) (n0 : Nat) (v : Option Value) (h : Heap) (L : List Loc) : Prop := v = some (.int (cs.getD j 0)) ∧ Fr n0 L ∧ h = h0
set_option maxRecDepth 65536 in
set_option maxHeartbeats 40000000 in
theorem rm_getc (l : Launch) (Z : State) (a0 : Array Value) (hw : ∀ d ∈ tables_1, d.before a0 Z = true) (ws : List Jvm.Cond) (t : Addr) (kt : ClassId) (cs : List Int32) (j : Nat) (h0 : Heap) (n0 : Nat) (O0 : Old Z n0 h0) (Kt : Arv Z h0 t kt .byte (12 : Int32) (StrChars.Road.wideBytes cs) (.int (0 : Int32))) (hl : cs.length = 6) (hj : j < 6) (hbd : ∀ c ∈ cs, ¬ c < 0 ∧ ¬ (65535 : Int32) < c) (SA : Sta Z Z.heap "java/lang/StringUTF16" "$assertionsDisabled" "Z" (.int (1 : Int32))) (SH : Sta Z Z.heap "java/lang/StringUTF16" "HI_BYTE_SHIFT" "I" (.int (0 : Int32))) (SLo : Sta Z Z.heap "java/lang/StringUTF16" "LO_BYTE_SHIFT" "I" (.int (8 : Int32))) :
    MetFree l (⟨"java/lang/StringUTF16", "getChar", "([BI)C"⟩ : MethodName) (head1 (Jvm.Cond.code (⟨"java/lang/StringUTF16", "getChar", "([BI)C"⟩ : MethodName) jdk_52_method_5_code 2 (some .char) :: ws) ({ frames := 0, cells := 0, slots := 0, locals := 0 } : Room)) (fun av_ U => av_ = #[(.ref t), (.int (Int32.ofNat j))] ∧ Z.Warmed39 U.vm ∧ U.heap = h0) (fun _ _ _ _ _ => True) (fun _ U o_ U' => ∃ v L, o_ = .returned v ∧ Q_getc Z t kt cs j h0 n0 v U'.heap L ∧ FrameEnd U o_ U' L ({ frames := 0, cells := 0, slots := 0, locals := 0 } : Room).cells ({ frames := 0, cells := 0, slots := 0, locals := 0 } : Room).slots) := by
  refine MetFree.of_bodySF (plainFor_of_name pn_1) hisR ?_
  intro p e s m args below meth c s₁ Bd hml0 hP hK
  obtain ⟨rfl, hZ, hh⟩ := hP
  have hx := Bd.exec
  have hby := Bd.bytes
  have hml : c.maxLocals = 2 := hml0
  have hown : s.vm.findClass "java/lang/StringUTF16" = some m.cls := findClass_of_methodNamed Bd.named
  have hnm := (name_of_methodNamed Bd.named Bd.method).1
  have hlk := own_lk Bd
  have hret := Bd.returns
  have X0 : Stand p l e ({ frames := 0, cells := 0, slots := 0, locals := 0 } : Room) s m #[(.ref t), (.int (Int32.ofNat j))] below meth c s₁ [] 0 0 := Stand.of_body Bd
  have e0 : s₁.heap = h0 := by rw [← hh, Bd.state]; rfl
  have N0 := Fr.nil n0
  show own_Goes p e below s (Q_getc Z t kt cs j h0 n0) ({ frames := 0, cells := 0, slots := 0, locals := 0 } : Room).cells ({ frames := 0, cells := 0, slots := 0, locals := 0 } : Room).slots (s₁.setTop (entryFrame m #[(.ref t), (.int (Int32.ofNat j))] 2))
  refine own_go (fun _ ww => castTop (ef_getc m t kt cs j) ww) ?_
  show own_Goes _ _ _ _ _ _ _ (s₁.setTop (mkF m 0 #[.val (.ref t), .val (.int (Int32.ofNat j))] []))
  obtain ⟨T156, X156, e156, st156⟩ := getS X0 hx hZ hown (host := "") (hw _ (List.mem_of_getElem? (i := 94) rfl)) Via.refl e0 (SA.ext O0.2) (g := (mkF m 0 #[.val (.ref t), .val (.int (Int32.ofNat j))] [])) rfl (hb hby d20_0)
  refine own_go st156 ?_
  show own_Goes _ _ _ _ _ _ _ (T156.setTop (mkF m 3 #[.val (.ref t), .val (.int (Int32.ofNat j))] [(.int (1 : Int32))]))
  refine own_go (fun _ ww => XS.ifYes X156.here hx rfl (pc0 := 3) (pc' := 28) rfl (hb hby d20_3) rfl (own_if .ne (feq (by decide : ¬ ((1 : Int32) = (0 : Int32)))).2) (by decide) (by decide) ww) ?_
  show own_Goes _ _ _ _ _ _ _ (T156.setTop (mkF m 28 #[.val (.ref t), .val (.int (Int32.ofNat j))] []))
  refine own_go (fun _ ww => XS.iloadN X156.here hx rfl (hb hby d20_28) rfl  ww) ?_
  show own_Goes _ _ _ _ _ _ _ (T156.setTop (mkF m 29 #[.val (.ref t), .val (.int (Int32.ofNat j))] [(.int (Int32.ofNat j))]))
  refine own_go (fun _ ww => XS.iconst X156.here hx rfl (hb hby d20_29) ww) ?_
  show own_Goes _ _ _ _ _ _ _ (T156.setTop (mkF m 30 #[.val (.ref t), .val (.int (Int32.ofNat j))] [(.int (1 : Int32)), (.int (Int32.ofNat j))]))
  refine own_go (fun _ ww => XT.ishl X156.here hx rfl (hb hby d20_30) rfl ww) ?_
  show own_Goes _ _ _ _ _ _ _ (T156.setTop (mkF m 31 #[.val (.ref t), .val (.int (Int32.ofNat j))] [(.int ((Int32.ofNat j) <<< ((1 : Int32) &&& 31)))]))
  rw [own_shl1 hj]
  show own_Goes _ _ _ _ _ _ _ (T156.setTop (mkF m 31 #[.val (.ref t), .val (.int (Int32.ofNat j))] [(.int (Int32.ofNat (2 * j)))]))
  refine own_go (fun _ ww => XS.istoreN X156.here hx rfl (hb hby d20_31) rfl (l' := #[.val (.ref t), .val (.int (Int32.ofNat (2 * j)))]) rfl ww) ?_
  show own_Goes _ _ _ _ _ _ _ (T156.setTop (mkF m 32 #[.val (.ref t), .val (.int (Int32.ofNat (2 * j)))] []))
  refine own_go (fun _ ww => XS.aloadN X156.here hx rfl (hb hby d20_32) rfl rfl ww) ?_
  show own_Goes _ _ _ _ _ _ _ (T156.setTop (mkF m 33 #[.val (.ref t), .val (.int (Int32.ofNat (2 * j)))] [(.ref t)]))
  refine own_go (fun _ ww => XS.iloadN X156.here hx rfl (hb hby d20_33) rfl  ww) ?_
  show own_Goes _ _ _ _ _ _ _ (T156.setTop (mkF m 34 #[.val (.ref t), .val (.int (Int32.ofNat (2 * j)))] [(.int (Int32.ofNat (2 * j))), (.ref t)]))
  refine own_go (fun _ ww => XS.iinc X156.here hx rfl (hb hby d20_34) rfl (l' := #[.val (.ref t), .val (.int ((Int32.ofNat (2 * j)) + (1 : Int32)))]) rfl ww) ?_
  show own_Goes _ _ _ _ _ _ _ (T156.setTop (mkF m 37 #[.val (.ref t), .val (.int ((Int32.ofNat (2 * j)) + (1 : Int32)))] [(.int (Int32.ofNat (2 * j))), (.ref t)]))
  rw [show Int32.ofNat (2 * j) + (1 : Int32) = Int32.ofNat (2 * j + 1) from own_addN (2 * j) 1]
  show own_Goes _ _ _ _ _ _ _ (T156.setTop (mkF m 37 #[.val (.ref t), .val (.int (Int32.ofNat (2 * j + 1)))] [(.int (Int32.ofNat (2 * j))), (.ref t)]))
  obtain ⟨cl157, Ar157, -, S157, -, H157, -⟩ := id Kt
  have hin157 := inb_of (j := (Int32.ofNat (2 * j))) S157 (own_inb (a := 2 * j) (z := 12) (by omega) (by omega))
  have hat157 : cl157.slots[((Int32.ofNat (2 * j))).toNatClampNeg]? = some (.int (StrChars.lo8 (cs.getD j 0))) := Has.at H157 hin157 (by rw [own_clampN (a := 2 * j) (by omega)]; exact StrChars.Road.wide_lo _ _ _ (by omega))
  refine own_go (fun _ ww => X156.baloadBytes hx (j := (Int32.ofNat (2 * j))) (v := (.int (StrChars.lo8 (cs.getD j 0)))) (by rw [e156]; exact Ar157.1) (State.isArrayOf_alike hZ.alike Ar157.2.1) Ar157.2.2 hin157 hat157 (g := (mkF m 37 #[.val (.ref t), .val (.int (Int32.ofNat (2 * j + 1)))] [(.int (Int32.ofNat (2 * j))), (.ref t)])) rfl rfl (hb hby d20_37) _ ww) ?_
  show own_Goes _ _ _ _ _ _ _ (T156.setTop (mkF m 38 #[.val (.ref t), .val (.int (Int32.ofNat (2 * j + 1)))] [(.int (StrChars.lo8 (cs.getD j 0)))]))
  refine own_go (fun _ ww => XS.sipush X156.here hx rfl (hb hby d20_38) ww) ?_
  show own_Goes _ _ _ _ _ _ _ (T156.setTop (mkF m 41 #[.val (.ref t), .val (.int (Int32.ofNat (2 * j + 1)))] [(.int (255 : Int32)), (.int (StrChars.lo8 (cs.getD j 0)))]))
  refine own_go (fun _ ww => XS.iand X156.here hx rfl (hb hby d20_41) rfl ww) ?_
  show own_Goes _ _ _ _ _ _ _ (T156.setTop (mkF m 42 #[.val (.ref t), .val (.int (Int32.ofNat (2 * j + 1)))] [(.int ((StrChars.lo8 (cs.getD j 0)) &&& (255 : Int32)))]))
  obtain ⟨T158, X158, e158, st158⟩ := getS X156 hx hZ hown (host := "") (hw _ (List.mem_of_getElem? (i := 95) rfl)) Via.refl e156 (SH.ext O0.2) (g := (mkF m 42 #[.val (.ref t), .val (.int (Int32.ofNat (2 * j + 1)))] [(.int ((StrChars.lo8 (cs.getD j 0)) &&& (255 : Int32)))])) rfl (hb hby d20_42)
  refine own_go st158 ?_
  show own_Goes _ _ _ _ _ _ _ (T158.setTop (mkF m 45 #[.val (.ref t), .val (.int (Int32.ofNat (2 * j + 1)))] [(.int (0 : Int32)), (.int ((StrChars.lo8 (cs.getD j 0)) &&& (255 : Int32)))]))
  refine own_go (fun _ ww => XT.ishl X158.here hx rfl (hb hby d20_45) rfl ww) ?_
  show own_Goes _ _ _ _ _ _ _ (T158.setTop (mkF m 46 #[.val (.ref t), .val (.int (Int32.ofNat (2 * j + 1)))] [(.int (((StrChars.lo8 (cs.getD j 0)) &&& (255 : Int32)) <<< ((0 : Int32) &&& 31)))]))
  refine own_go (fun _ ww => XS.aloadN X158.here hx rfl (hb hby d20_46) rfl rfl ww) ?_
  show own_Goes _ _ _ _ _ _ _ (T158.setTop (mkF m 47 #[.val (.ref t), .val (.int (Int32.ofNat (2 * j + 1)))] [(.ref t), (.int (((StrChars.lo8 (cs.getD j 0)) &&& (255 : Int32)) <<< ((0 : Int32) &&& 31)))]))
  refine own_go (fun _ ww => XS.iloadN X158.here hx rfl (hb hby d20_47) rfl  ww) ?_
  show own_Goes _ _ _ _ _ _ _ (T158.setTop (mkF m 48 #[.val (.ref t), .val (.int (Int32.ofNat (2 * j + 1)))] [(.int (Int32.ofNat (2 * j + 1))), (.ref t), (.int (((StrChars.lo8 (cs.getD j 0)) &&& (255 : Int32)) <<< ((0 : Int32) &&& 31)))]))
  obtain ⟨cl159, Ar159, -, S159, -, H159, -⟩ := id Kt
  have hin159 := inb_of (j := (Int32.ofNat (2 * j + 1))) S159 (own_inb (a := 2 * j + 1) (z := 12) (by omega) (by omega))
  have hat159 : cl159.slots[((Int32.ofNat (2 * j + 1))).toNatClampNeg]? = some (.int (StrChars.hi8 (cs.getD j 0))) := Has.at H159 hin159 (by rw [own_clampN (a := 2 * j + 1) (by omega)]; exact StrChars.Road.wide_hi _ _ _ (by omega))
  refine own_go (fun _ ww => X158.baloadBytes hx (j := (Int32.ofNat (2 * j + 1))) (v := (.int (StrChars.hi8 (cs.getD j 0)))) (by rw [e158]; exact Ar159.1) (State.isArrayOf_alike hZ.alike Ar159.2.1) Ar159.2.2 hin159 hat159 (g := (mkF m 48 #[.val (.ref t), .val (.int (Int32.ofNat (2 * j + 1)))] [(.int (Int32.ofNat (2 * j + 1))), (.ref t), (.int (((StrChars.lo8 (cs.getD j 0)) &&& (255 : Int32)) <<< ((0 : Int32) &&& 31)))])) rfl rfl (hb hby d20_48) _ ww) ?_
  show own_Goes _ _ _ _ _ _ _ (T158.setTop (mkF m 49 #[.val (.ref t), .val (.int (Int32.ofNat (2 * j + 1)))] [(.int (StrChars.hi8 (cs.getD j 0))), (.int (((StrChars.lo8 (cs.getD j 0)) &&& (255 : Int32)) <<< ((0 : Int32) &&& 31)))]))
  refine own_go (fun _ ww => XS.sipush X158.here hx rfl (hb hby d20_49) ww) ?_
  show own_Goes _ _ _ _ _ _ _ (T158.setTop (mkF m 52 #[.val (.ref t), .val (.int (Int32.ofNat (2 * j + 1)))] [(.int (255 : Int32)), (.int (StrChars.hi8 (cs.getD j 0))), (.int (((StrChars.lo8 (cs.getD j 0)) &&& (255 : Int32)) <<< ((0 : Int32) &&& 31)))]))
  refine own_go (fun _ ww => XS.iand X158.here hx rfl (hb hby d20_52) rfl ww) ?_
  show own_Goes _ _ _ _ _ _ _ (T158.setTop (mkF m 53 #[.val (.ref t), .val (.int (Int32.ofNat (2 * j + 1)))] [(.int ((StrChars.hi8 (cs.getD j 0)) &&& (255 : Int32))), (.int (((StrChars.lo8 (cs.getD j 0)) &&& (255 : Int32)) <<< ((0 : Int32) &&& 31)))]))
  obtain ⟨T160, X160, e160, st160⟩ := getS X158 hx hZ hown (host := "") (hw _ (List.mem_of_getElem? (i := 96) rfl)) Via.refl e158 (SLo.ext O0.2) (g := (mkF m 53 #[.val (.ref t), .val (.int (Int32.ofNat (2 * j + 1)))] [(.int ((StrChars.hi8 (cs.getD j 0)) &&& (255 : Int32))), (.int (((StrChars.lo8 (cs.getD j 0)) &&& (255 : Int32)) <<< ((0 : Int32) &&& 31)))])) rfl (hb hby d20_53)
  refine own_go st160 ?_
  show own_Goes _ _ _ _ _ _ _ (T160.setTop (mkF m 56 #[.val (.ref t), .val (.int (Int32.ofNat (2 * j + 1)))] [(.int (8 : Int32)), (.int ((StrChars.hi8 (cs.getD j 0)) &&& (255 : Int32))), (.int (((StrChars.lo8 (cs.getD j 0)) &&& (255 : Int32)) <<< ((0 : Int32) &&& 31)))]))
  refine own_go (fun _ ww => XT.ishl X160.here hx rfl (hb hby d20_56) rfl ww) ?_
  show own_Goes _ _ _ _ _ _ _ (T160.setTop (mkF m 57 #[.val (.ref t), .val (.int (Int32.ofNat (2 * j + 1)))] [(.int (((StrChars.hi8 (cs.getD j 0)) &&& (255 : Int32)) <<< ((8 : Int32) &&& 31))), (.int (((StrChars.lo8 (cs.getD j 0)) &&& (255 : Int32)) <<< ((0 : Int32) &&& 31)))]))
  refine own_go (fun _ ww => XT.ior X160.here hx rfl (hb hby d20_57) rfl ww) ?_
  show own_Goes _ _ _ _ _ _ _ (T160.setTop (mkF m 58 #[.val (.ref t), .val (.int (Int32.ofNat (2 * j + 1)))] [(.int ((((StrChars.lo8 (cs.getD j 0)) &&& (255 : Int32)) <<< ((0 : Int32) &&& 31)) ||| (((StrChars.hi8 (cs.getD j 0)) &&& (255 : Int32)) <<< ((8 : Int32) &&& 31))))]))
  refine own_go (fun _ ww => XT.i2c X160.here hx rfl (hb hby d20_58) rfl ww) ?_
  show own_Goes _ _ _ _ _ _ _ (T160.setTop (mkF m 59 #[.val (.ref t), .val (.int (Int32.ofNat (2 * j + 1)))] [(.int (((((StrChars.lo8 (cs.getD j 0)) &&& (255 : Int32)) <<< ((0 : Int32) &&& 31)) ||| (((StrChars.hi8 (cs.getD j 0)) &&& (255 : Int32)) <<< ((8 : Int32) &&& 31))).toUInt32.toUInt16.toUInt32.toInt32))]))
  exact own_out X160 hlk (v := some (.int (((((StrChars.lo8 (cs.getD j 0)) &&& (255 : Int32)) <<< ((0 : Int32) &&& 31)) ||| (((StrChars.hi8 (cs.getD j 0)) &&& (255 : Int32)) <<< ((8 : Int32) &&& 31))).toUInt32.toUInt16.toUInt32.toInt32))) (fun h => by rw [hret] at h; cases h) (fun fs hr => retOut X160 hx (t := .char) hret (XT.narrow_c _) (Or.inl ⟨rfl, by simp, _, rfl⟩) (hb hby d20_59) hr) e160 ⟨congrArg (fun z => some (Value.int z)) (StrChars.pair_says (hbd _ (own_getD_mem (j := j) (by omega))).1 (hbd _ (own_getD_mem (j := j) (by omega))).2), N0, rfl⟩ (by decide) (by decide)
theorem d5_0 : decode jdk_52_method_16_code 0 = .ok (.iload_n 2, 1) := by decide +kernel
theorem d5_1 : decode jdk_52_method_16_code 1 = .ok (.newarray .byte, 2) := by decide +kernel
theorem d5_3 : decode jdk_52_method_16_code 3 = .ok (.astore_n 3, 1) := by decide +kernel
theorem d5_4 : decode jdk_52_method_16_code 4 = .ok (.aload_n 0, 1) := by decide +kernel
theorem d5_5 : decode jdk_52_method_16_code 5 = .ok (.iload_n 1, 1) := by decide +kernel
theorem d5_6 : decode jdk_52_method_16_code 6 = .ok (.aload_n 3, 1) := by decide +kernel
theorem d5_7 : decode jdk_52_method_16_code 7 = .ok (.iconst 0, 1) := by decide +kernel
theorem d5_8 : decode jdk_52_method_16_code 8 = .ok (.iload_n 2, 1) := by decide +kernel
theorem d5_9 : decode jdk_52_method_16_code 9 = .ok (.invokestatic 115, 3) := by decide +kernel
theorem d5_12 : decode jdk_52_method_16_code 12 = .ok (.istore 4, 2) := by decide +kernel
theorem d5_14 : decode jdk_52_method_16_code 14 = .ok (.iload 4, 2) := by decide +kernel
theorem d5_16 : decode jdk_52_method_16_code 16 = .ok (.iload_n 2, 1) := by decide +kernel
theorem d5_17 : decode jdk_52_method_16_code 17 = .ok (.if_icmp .eq 40, 3) := by decide +kernel
theorem d5_57 : decode jdk_52_method_16_code 57 = .ok (.aload_n 3, 1) := by decide +kernel
theorem d5_58 : decode jdk_52_method_16_code 58 = .ok (.areturn, 1) := by decide +kernel
theorem ef_cm3L (m : MethodId) (b : Addr) (kb : ClassId) (c0 : Int32) (c1 : Int32) (c2 : Int32) (c3 : Int32) (c4 : Int32) (c5 : Int32) : entryFrame m #[(.ref b), (.int (0 : Int32)), (.int (6 : Int32))] 6 = mkF m 0 #[.val (.ref b), .val (.int (0 : Int32)), .val (.int (6 : Int32)), .unset, .unset, .unset] [] := by
  first | (simp [entryFrame, mkF, argsToLocals, Value.category]; done) | rfl
def Q_cm3L (Z : State) (b : Addr) (kb : ClassId) (c0 : Int32) (c1 : Int32) (c2 : Int32) (c3 : Int32) (c4 : Int32) (c5 : Int32) (h0 : Heap) (n0 : Nat) (v : Option Value) (h : Heap) (L : List Loc) : Prop := ∃ (t : Addr) (kt : ClassId), v = some (.ref t) ∧ Fr n0 L ∧ h0.size ≤ t ∧ Keep h0 h [] ∧ Arv Z h t kt .byte (6 : Int32) (([c0, c1, c2, c3, c4, c5] : List Int32).map fun c => Value.int (StrChars.lo8 c)) (.int (0 : Int32))
set_option maxRecDepth 65536 in
set_option maxHeartbeats 40000000 in
theorem rm_cm3L (l : Launch) (Z : State) (a0 : Array Value) (hw : ∀ d ∈ tables_1, d.before a0 Z = true) (ws : List Jvm.Cond) (b : Addr) (kb : ClassId) (c0 : Int32) (c1 : Int32) (c2 : Int32) (c3 : Int32) (c4 : Int32) (c5 : Int32) (h0 : Heap) (n0 : Nat) (O0 : Old Z n0 h0) (Vb : Arv Z h0 b kb .char (6 : Int32) [(.int c0), (.int c1), (.int c2), (.int c3), (.int c4), (.int c5)] (.int (0 : Int32))) (le0 : ¬ (255 : Int32) < c0) (le1 : ¬ (255 : Int32) < c1) (le2 : ¬ (255 : Int32) < c2) (le3 : ¬ (255 : Int32) < c3) (le4 : ¬ (255 : Int32) < c4) (le5 : ¬ (255 : Int32) < c5) :
    MetFree l (⟨"java/lang/StringUTF16", "compress", "([CII)[B"⟩ : MethodName) (head1 (Jvm.Cond.code (⟨"java/lang/StringUTF16", "compress", "([CII)[B"⟩ : MethodName) jdk_52_method_16_code 6 (some (.array .byte)) :: ws) ({ frames := 1, cells := 1, slots := 6, locals := 18 } : Room)) (fun av_ U => av_ = #[(.ref b), (.int (0 : Int32)), (.int (6 : Int32))] ∧ Z.Warmed39 U.vm ∧ U.heap = h0) (fun _ _ _ _ _ => True) (fun _ U o_ U' => ∃ v L, o_ = .returned v ∧ Q_cm3L Z b kb c0 c1 c2 c3 c4 c5 h0 n0 v U'.heap L ∧ FrameEnd U o_ U' L ({ frames := 1, cells := 1, slots := 6, locals := 18 } : Room).cells ({ frames := 1, cells := 1, slots := 6, locals := 18 } : Room).slots) := by
  refine MetFree.of_bodySF (plainFor_of_name pn_1) hisR ?_
  intro p e s m args below meth c s₁ Bd hml0 hP hK
  obtain ⟨rfl, hZ, hh⟩ := hP
  have hx := Bd.exec
  have hby := Bd.bytes
  have hml : c.maxLocals = 6 := hml0
  have hown : s.vm.findClass "java/lang/StringUTF16" = some m.cls := findClass_of_methodNamed Bd.named
  have hnm := (name_of_methodNamed Bd.named Bd.method).1
  have hlk := own_lk Bd
  have hret := Bd.returns
  have X0 : Stand p l e ({ frames := 1, cells := 1, slots := 6, locals := 18 } : Room) s m #[(.ref b), (.int (0 : Int32)), (.int (6 : Int32))] below meth c s₁ [] 0 0 := Stand.of_body Bd
  have e0 : s₁.heap = h0 := by rw [← hh, Bd.state]; rfl
  have N0 := Fr.nil n0
  show own_Goes p e below s (Q_cm3L Z b kb c0 c1 c2 c3 c4 c5 h0 n0) ({ frames := 1, cells := 1, slots := 6, locals := 18 } : Room).cells ({ frames := 1, cells := 1, slots := 6, locals := 18 } : Room).slots (s₁.setTop (entryFrame m #[(.ref b), (.int (0 : Int32)), (.int (6 : Int32))] 6))
  refine own_go (fun _ ww => castTop (ef_cm3L m b kb c0 c1 c2 c3 c4 c5) ww) ?_
  show own_Goes _ _ _ _ _ _ _ (s₁.setTop (mkF m 0 #[.val (.ref b), .val (.int (0 : Int32)), .val (.int (6 : Int32)), .unset, .unset, .unset] []))
  refine own_go (fun _ ww => XS.iloadN X0.here hx rfl (hb hby d5_0) rfl  ww) ?_
  show own_Goes _ _ _ _ _ _ _ (s₁.setTop (mkF m 1 #[.val (.ref b), .val (.int (0 : Int32)), .val (.int (6 : Int32)), .unset, .unset, .unset] [(.int (6 : Int32))]))
  obtain ⟨T161, h161, k161, X161, e161, E161, A161, st161⟩ := newP X0 hx hZ (hw _ (List.mem_of_getElem? (i := 26) rfl)) e0 (g := (mkF m 1 #[.val (.ref b), .val (.int (0 : Int32)), .val (.int (6 : Int32)), .unset, .unset, .unset] [(.int (6 : Int32))])) rfl (hb hby d5_1) rfl (by decide) (cap := 6) (by decide) (by decide) (by decide) (by decide)
  obtain ⟨b161, g161⟩ : ∃ z, z = h0.size := ⟨_, rfl⟩
  rw [← g161] at A161 st161
  have ne_b_b161 : b ≠ b161 := Nat.ne_of_lt (Nat.lt_of_lt_of_le Vb.lt (Nat.le_of_eq g161.symm))
  have g_b161 : n0 ≤ b161 := Nat.le_trans (O0.1 ▸ O0.2.1) (Nat.le_of_eq g161.symm)
  have f162 : Arv Z h161 b kb .char (6 : Int32) [(.int c0), (.int c1), (.int c2), (.int c3), (.int c4), (.int c5)] (.int (0 : Int32)) := (Arv.ext Vb E161)
  have O161 := O0.ext E161
  have sz_b161 : h0.size ≤ b161 := Nat.le_trans (own_ks (Keep.refl h0 [])) (Nat.le_of_eq g161.symm)
  have K161 := (Keep.refl h0 []).ext E161
  have V161 : Arv Z h161 b161 k161 .byte (6 : Int32) [(.int (0 : Int32)), (.int (0 : Int32)), (.int (0 : Int32)), (.int (0 : Int32)), (.int (0 : Int32)), (.int (0 : Int32))] (.int (0 : Int32)) := (Arv.new A161 (by decide)).pad (pad_rep [] (.int (0 : Int32)) 6)
  refine own_go st161 ?_
  show own_Goes _ _ _ _ _ _ _ (T161.setTop (mkF m 3 #[.val (.ref b), .val (.int (0 : Int32)), .val (.int (6 : Int32)), .unset, .unset, .unset] [(.ref b161)]))
  refine own_go (fun _ ww => XS.astoreN X161.here hx rfl (hb hby d5_3) rfl rfl (l' := #[.val (.ref b), .val (.int (0 : Int32)), .val (.int (6 : Int32)), .val (.ref b161), .unset, .unset]) rfl ww) ?_
  show own_Goes _ _ _ _ _ _ _ (T161.setTop (mkF m 4 #[.val (.ref b), .val (.int (0 : Int32)), .val (.int (6 : Int32)), .val (.ref b161), .unset, .unset] []))
  refine own_go (fun _ ww => XS.aloadN X161.here hx rfl (hb hby d5_4) rfl rfl ww) ?_
  show own_Goes _ _ _ _ _ _ _ (T161.setTop (mkF m 5 #[.val (.ref b), .val (.int (0 : Int32)), .val (.int (6 : Int32)), .val (.ref b161), .unset, .unset] [(.ref b)]))
  refine own_go (fun _ ww => XS.iloadN X161.here hx rfl (hb hby d5_5) rfl  ww) ?_
  show own_Goes _ _ _ _ _ _ _ (T161.setTop (mkF m 6 #[.val (.ref b), .val (.int (0 : Int32)), .val (.int (6 : Int32)), .val (.ref b161), .unset, .unset] [(.int (0 : Int32)), (.ref b)]))
  refine own_go (fun _ ww => XS.aloadN X161.here hx rfl (hb hby d5_6) rfl rfl ww) ?_
  show own_Goes _ _ _ _ _ _ _ (T161.setTop (mkF m 7 #[.val (.ref b), .val (.int (0 : Int32)), .val (.int (6 : Int32)), .val (.ref b161), .unset, .unset] [(.ref b161), (.int (0 : Int32)), (.ref b)]))
  refine own_go (fun _ ww => XS.iconst X161.here hx rfl (hb hby d5_7) ww) ?_
  show own_Goes _ _ _ _ _ _ _ (T161.setTop (mkF m 8 #[.val (.ref b), .val (.int (0 : Int32)), .val (.int (6 : Int32)), .val (.ref b161), .unset, .unset] [(.int (0 : Int32)), (.ref b161), (.int (0 : Int32)), (.ref b)]))
  refine own_go (fun _ ww => XS.iloadN X161.here hx rfl (hb hby d5_8) rfl  ww) ?_
  show own_Goes _ _ _ _ _ _ _ (T161.setTop (mkF m 9 #[.val (.ref b), .val (.int (0 : Int32)), .val (.int (6 : Int32)), .val (.ref b161), .unset, .unset] [(.int (6 : Int32)), (.int (0 : Int32)), (.ref b161), (.int (0 : Int32)), (.ref b)]))
  obtain ⟨_, _, ⟨T163, L163, k163, n163⟩, -, X163, ⟨Lc163, hQ163, l163, y163, z163⟩, st163⟩ := Jvm.LawKit.callS X161 hx (y := (⟨"java/lang/StringUTF16", "compress", "([CI[BII)I"⟩ : MethodName)) hown (mvT hZ (hw _ (List.mem_of_getElem? (i := 27) rfl))) (mvT hZ (hw _ (List.mem_of_getElem? (i := 28) rfl))) (mvT hZ (hw _ (List.mem_of_getElem? (i := 24) rfl))) (mvT hZ (hw _ (List.mem_of_getElem? (i := 29) rfl))) (by decide) (backOf (W := 0) (rm_cm5_6 l Z a0 hw [] b kb b161 k161 c0 c1 c2 c3 c4 c5 h161 n0 O161 f162 V161 g_b161 ne_b_b161 le0 le1 le2 le3 le4 le5) hZ (hw _ (List.mem_of_getElem? (i := 29) rfl)) (hw _ (List.mem_of_getElem? (i := 24) rfl)) (by decide) (by decide)) (g := (mkF m 9 #[.val (.ref b), .val (.int (0 : Int32)), .val (.int (6 : Int32)), .val (.ref b161), .unset, .unset] [(.int (6 : Int32)), (.int (0 : Int32)), (.ref b161), (.int (0 : Int32)), (.ref b)])) rfl (by rw [hml]; rfl) (argsL := [(.ref b), (.int (0 : Int32)), (.ref b161), (.int (0 : Int32)), (.int (6 : Int32))]) (rest := []) (lenOf pd_3 rfl) rfl (by show 2 * 0 + _ ≤ _; exact Nat.le_of_eq rfl) (hb hby d5_9) (fun _ _ => ⟨rfl, e161, (by decide : 1 + 0 ≤ _), (by decide : 6 + 0 ≤ _)⟩)
  dsimp only [Pt.U, Pt.locs, Pt.cells, Pt.slots] at X163 l163 y163 z163 st163 hQ163
  subst l163 y163 z163
  obtain ⟨rfl, N163q, K163q, V163q⟩ := hQ163
  have N163 := Fr.app N0 N163q
  have f164 : Arv Z T163.heap b kb .char (6 : Int32) [(.int c0), (.int c1), (.int c2), (.int c3), (.int c4), (.int c5)] (.int (0 : Int32)) := (f162.keep K163q (ninS ne_b_b161 nin0))
  have O163 := O161.keep K163q (allS g_b161 all0)
  have K163 := K161.trans K163q (allS (Or.inr sz_b161) all0)
  refine own_go st163 ?_
  show own_Goes _ _ _ _ _ _ _ (T163.setTop (mkF m 12 #[.val (.ref b), .val (.int (0 : Int32)), .val (.int (6 : Int32)), .val (.ref b161), .unset, .unset] [(.int (6 : Int32))]))
  refine own_go (fun _ ww => XS.istore X163.here hx rfl (hb hby d5_12) rfl (l' := #[.val (.ref b), .val (.int (0 : Int32)), .val (.int (6 : Int32)), .val (.ref b161), .val (.int (6 : Int32)), .unset]) rfl ww) ?_
  show own_Goes _ _ _ _ _ _ _ (T163.setTop (mkF m 14 #[.val (.ref b), .val (.int (0 : Int32)), .val (.int (6 : Int32)), .val (.ref b161), .val (.int (6 : Int32)), .unset] []))
  refine own_go (fun _ ww => XS.iload X163.here hx rfl (hb hby d5_14) rfl  ww) ?_
  show own_Goes _ _ _ _ _ _ _ (T163.setTop (mkF m 16 #[.val (.ref b), .val (.int (0 : Int32)), .val (.int (6 : Int32)), .val (.ref b161), .val (.int (6 : Int32)), .unset] [(.int (6 : Int32))]))
  refine own_go (fun _ ww => XS.iloadN X163.here hx rfl (hb hby d5_16) rfl  ww) ?_
  show own_Goes _ _ _ _ _ _ _ (T163.setTop (mkF m 17 #[.val (.ref b), .val (.int (0 : Int32)), .val (.int (6 : Int32)), .val (.ref b161), .val (.int (6 : Int32)), .unset] [(.int (6 : Int32)), (.int (6 : Int32))]))
  refine own_go (fun _ ww => XS.icmpYes X163.here hx rfl (pc0 := 17) (pc' := 57) rfl (hb hby d5_17) rfl (teq (by decide : (6 : Int32) = (6 : Int32))).1 (by decide) (by decide) ww) ?_
  show own_Goes _ _ _ _ _ _ _ (T163.setTop (mkF m 57 #[.val (.ref b), .val (.int (0 : Int32)), .val (.int (6 : Int32)), .val (.ref b161), .val (.int (6 : Int32)), .unset] []))
  refine own_go (fun _ ww => XS.aloadN X163.here hx rfl (hb hby d5_57) rfl rfl ww) ?_
  show own_Goes _ _ _ _ _ _ _ (T163.setTop (mkF m 58 #[.val (.ref b), .val (.int (0 : Int32)), .val (.int (6 : Int32)), .val (.ref b161), .val (.int (6 : Int32)), .unset] [(.ref b161)]))
  exact own_out X163 hlk (v := some (.ref b161)) (fun h => by rw [hret] at h; cases h) (fun fs hr => retOut X163 hx (t := (.array .byte)) hret rfl (Or.inr (Or.inr (Or.inr (Or.inr ⟨rfl, rfl, rfl⟩)))) (hb hby d5_58) hr) rfl ⟨_, k161, rfl, N163, sz_b161, K163, V163q⟩ (by decide) (by decide)
theorem d5_20 : decode jdk_52_method_16_code 20 = .ok (.aload_n 0, 1) := by decide +kernel
theorem d5_21 : decode jdk_52_method_16_code 21 = .ok (.iload_n 1, 1) := by decide +kernel
theorem d5_22 : decode jdk_52_method_16_code 22 = .ok (.iload_n 2, 1) := by decide +kernel
theorem d5_23 : decode jdk_52_method_16_code 23 = .ok (.invokestatic 119, 3) := by decide +kernel
theorem d5_26 : decode jdk_52_method_16_code 26 = .ok (.astore 5, 2) := by decide +kernel
theorem d5_28 : decode jdk_52_method_16_code 28 = .ok (.aload 5, 2) := by decide +kernel
theorem d5_30 : decode jdk_52_method_16_code 30 = .ok (.iload 4, 2) := by decide +kernel
theorem d5_32 : decode jdk_52_method_16_code 32 = .ok (.invokestatic 71, 3) := by decide +kernel
theorem d5_35 : decode jdk_52_method_16_code 35 = .ok (.sipush 255, 3) := by decide +kernel
theorem d5_38 : decode jdk_52_method_16_code 38 = .ok (.if_icmp .gt 16, 3) := by decide +kernel
theorem d5_54 : decode jdk_52_method_16_code 54 = .ok (.aload 5, 2) := by decide +kernel
theorem d5_56 : decode jdk_52_method_16_code 56 = .ok (.areturn, 1) := by decide +kernel
theorem ef_cm3W (m : MethodId) (b : Addr) (kb : ClassId) (c0 : Int32) (c1 : Int32) (c2 : Int32) (c3 : Int32) (c4 : Int32) (c5 : Int32) : entryFrame m #[(.ref b), (.int (0 : Int32)), (.int (6 : Int32))] 6 = mkF m 0 #[.val (.ref b), .val (.int (0 : Int32)), .val (.int (6 : Int32)), .unset, .unset, .unset] [] := by
  first | (simp [entryFrame, mkF, argsToLocals, Value.category]; done) | rfl
def Q_cm3W (Z : State) (b : Addr) (kb : ClassId) (c0 : Int32) (c1 : Int32) (c2 : Int32) (c3 : Int32) (c4 : Int32) (c5 : Int32) (h0 : Heap) (n0 : Nat) (v : Option Value) (h : Heap) (L : List Loc) : Prop := ∃ (t : Addr) (kt : ClassId), v = some (.ref t) ∧ Fr n0 L ∧ h0.size ≤ t ∧ Keep h0 h [] ∧ Arv Z h t kt .byte (12 : Int32) (StrChars.Road.wideBytes ([c0, c1, c2, c3, c4, c5] : List Int32)) (.int (0 : Int32))
set_option maxRecDepth 65536 in
set_option maxHeartbeats 40000000 in
theorem rm_cm3W (l : Launch) (Z : State) (a0 : Array Value) (hw : ∀ d ∈ tables_1, d.before a0 Z = true) (ws : List Jvm.Cond) (b : Addr) (kb : ClassId) (c0 : Int32) (c1 : Int32) (c2 : Int32) (c3 : Int32) (c4 : Int32) (c5 : Int32) (h0 : Heap) (n0 : Nat) (O0 : Old Z n0 h0) (Vb : Arv Z h0 b kb .char (6 : Int32) [(.int c0), (.int c1), (.int c2), (.int c3), (.int c4), (.int c5)] (.int (0 : Int32))) (hwide : ¬ ∀ c ∈ ([c0, c1, c2, c3, c4, c5] : List Int32), ¬ (255 : Int32) < c) (hbd : ∀ c ∈ ([c0, c1, c2, c3, c4, c5] : List Int32), ¬ c < 0 ∧ ¬ (65535 : Int32) < c) (SA : Sta Z Z.heap "java/lang/StringUTF16" "$assertionsDisabled" "Z" (.int (1 : Int32))) (SH : Sta Z Z.heap "java/lang/StringUTF16" "HI_BYTE_SHIFT" "I" (.int (0 : Int32))) (SLo : Sta Z Z.heap "java/lang/StringUTF16" "LO_BYTE_SHIFT" "I" (.int (8 : Int32))) :
    MetFree l (⟨"java/lang/StringUTF16", "compress", "([CII)[B"⟩ : MethodName) (head1 (Jvm.Cond.code (⟨"java/lang/StringUTF16", "compress", "([CII)[B"⟩ : MethodName) jdk_52_method_16_code 6 (some (.array .byte)) :: ws) ({ frames := 3, cells := 2, slots := 18, locals := 40 } : Room)) (fun av_ U => av_ = #[(.ref b), (.int (0 : Int32)), (.int (6 : Int32))] ∧ Z.Warmed39 U.vm ∧ U.heap = h0) (fun _ _ _ _ _ => True) (fun _ U o_ U' => ∃ v L, o_ = .returned v ∧ Q_cm3W Z b kb c0 c1 c2 c3 c4 c5 h0 n0 v U'.heap L ∧ FrameEnd U o_ U' L ({ frames := 3, cells := 2, slots := 18, locals := 40 } : Room).cells ({ frames := 3, cells := 2, slots := 18, locals := 40 } : Room).slots) := by
  refine MetFree.of_bodySF (plainFor_of_name pn_1) hisR ?_
  intro p e s m args below meth c s₁ Bd hml0 hP hK
  obtain ⟨rfl, hZ, hh⟩ := hP
  have hx := Bd.exec
  have hby := Bd.bytes
  have hml : c.maxLocals = 6 := hml0
  have hown : s.vm.findClass "java/lang/StringUTF16" = some m.cls := findClass_of_methodNamed Bd.named
  have hnm := (name_of_methodNamed Bd.named Bd.method).1
  have hlk := own_lk Bd
  have hret := Bd.returns
  have X0 : Stand p l e ({ frames := 3, cells := 2, slots := 18, locals := 40 } : Room) s m #[(.ref b), (.int (0 : Int32)), (.int (6 : Int32))] below meth c s₁ [] 0 0 := Stand.of_body Bd
  have e0 : s₁.heap = h0 := by rw [← hh, Bd.state]; rfl
  have N0 := Fr.nil n0
  show own_Goes p e below s (Q_cm3W Z b kb c0 c1 c2 c3 c4 c5 h0 n0) ({ frames := 3, cells := 2, slots := 18, locals := 40 } : Room).cells ({ frames := 3, cells := 2, slots := 18, locals := 40 } : Room).slots (s₁.setTop (entryFrame m #[(.ref b), (.int (0 : Int32)), (.int (6 : Int32))] 6))
  refine own_go (fun _ ww => castTop (ef_cm3W m b kb c0 c1 c2 c3 c4 c5) ww) ?_
  show own_Goes _ _ _ _ _ _ _ (s₁.setTop (mkF m 0 #[.val (.ref b), .val (.int (0 : Int32)), .val (.int (6 : Int32)), .unset, .unset, .unset] []))
  refine own_go (fun _ ww => XS.iloadN X0.here hx rfl (hb hby d5_0) rfl  ww) ?_
  show own_Goes _ _ _ _ _ _ _ (s₁.setTop (mkF m 1 #[.val (.ref b), .val (.int (0 : Int32)), .val (.int (6 : Int32)), .unset, .unset, .unset] [(.int (6 : Int32))]))
  obtain ⟨T165, h165, k165, X165, e165, E165, A165, st165⟩ := newP X0 hx hZ (hw _ (List.mem_of_getElem? (i := 26) rfl)) e0 (g := (mkF m 1 #[.val (.ref b), .val (.int (0 : Int32)), .val (.int (6 : Int32)), .unset, .unset, .unset] [(.int (6 : Int32))])) rfl (hb hby d5_1) rfl (by decide) (cap := 6) (by decide) (by decide) (by decide) (by decide)
  obtain ⟨b165, g165⟩ : ∃ z, z = h0.size := ⟨_, rfl⟩
  rw [← g165] at A165 st165
  have ne_b_b165 : b ≠ b165 := Nat.ne_of_lt (Nat.lt_of_lt_of_le Vb.lt (Nat.le_of_eq g165.symm))
  have g_b165 : n0 ≤ b165 := Nat.le_trans (O0.1 ▸ O0.2.1) (Nat.le_of_eq g165.symm)
  have f166 : Arv Z h165 b kb .char (6 : Int32) [(.int c0), (.int c1), (.int c2), (.int c3), (.int c4), (.int c5)] (.int (0 : Int32)) := (Arv.ext Vb E165)
  have O165 := O0.ext E165
  have sz_b165 : h0.size ≤ b165 := Nat.le_trans (own_ks (Keep.refl h0 [])) (Nat.le_of_eq g165.symm)
  have K165 := (Keep.refl h0 []).ext E165
  have V165 : Arv Z h165 b165 k165 .byte (6 : Int32) [(.int (0 : Int32)), (.int (0 : Int32)), (.int (0 : Int32)), (.int (0 : Int32)), (.int (0 : Int32)), (.int (0 : Int32))] (.int (0 : Int32)) := (Arv.new A165 (by decide)).pad (pad_rep [] (.int (0 : Int32)) 6)
  refine own_go st165 ?_
  show own_Goes _ _ _ _ _ _ _ (T165.setTop (mkF m 3 #[.val (.ref b), .val (.int (0 : Int32)), .val (.int (6 : Int32)), .unset, .unset, .unset] [(.ref b165)]))
  refine own_go (fun _ ww => XS.astoreN X165.here hx rfl (hb hby d5_3) rfl rfl (l' := #[.val (.ref b), .val (.int (0 : Int32)), .val (.int (6 : Int32)), .val (.ref b165), .unset, .unset]) rfl ww) ?_
  show own_Goes _ _ _ _ _ _ _ (T165.setTop (mkF m 4 #[.val (.ref b), .val (.int (0 : Int32)), .val (.int (6 : Int32)), .val (.ref b165), .unset, .unset] []))
  refine own_go (fun _ ww => XS.aloadN X165.here hx rfl (hb hby d5_4) rfl rfl ww) ?_
  show own_Goes _ _ _ _ _ _ _ (T165.setTop (mkF m 5 #[.val (.ref b), .val (.int (0 : Int32)), .val (.int (6 : Int32)), .val (.ref b165), .unset, .unset] [(.ref b)]))
  refine own_go (fun _ ww => XS.iloadN X165.here hx rfl (hb hby d5_5) rfl  ww) ?_
  show own_Goes _ _ _ _ _ _ _ (T165.setTop (mkF m 6 #[.val (.ref b), .val (.int (0 : Int32)), .val (.int (6 : Int32)), .val (.ref b165), .unset, .unset] [(.int (0 : Int32)), (.ref b)]))
  refine own_go (fun _ ww => XS.aloadN X165.here hx rfl (hb hby d5_6) rfl rfl ww) ?_
  show own_Goes _ _ _ _ _ _ _ (T165.setTop (mkF m 7 #[.val (.ref b), .val (.int (0 : Int32)), .val (.int (6 : Int32)), .val (.ref b165), .unset, .unset] [(.ref b165), (.int (0 : Int32)), (.ref b)]))
  refine own_go (fun _ ww => XS.iconst X165.here hx rfl (hb hby d5_7) ww) ?_
  show own_Goes _ _ _ _ _ _ _ (T165.setTop (mkF m 8 #[.val (.ref b), .val (.int (0 : Int32)), .val (.int (6 : Int32)), .val (.ref b165), .unset, .unset] [(.int (0 : Int32)), (.ref b165), (.int (0 : Int32)), (.ref b)]))
  refine own_go (fun _ ww => XS.iloadN X165.here hx rfl (hb hby d5_8) rfl  ww) ?_
  show own_Goes _ _ _ _ _ _ _ (T165.setTop (mkF m 9 #[.val (.ref b), .val (.int (0 : Int32)), .val (.int (6 : Int32)), .val (.ref b165), .unset, .unset] [(.int (6 : Int32)), (.int (0 : Int32)), (.ref b165), (.int (0 : Int32)), (.ref b)]))
  rcases own_first hwide with hgt | ⟨le0, hgt⟩ | ⟨le0, le1, hgt⟩ | ⟨le0, le1, le2, hgt⟩ | ⟨le0, le1, le2, le3, hgt⟩ | ⟨le0, le1, le2, le3, le4, hgt⟩
  ·
    show own_Goes _ _ _ _ _ _ _ (T165.setTop (mkF m 9 #[.val (.ref b), .val (.int (0 : Int32)), .val (.int (6 : Int32)), .val (.ref b165), .unset, .unset] [(.int (6 : Int32)), (.int (0 : Int32)), (.ref b165), (.int (0 : Int32)), (.ref b)]))
    obtain ⟨_, _, ⟨T167, L167, k167, n167⟩, -, X167, ⟨Lc167, hQ167, l167, y167, z167⟩, st167⟩ := Jvm.LawKit.callS X165 hx (y := (⟨"java/lang/StringUTF16", "compress", "([CI[BII)I"⟩ : MethodName)) hown (mvT hZ (hw _ (List.mem_of_getElem? (i := 27) rfl))) (mvT hZ (hw _ (List.mem_of_getElem? (i := 28) rfl))) (mvT hZ (hw _ (List.mem_of_getElem? (i := 24) rfl))) (mvT hZ (hw _ (List.mem_of_getElem? (i := 29) rfl))) (by decide) (backOf (W := 0) (rm_cm5_0 l Z a0 hw [] b kb b165 k165 c0 c1 c2 c3 c4 c5 h165 n0 O165 f166 V165 g_b165 ne_b_b165 hgt) hZ (hw _ (List.mem_of_getElem? (i := 29) rfl)) (hw _ (List.mem_of_getElem? (i := 24) rfl)) (by decide) (by decide)) (g := (mkF m 9 #[.val (.ref b), .val (.int (0 : Int32)), .val (.int (6 : Int32)), .val (.ref b165), .unset, .unset] [(.int (6 : Int32)), (.int (0 : Int32)), (.ref b165), (.int (0 : Int32)), (.ref b)])) rfl (by rw [hml]; rfl) (argsL := [(.ref b), (.int (0 : Int32)), (.ref b165), (.int (0 : Int32)), (.int (6 : Int32))]) (rest := []) (lenOf pd_3 rfl) rfl (by show 2 * 0 + _ ≤ _; exact Nat.le_of_eq rfl) (hb hby d5_9) (fun _ _ => ⟨rfl, e165, (by decide : 1 + 0 ≤ _), (by decide : 6 + 0 ≤ _)⟩)
    dsimp only [Pt.U, Pt.locs, Pt.cells, Pt.slots] at X167 l167 y167 z167 st167 hQ167
    subst l167 y167 z167
    obtain ⟨rfl, N167q, K167q⟩ := hQ167
    have N167 := Fr.app N0 N167q
    have f168 : Arv Z T167.heap b kb .char (6 : Int32) [(.int c0), (.int c1), (.int c2), (.int c3), (.int c4), (.int c5)] (.int (0 : Int32)) := (f166.keep K167q (ninS ne_b_b165 nin0))
    have O167 := O165.keep K167q (allS g_b165 all0)
    have K167 := K165.trans K167q (allS (Or.inr sz_b165) all0)
    refine own_go st167 ?_
    show own_Goes _ _ _ _ _ _ _ (T167.setTop (mkF m 12 #[.val (.ref b), .val (.int (0 : Int32)), .val (.int (6 : Int32)), .val (.ref b165), .unset, .unset] [(.int (0 : Int32))]))
    refine own_go (fun _ ww => XS.istore X167.here hx rfl (hb hby d5_12) rfl (l' := #[.val (.ref b), .val (.int (0 : Int32)), .val (.int (6 : Int32)), .val (.ref b165), .val (.int (0 : Int32)), .unset]) rfl ww) ?_
    show own_Goes _ _ _ _ _ _ _ (T167.setTop (mkF m 14 #[.val (.ref b), .val (.int (0 : Int32)), .val (.int (6 : Int32)), .val (.ref b165), .val (.int (0 : Int32)), .unset] []))
    refine own_go (fun _ ww => XS.iload X167.here hx rfl (hb hby d5_14) rfl  ww) ?_
    show own_Goes _ _ _ _ _ _ _ (T167.setTop (mkF m 16 #[.val (.ref b), .val (.int (0 : Int32)), .val (.int (6 : Int32)), .val (.ref b165), .val (.int (0 : Int32)), .unset] [(.int (0 : Int32))]))
    refine own_go (fun _ ww => XS.iloadN X167.here hx rfl (hb hby d5_16) rfl  ww) ?_
    show own_Goes _ _ _ _ _ _ _ (T167.setTop (mkF m 17 #[.val (.ref b), .val (.int (0 : Int32)), .val (.int (6 : Int32)), .val (.ref b165), .val (.int (0 : Int32)), .unset] [(.int (6 : Int32)), (.int (0 : Int32))]))
    refine own_go (fun _ ww => XS.icmpNo X167.here hx rfl (hb hby d5_17) rfl (feq (by decide : ¬ ((0 : Int32) = (6 : Int32)))).1 ww) ?_
    show own_Goes _ _ _ _ _ _ _ (T167.setTop (mkF m 20 #[.val (.ref b), .val (.int (0 : Int32)), .val (.int (6 : Int32)), .val (.ref b165), .val (.int (0 : Int32)), .unset] []))
    refine own_go (fun _ ww => XS.aloadN X167.here hx rfl (hb hby d5_20) rfl rfl ww) ?_
    show own_Goes _ _ _ _ _ _ _ (T167.setTop (mkF m 21 #[.val (.ref b), .val (.int (0 : Int32)), .val (.int (6 : Int32)), .val (.ref b165), .val (.int (0 : Int32)), .unset] [(.ref b)]))
    refine own_go (fun _ ww => XS.iloadN X167.here hx rfl (hb hby d5_21) rfl  ww) ?_
    show own_Goes _ _ _ _ _ _ _ (T167.setTop (mkF m 22 #[.val (.ref b), .val (.int (0 : Int32)), .val (.int (6 : Int32)), .val (.ref b165), .val (.int (0 : Int32)), .unset] [(.int (0 : Int32)), (.ref b)]))
    refine own_go (fun _ ww => XS.iloadN X167.here hx rfl (hb hby d5_22) rfl  ww) ?_
    show own_Goes _ _ _ _ _ _ _ (T167.setTop (mkF m 23 #[.val (.ref b), .val (.int (0 : Int32)), .val (.int (6 : Int32)), .val (.ref b165), .val (.int (0 : Int32)), .unset] [(.int (6 : Int32)), (.int (0 : Int32)), (.ref b)]))
    obtain ⟨_, _, ⟨T169, L169, k169, n169⟩, -, X169, ⟨Lc169, hQ169, l169, y169, z169⟩, st169⟩ := Jvm.LawKit.callS X167 hx (y := (⟨"java/lang/StringUTF16", "toBytes", "([CII)[B"⟩ : MethodName)) hown (mvT hZ (hw _ (List.mem_of_getElem? (i := 81) rfl))) (mvT hZ (hw _ (List.mem_of_getElem? (i := 82) rfl))) (mvT hZ (hw _ (List.mem_of_getElem? (i := 24) rfl))) (mvT hZ (hw _ (List.mem_of_getElem? (i := 83) rfl))) (by decide) (backOf (W := 0) (rm_tob l Z a0 hw [] b kb c0 c1 c2 c3 c4 c5 T167.heap n0 O167 f168 SA SH SLo) hZ (hw _ (List.mem_of_getElem? (i := 83) rfl)) (hw _ (List.mem_of_getElem? (i := 24) rfl)) (by decide) (by decide)) (g := (mkF m 23 #[.val (.ref b), .val (.int (0 : Int32)), .val (.int (6 : Int32)), .val (.ref b165), .val (.int (0 : Int32)), .unset] [(.int (6 : Int32)), (.int (0 : Int32)), (.ref b)])) rfl (by rw [hml]; rfl) (argsL := [(.ref b), (.int (0 : Int32)), (.int (6 : Int32))]) (rest := []) (lenOf pd_4 rfl) rfl (by show 2 * 0 + _ ≤ _; exact Nat.le_of_eq rfl) (hb hby d5_23) (fun _ _ => ⟨rfl, rfl, (by decide : 1 + 1 ≤ _), (by decide : 6 + 12 ≤ _)⟩)
    dsimp only [Pt.U, Pt.locs, Pt.cells, Pt.slots] at X169 l169 y169 z169 st169 hQ169
    subst l169 y169 z169
    obtain ⟨t169, kt169, rfl, N169q, B169, K169q, V169q⟩ := hQ169
    have N169 := Fr.app N167 N169q
    have ne_b_t169 : b ≠ t169 := Nat.ne_of_lt (Nat.lt_of_lt_of_le f168.lt B169)
    have g_t169 : n0 ≤ t169 := Nat.le_trans (O167.1 ▸ O167.2.1) B169
    have sz_t169 : h0.size ≤ t169 := Nat.le_trans (own_ks K167) B169
    have f170 : Arv Z T169.heap b kb .char (6 : Int32) [(.int c0), (.int c1), (.int c2), (.int c3), (.int c4), (.int c5)] (.int (0 : Int32)) := (f168.keep K169q nin0)
    have O169 := O167.keep K169q all0
    have K169 := K167.trans K169q all0
    refine own_go st169 ?_
    show own_Goes _ _ _ _ _ _ _ (T169.setTop (mkF m 26 #[.val (.ref b), .val (.int (0 : Int32)), .val (.int (6 : Int32)), .val (.ref b165), .val (.int (0 : Int32)), .unset] [(.ref t169)]))
    refine own_go (fun _ ww => XS.astore X169.here hx rfl (hb hby d5_26) rfl rfl (l' := #[.val (.ref b), .val (.int (0 : Int32)), .val (.int (6 : Int32)), .val (.ref b165), .val (.int (0 : Int32)), .val (.ref t169)]) rfl ww) ?_
    show own_Goes _ _ _ _ _ _ _ (T169.setTop (mkF m 28 #[.val (.ref b), .val (.int (0 : Int32)), .val (.int (6 : Int32)), .val (.ref b165), .val (.int (0 : Int32)), .val (.ref t169)] []))
    refine own_go (fun _ ww => XS.aload X169.here hx rfl (hb hby d5_28) rfl rfl ww) ?_
    show own_Goes _ _ _ _ _ _ _ (T169.setTop (mkF m 30 #[.val (.ref b), .val (.int (0 : Int32)), .val (.int (6 : Int32)), .val (.ref b165), .val (.int (0 : Int32)), .val (.ref t169)] [(.ref t169)]))
    refine own_go (fun _ ww => XS.iload X169.here hx rfl (hb hby d5_30) rfl  ww) ?_
    show own_Goes _ _ _ _ _ _ _ (T169.setTop (mkF m 32 #[.val (.ref b), .val (.int (0 : Int32)), .val (.int (6 : Int32)), .val (.ref b165), .val (.int (0 : Int32)), .val (.ref t169)] [(.int (0 : Int32)), (.ref t169)]))
    obtain ⟨_, _, ⟨T171, L171, k171, n171⟩, -, X171, ⟨Lc171, hQ171, l171, y171, z171⟩, st171⟩ := Jvm.LawKit.callS X169 hx (y := (⟨"java/lang/StringUTF16", "getChar", "([BI)C"⟩ : MethodName)) hown (mvT hZ (hw _ (List.mem_of_getElem? (i := 97) rfl))) (mvT hZ (hw _ (List.mem_of_getElem? (i := 98) rfl))) (mvT hZ (hw _ (List.mem_of_getElem? (i := 24) rfl))) (mvT hZ (hw _ (List.mem_of_getElem? (i := 99) rfl))) (by decide) (backOf (W := 0) (rm_getc l Z a0 hw [] t169 kt169 ([c0, c1, c2, c3, c4, c5] : List Int32) 0 T169.heap n0 O169 V169q rfl (by decide) hbd SA SH SLo) hZ (hw _ (List.mem_of_getElem? (i := 99) rfl)) (hw _ (List.mem_of_getElem? (i := 24) rfl)) (by decide) (by decide)) (g := (mkF m 32 #[.val (.ref b), .val (.int (0 : Int32)), .val (.int (6 : Int32)), .val (.ref b165), .val (.int (0 : Int32)), .val (.ref t169)] [(.int (0 : Int32)), (.ref t169)])) rfl (by rw [hml]; rfl) (argsL := [(.ref t169), (.int (0 : Int32))]) (rest := []) (lenOf pd_5 rfl) rfl (by show 2 * 0 + _ ≤ _; exact Nat.le_of_eq rfl) (hb hby d5_32) (fun _ _ => ⟨rfl, rfl, (by decide : 2 + 0 ≤ _), (by decide : 18 + 0 ≤ _)⟩)
    dsimp only [Pt.U, Pt.locs, Pt.cells, Pt.slots] at X171 l171 y171 z171 st171 hQ171
    subst l171 y171 z171
    obtain ⟨rfl, N171q, e171⟩ := hQ171
    have N171 := Fr.app N169 N171q
    refine own_go st171 ?_
    show own_Goes _ _ _ _ _ _ _ (T171.setTop (mkF m 35 #[.val (.ref b), .val (.int (0 : Int32)), .val (.int (6 : Int32)), .val (.ref b165), .val (.int (0 : Int32)), .val (.ref t169)] [(.int c0)]))
    refine own_go (fun _ ww => XS.sipush X171.here hx rfl (hb hby d5_35) ww) ?_
    show own_Goes _ _ _ _ _ _ _ (T171.setTop (mkF m 38 #[.val (.ref b), .val (.int (0 : Int32)), .val (.int (6 : Int32)), .val (.ref b165), .val (.int (0 : Int32)), .val (.ref t169)] [(.int (255 : Int32)), (.int c0)]))
    refine own_go (fun _ ww => XS.icmpYes X171.here hx rfl (pc0 := 38) (pc' := 54) rfl (hb hby d5_38) rfl (tlt hgt).2.2.1 (by decide) (by decide) ww) ?_
    show own_Goes _ _ _ _ _ _ _ (T171.setTop (mkF m 54 #[.val (.ref b), .val (.int (0 : Int32)), .val (.int (6 : Int32)), .val (.ref b165), .val (.int (0 : Int32)), .val (.ref t169)] []))
    refine own_go (fun _ ww => XS.aload X171.here hx rfl (hb hby d5_54) rfl rfl ww) ?_
    show own_Goes _ _ _ _ _ _ _ (T171.setTop (mkF m 56 #[.val (.ref b), .val (.int (0 : Int32)), .val (.int (6 : Int32)), .val (.ref b165), .val (.int (0 : Int32)), .val (.ref t169)] [(.ref t169)]))
    exact own_out X171 hlk (v := some (.ref t169)) (fun h => by rw [hret] at h; cases h) (fun fs hr => retOut X171 hx (t := (.array .byte)) hret rfl (Or.inr (Or.inr (Or.inr (Or.inr ⟨rfl, rfl, rfl⟩)))) (hb hby d5_56) hr) e171 ⟨_, kt169, rfl, N171, sz_t169, K169, V169q⟩ (by decide) (by decide)
  ·
    show own_Goes _ _ _ _ _ _ _ (T165.setTop (mkF m 9 #[.val (.ref b), .val (.int (0 : Int32)), .val (.int (6 : Int32)), .val (.ref b165), .unset, .unset] [(.int (6 : Int32)), (.int (0 : Int32)), (.ref b165), (.int (0 : Int32)), (.ref b)]))
    obtain ⟨_, _, ⟨T172, L172, k172, n172⟩, -, X172, ⟨Lc172, hQ172, l172, y172, z172⟩, st172⟩ := Jvm.LawKit.callS X165 hx (y := (⟨"java/lang/StringUTF16", "compress", "([CI[BII)I"⟩ : MethodName)) hown (mvT hZ (hw _ (List.mem_of_getElem? (i := 27) rfl))) (mvT hZ (hw _ (List.mem_of_getElem? (i := 28) rfl))) (mvT hZ (hw _ (List.mem_of_getElem? (i := 24) rfl))) (mvT hZ (hw _ (List.mem_of_getElem? (i := 29) rfl))) (by decide) (backOf (W := 0) (rm_cm5_1 l Z a0 hw [] b kb b165 k165 c0 c1 c2 c3 c4 c5 h165 n0 O165 f166 V165 g_b165 ne_b_b165 le0 hgt) hZ (hw _ (List.mem_of_getElem? (i := 29) rfl)) (hw _ (List.mem_of_getElem? (i := 24) rfl)) (by decide) (by decide)) (g := (mkF m 9 #[.val (.ref b), .val (.int (0 : Int32)), .val (.int (6 : Int32)), .val (.ref b165), .unset, .unset] [(.int (6 : Int32)), (.int (0 : Int32)), (.ref b165), (.int (0 : Int32)), (.ref b)])) rfl (by rw [hml]; rfl) (argsL := [(.ref b), (.int (0 : Int32)), (.ref b165), (.int (0 : Int32)), (.int (6 : Int32))]) (rest := []) (lenOf pd_3 rfl) rfl (by show 2 * 0 + _ ≤ _; exact Nat.le_of_eq rfl) (hb hby d5_9) (fun _ _ => ⟨rfl, e165, (by decide : 1 + 0 ≤ _), (by decide : 6 + 0 ≤ _)⟩)
    dsimp only [Pt.U, Pt.locs, Pt.cells, Pt.slots] at X172 l172 y172 z172 st172 hQ172
    subst l172 y172 z172
    obtain ⟨rfl, N172q, K172q⟩ := hQ172
    have N172 := Fr.app N0 N172q
    have f173 : Arv Z T172.heap b kb .char (6 : Int32) [(.int c0), (.int c1), (.int c2), (.int c3), (.int c4), (.int c5)] (.int (0 : Int32)) := (f166.keep K172q (ninS ne_b_b165 nin0))
    have O172 := O165.keep K172q (allS g_b165 all0)
    have K172 := K165.trans K172q (allS (Or.inr sz_b165) all0)
    refine own_go st172 ?_
    show own_Goes _ _ _ _ _ _ _ (T172.setTop (mkF m 12 #[.val (.ref b), .val (.int (0 : Int32)), .val (.int (6 : Int32)), .val (.ref b165), .unset, .unset] [(.int (1 : Int32))]))
    refine own_go (fun _ ww => XS.istore X172.here hx rfl (hb hby d5_12) rfl (l' := #[.val (.ref b), .val (.int (0 : Int32)), .val (.int (6 : Int32)), .val (.ref b165), .val (.int (1 : Int32)), .unset]) rfl ww) ?_
    show own_Goes _ _ _ _ _ _ _ (T172.setTop (mkF m 14 #[.val (.ref b), .val (.int (0 : Int32)), .val (.int (6 : Int32)), .val (.ref b165), .val (.int (1 : Int32)), .unset] []))
    refine own_go (fun _ ww => XS.iload X172.here hx rfl (hb hby d5_14) rfl  ww) ?_
    show own_Goes _ _ _ _ _ _ _ (T172.setTop (mkF m 16 #[.val (.ref b), .val (.int (0 : Int32)), .val (.int (6 : Int32)), .val (.ref b165), .val (.int (1 : Int32)), .unset] [(.int (1 : Int32))]))
    refine own_go (fun _ ww => XS.iloadN X172.here hx rfl (hb hby d5_16) rfl  ww) ?_
    show own_Goes _ _ _ _ _ _ _ (T172.setTop (mkF m 17 #[.val (.ref b), .val (.int (0 : Int32)), .val (.int (6 : Int32)), .val (.ref b165), .val (.int (1 : Int32)), .unset] [(.int (6 : Int32)), (.int (1 : Int32))]))
    refine own_go (fun _ ww => XS.icmpNo X172.here hx rfl (hb hby d5_17) rfl (feq (by decide : ¬ ((1 : Int32) = (6 : Int32)))).1 ww) ?_
    show own_Goes _ _ _ _ _ _ _ (T172.setTop (mkF m 20 #[.val (.ref b), .val (.int (0 : Int32)), .val (.int (6 : Int32)), .val (.ref b165), .val (.int (1 : Int32)), .unset] []))
    refine own_go (fun _ ww => XS.aloadN X172.here hx rfl (hb hby d5_20) rfl rfl ww) ?_
    show own_Goes _ _ _ _ _ _ _ (T172.setTop (mkF m 21 #[.val (.ref b), .val (.int (0 : Int32)), .val (.int (6 : Int32)), .val (.ref b165), .val (.int (1 : Int32)), .unset] [(.ref b)]))
    refine own_go (fun _ ww => XS.iloadN X172.here hx rfl (hb hby d5_21) rfl  ww) ?_
    show own_Goes _ _ _ _ _ _ _ (T172.setTop (mkF m 22 #[.val (.ref b), .val (.int (0 : Int32)), .val (.int (6 : Int32)), .val (.ref b165), .val (.int (1 : Int32)), .unset] [(.int (0 : Int32)), (.ref b)]))
    refine own_go (fun _ ww => XS.iloadN X172.here hx rfl (hb hby d5_22) rfl  ww) ?_
    show own_Goes _ _ _ _ _ _ _ (T172.setTop (mkF m 23 #[.val (.ref b), .val (.int (0 : Int32)), .val (.int (6 : Int32)), .val (.ref b165), .val (.int (1 : Int32)), .unset] [(.int (6 : Int32)), (.int (0 : Int32)), (.ref b)]))
    obtain ⟨_, _, ⟨T174, L174, k174, n174⟩, -, X174, ⟨Lc174, hQ174, l174, y174, z174⟩, st174⟩ := Jvm.LawKit.callS X172 hx (y := (⟨"java/lang/StringUTF16", "toBytes", "([CII)[B"⟩ : MethodName)) hown (mvT hZ (hw _ (List.mem_of_getElem? (i := 81) rfl))) (mvT hZ (hw _ (List.mem_of_getElem? (i := 82) rfl))) (mvT hZ (hw _ (List.mem_of_getElem? (i := 24) rfl))) (mvT hZ (hw _ (List.mem_of_getElem? (i := 83) rfl))) (by decide) (backOf (W := 0) (rm_tob l Z a0 hw [] b kb c0 c1 c2 c3 c4 c5 T172.heap n0 O172 f173 SA SH SLo) hZ (hw _ (List.mem_of_getElem? (i := 83) rfl)) (hw _ (List.mem_of_getElem? (i := 24) rfl)) (by decide) (by decide)) (g := (mkF m 23 #[.val (.ref b), .val (.int (0 : Int32)), .val (.int (6 : Int32)), .val (.ref b165), .val (.int (1 : Int32)), .unset] [(.int (6 : Int32)), (.int (0 : Int32)), (.ref b)])) rfl (by rw [hml]; rfl) (argsL := [(.ref b), (.int (0 : Int32)), (.int (6 : Int32))]) (rest := []) (lenOf pd_4 rfl) rfl (by show 2 * 0 + _ ≤ _; exact Nat.le_of_eq rfl) (hb hby d5_23) (fun _ _ => ⟨rfl, rfl, (by decide : 1 + 1 ≤ _), (by decide : 6 + 12 ≤ _)⟩)
    dsimp only [Pt.U, Pt.locs, Pt.cells, Pt.slots] at X174 l174 y174 z174 st174 hQ174
    subst l174 y174 z174
    obtain ⟨t174, kt174, rfl, N174q, B174, K174q, V174q⟩ := hQ174
    have N174 := Fr.app N172 N174q
    have ne_b_t174 : b ≠ t174 := Nat.ne_of_lt (Nat.lt_of_lt_of_le f173.lt B174)
    have g_t174 : n0 ≤ t174 := Nat.le_trans (O172.1 ▸ O172.2.1) B174
    have sz_t174 : h0.size ≤ t174 := Nat.le_trans (own_ks K172) B174
    have f175 : Arv Z T174.heap b kb .char (6 : Int32) [(.int c0), (.int c1), (.int c2), (.int c3), (.int c4), (.int c5)] (.int (0 : Int32)) := (f173.keep K174q nin0)
    have O174 := O172.keep K174q all0
    have K174 := K172.trans K174q all0
    refine own_go st174 ?_
    show own_Goes _ _ _ _ _ _ _ (T174.setTop (mkF m 26 #[.val (.ref b), .val (.int (0 : Int32)), .val (.int (6 : Int32)), .val (.ref b165), .val (.int (1 : Int32)), .unset] [(.ref t174)]))
    refine own_go (fun _ ww => XS.astore X174.here hx rfl (hb hby d5_26) rfl rfl (l' := #[.val (.ref b), .val (.int (0 : Int32)), .val (.int (6 : Int32)), .val (.ref b165), .val (.int (1 : Int32)), .val (.ref t174)]) rfl ww) ?_
    show own_Goes _ _ _ _ _ _ _ (T174.setTop (mkF m 28 #[.val (.ref b), .val (.int (0 : Int32)), .val (.int (6 : Int32)), .val (.ref b165), .val (.int (1 : Int32)), .val (.ref t174)] []))
    refine own_go (fun _ ww => XS.aload X174.here hx rfl (hb hby d5_28) rfl rfl ww) ?_
    show own_Goes _ _ _ _ _ _ _ (T174.setTop (mkF m 30 #[.val (.ref b), .val (.int (0 : Int32)), .val (.int (6 : Int32)), .val (.ref b165), .val (.int (1 : Int32)), .val (.ref t174)] [(.ref t174)]))
    refine own_go (fun _ ww => XS.iload X174.here hx rfl (hb hby d5_30) rfl  ww) ?_
    show own_Goes _ _ _ _ _ _ _ (T174.setTop (mkF m 32 #[.val (.ref b), .val (.int (0 : Int32)), .val (.int (6 : Int32)), .val (.ref b165), .val (.int (1 : Int32)), .val (.ref t174)] [(.int (1 : Int32)), (.ref t174)]))
    obtain ⟨_, _, ⟨T176, L176, k176, n176⟩, -, X176, ⟨Lc176, hQ176, l176, y176, z176⟩, st176⟩ := Jvm.LawKit.callS X174 hx (y := (⟨"java/lang/StringUTF16", "getChar", "([BI)C"⟩ : MethodName)) hown (mvT hZ (hw _ (List.mem_of_getElem? (i := 97) rfl))) (mvT hZ (hw _ (List.mem_of_getElem? (i := 98) rfl))) (mvT hZ (hw _ (List.mem_of_getElem? (i := 24) rfl))) (mvT hZ (hw _ (List.mem_of_getElem? (i := 99) rfl))) (by decide) (backOf (W := 0) (rm_getc l Z a0 hw [] t174 kt174 ([c0, c1, c2, c3, c4, c5] : List Int32) 1 T174.heap n0 O174 V174q rfl (by decide) hbd SA SH SLo) hZ (hw _ (List.mem_of_getElem? (i := 99) rfl)) (hw _ (List.mem_of_getElem? (i := 24) rfl)) (by decide) (by decide)) (g := (mkF m 32 #[.val (.ref b), .val (.int (0 : Int32)), .val (.int (6 : Int32)), .val (.ref b165), .val (.int (1 : Int32)), .val (.ref t174)] [(.int (1 : Int32)), (.ref t174)])) rfl (by rw [hml]; rfl) (argsL := [(.ref t174), (.int (1 : Int32))]) (rest := []) (lenOf pd_5 rfl) rfl (by show 2 * 0 + _ ≤ _; exact Nat.le_of_eq rfl) (hb hby d5_32) (fun _ _ => ⟨rfl, rfl, (by decide : 2 + 0 ≤ _), (by decide : 18 + 0 ≤ _)⟩)
    dsimp only [Pt.U, Pt.locs, Pt.cells, Pt.slots] at X176 l176 y176 z176 st176 hQ176
    subst l176 y176 z176
    obtain ⟨rfl, N176q, e176⟩ := hQ176
    have N176 := Fr.app N174 N176q
    refine own_go st176 ?_
    show own_Goes _ _ _ _ _ _ _ (T176.setTop (mkF m 35 #[.val (.ref b), .val (.int (0 : Int32)), .val (.int (6 : Int32)), .val (.ref b165), .val (.int (1 : Int32)), .val (.ref t174)] [(.int c1)]))
    refine own_go (fun _ ww => XS.sipush X176.here hx rfl (hb hby d5_35) ww) ?_
    show own_Goes _ _ _ _ _ _ _ (T176.setTop (mkF m 38 #[.val (.ref b), .val (.int (0 : Int32)), .val (.int (6 : Int32)), .val (.ref b165), .val (.int (1 : Int32)), .val (.ref t174)] [(.int (255 : Int32)), (.int c1)]))
    refine own_go (fun _ ww => XS.icmpYes X176.here hx rfl (pc0 := 38) (pc' := 54) rfl (hb hby d5_38) rfl (tlt hgt).2.2.1 (by decide) (by decide) ww) ?_
    show own_Goes _ _ _ _ _ _ _ (T176.setTop (mkF m 54 #[.val (.ref b), .val (.int (0 : Int32)), .val (.int (6 : Int32)), .val (.ref b165), .val (.int (1 : Int32)), .val (.ref t174)] []))
    refine own_go (fun _ ww => XS.aload X176.here hx rfl (hb hby d5_54) rfl rfl ww) ?_
    show own_Goes _ _ _ _ _ _ _ (T176.setTop (mkF m 56 #[.val (.ref b), .val (.int (0 : Int32)), .val (.int (6 : Int32)), .val (.ref b165), .val (.int (1 : Int32)), .val (.ref t174)] [(.ref t174)]))
    exact own_out X176 hlk (v := some (.ref t174)) (fun h => by rw [hret] at h; cases h) (fun fs hr => retOut X176 hx (t := (.array .byte)) hret rfl (Or.inr (Or.inr (Or.inr (Or.inr ⟨rfl, rfl, rfl⟩)))) (hb hby d5_56) hr) e176 ⟨_, kt174, rfl, N176, sz_t174, K174, V174q⟩ (by decide) (by decide)
  ·
    show own_Goes _ _ _ _ _ _ _ (T165.setTop (mkF m 9 #[.val (.ref b), .val (.int (0 : Int32)), .val (.int (6 : Int32)), .val (.ref b165), .unset, .unset] [(.int (6 : Int32)), (.int (0 : Int32)), (.ref b165), (.int (0 : Int32)), (.ref b)]))
    obtain ⟨_, _, ⟨T177, L177, k177, n177⟩, -, X177, ⟨Lc177, hQ177, l177, y177, z177⟩, st177⟩ := Jvm.LawKit.callS X165 hx (y := (⟨"java/lang/StringUTF16", "compress", "([CI[BII)I"⟩ : MethodName)) hown (mvT hZ (hw _ (List.mem_of_getElem? (i := 27) rfl))) (mvT hZ (hw _ (List.mem_of_getElem? (i := 28) rfl))) (mvT hZ (hw _ (List.mem_of_getElem? (i := 24) rfl))) (mvT hZ (hw _ (List.mem_of_getElem? (i := 29) rfl))) (by decide) (backOf (W := 0) (rm_cm5_2 l Z a0 hw [] b kb b165 k165 c0 c1 c2 c3 c4 c5 h165 n0 O165 f166 V165 g_b165 ne_b_b165 le0 le1 hgt) hZ (hw _ (List.mem_of_getElem? (i := 29) rfl)) (hw _ (List.mem_of_getElem? (i := 24) rfl)) (by decide) (by decide)) (g := (mkF m 9 #[.val (.ref b), .val (.int (0 : Int32)), .val (.int (6 : Int32)), .val (.ref b165), .unset, .unset] [(.int (6 : Int32)), (.int (0 : Int32)), (.ref b165), (.int (0 : Int32)), (.ref b)])) rfl (by rw [hml]; rfl) (argsL := [(.ref b), (.int (0 : Int32)), (.ref b165), (.int (0 : Int32)), (.int (6 : Int32))]) (rest := []) (lenOf pd_3 rfl) rfl (by show 2 * 0 + _ ≤ _; exact Nat.le_of_eq rfl) (hb hby d5_9) (fun _ _ => ⟨rfl, e165, (by decide : 1 + 0 ≤ _), (by decide : 6 + 0 ≤ _)⟩)
    dsimp only [Pt.U, Pt.locs, Pt.cells, Pt.slots] at X177 l177 y177 z177 st177 hQ177
    subst l177 y177 z177
    obtain ⟨rfl, N177q, K177q⟩ := hQ177
    have N177 := Fr.app N0 N177q
    have f178 : Arv Z T177.heap b kb .char (6 : Int32) [(.int c0), (.int c1), (.int c2), (.int c3), (.int c4), (.int c5)] (.int (0 : Int32)) := (f166.keep K177q (ninS ne_b_b165 nin0))
    have O177 := O165.keep K177q (allS g_b165 all0)
    have K177 := K165.trans K177q (allS (Or.inr sz_b165) all0)
    refine own_go st177 ?_
    show own_Goes _ _ _ _ _ _ _ (T177.setTop (mkF m 12 #[.val (.ref b), .val (.int (0 : Int32)), .val (.int (6 : Int32)), .val (.ref b165), .unset, .unset] [(.int (2 : Int32))]))
    refine own_go (fun _ ww => XS.istore X177.here hx rfl (hb hby d5_12) rfl (l' := #[.val (.ref b), .val (.int (0 : Int32)), .val (.int (6 : Int32)), .val (.ref b165), .val (.int (2 : Int32)), .unset]) rfl ww) ?_
    show own_Goes _ _ _ _ _ _ _ (T177.setTop (mkF m 14 #[.val (.ref b), .val (.int (0 : Int32)), .val (.int (6 : Int32)), .val (.ref b165), .val (.int (2 : Int32)), .unset] []))
    refine own_go (fun _ ww => XS.iload X177.here hx rfl (hb hby d5_14) rfl  ww) ?_
    show own_Goes _ _ _ _ _ _ _ (T177.setTop (mkF m 16 #[.val (.ref b), .val (.int (0 : Int32)), .val (.int (6 : Int32)), .val (.ref b165), .val (.int (2 : Int32)), .unset] [(.int (2 : Int32))]))
    refine own_go (fun _ ww => XS.iloadN X177.here hx rfl (hb hby d5_16) rfl  ww) ?_
    show own_Goes _ _ _ _ _ _ _ (T177.setTop (mkF m 17 #[.val (.ref b), .val (.int (0 : Int32)), .val (.int (6 : Int32)), .val (.ref b165), .val (.int (2 : Int32)), .unset] [(.int (6 : Int32)), (.int (2 : Int32))]))
    refine own_go (fun _ ww => XS.icmpNo X177.here hx rfl (hb hby d5_17) rfl (feq (by decide : ¬ ((2 : Int32) = (6 : Int32)))).1 ww) ?_
    show own_Goes _ _ _ _ _ _ _ (T177.setTop (mkF m 20 #[.val (.ref b), .val (.int (0 : Int32)), .val (.int (6 : Int32)), .val (.ref b165), .val (.int (2 : Int32)), .unset] []))
    refine own_go (fun _ ww => XS.aloadN X177.here hx rfl (hb hby d5_20) rfl rfl ww) ?_
    show own_Goes _ _ _ _ _ _ _ (T177.setTop (mkF m 21 #[.val (.ref b), .val (.int (0 : Int32)), .val (.int (6 : Int32)), .val (.ref b165), .val (.int (2 : Int32)), .unset] [(.ref b)]))
    refine own_go (fun _ ww => XS.iloadN X177.here hx rfl (hb hby d5_21) rfl  ww) ?_
    show own_Goes _ _ _ _ _ _ _ (T177.setTop (mkF m 22 #[.val (.ref b), .val (.int (0 : Int32)), .val (.int (6 : Int32)), .val (.ref b165), .val (.int (2 : Int32)), .unset] [(.int (0 : Int32)), (.ref b)]))
    refine own_go (fun _ ww => XS.iloadN X177.here hx rfl (hb hby d5_22) rfl  ww) ?_
    show own_Goes _ _ _ _ _ _ _ (T177.setTop (mkF m 23 #[.val (.ref b), .val (.int (0 : Int32)), .val (.int (6 : Int32)), .val (.ref b165), .val (.int (2 : Int32)), .unset] [(.int (6 : Int32)), (.int (0 : Int32)), (.ref b)]))
    obtain ⟨_, _, ⟨T179, L179, k179, n179⟩, -, X179, ⟨Lc179, hQ179, l179, y179, z179⟩, st179⟩ := Jvm.LawKit.callS X177 hx (y := (⟨"java/lang/StringUTF16", "toBytes", "([CII)[B"⟩ : MethodName)) hown (mvT hZ (hw _ (List.mem_of_getElem? (i := 81) rfl))) (mvT hZ (hw _ (List.mem_of_getElem? (i := 82) rfl))) (mvT hZ (hw _ (List.mem_of_getElem? (i := 24) rfl))) (mvT hZ (hw _ (List.mem_of_getElem? (i := 83) rfl))) (by decide) (backOf (W := 0) (rm_tob l Z a0 hw [] b kb c0 c1 c2 c3 c4 c5 T177.heap n0 O177 f178 SA SH SLo) hZ (hw _ (List.mem_of_getElem? (i := 83) rfl)) (hw _ (List.mem_of_getElem? (i := 24) rfl)) (by decide) (by decide)) (g := (mkF m 23 #[.val (.ref b), .val (.int (0 : Int32)), .val (.int (6 : Int32)), .val (.ref b165), .val (.int (2 : Int32)), .unset] [(.int (6 : Int32)), (.int (0 : Int32)), (.ref b)])) rfl (by rw [hml]; rfl) (argsL := [(.ref b), (.int (0 : Int32)), (.int (6 : Int32))]) (rest := []) (lenOf pd_4 rfl) rfl (by show 2 * 0 + _ ≤ _; exact Nat.le_of_eq rfl) (hb hby d5_23) (fun _ _ => ⟨rfl, rfl, (by decide : 1 + 1 ≤ _), (by decide : 6 + 12 ≤ _)⟩)
    dsimp only [Pt.U, Pt.locs, Pt.cells, Pt.slots] at X179 l179 y179 z179 st179 hQ179
    subst l179 y179 z179
    obtain ⟨t179, kt179, rfl, N179q, B179, K179q, V179q⟩ := hQ179
    have N179 := Fr.app N177 N179q
    have ne_b_t179 : b ≠ t179 := Nat.ne_of_lt (Nat.lt_of_lt_of_le f178.lt B179)
    have g_t179 : n0 ≤ t179 := Nat.le_trans (O177.1 ▸ O177.2.1) B179
    have sz_t179 : h0.size ≤ t179 := Nat.le_trans (own_ks K177) B179
    have f180 : Arv Z T179.heap b kb .char (6 : Int32) [(.int c0), (.int c1), (.int c2), (.int c3), (.int c4), (.int c5)] (.int (0 : Int32)) := (f178.keep K179q nin0)
    have O179 := O177.keep K179q all0
    have K179 := K177.trans K179q all0
    refine own_go st179 ?_
    show own_Goes _ _ _ _ _ _ _ (T179.setTop (mkF m 26 #[.val (.ref b), .val (.int (0 : Int32)), .val (.int (6 : Int32)), .val (.ref b165), .val (.int (2 : Int32)), .unset] [(.ref t179)]))
    refine own_go (fun _ ww => XS.astore X179.here hx rfl (hb hby d5_26) rfl rfl (l' := #[.val (.ref b), .val (.int (0 : Int32)), .val (.int (6 : Int32)), .val (.ref b165), .val (.int (2 : Int32)), .val (.ref t179)]) rfl ww) ?_
    show own_Goes _ _ _ _ _ _ _ (T179.setTop (mkF m 28 #[.val (.ref b), .val (.int (0 : Int32)), .val (.int (6 : Int32)), .val (.ref b165), .val (.int (2 : Int32)), .val (.ref t179)] []))
    refine own_go (fun _ ww => XS.aload X179.here hx rfl (hb hby d5_28) rfl rfl ww) ?_
    show own_Goes _ _ _ _ _ _ _ (T179.setTop (mkF m 30 #[.val (.ref b), .val (.int (0 : Int32)), .val (.int (6 : Int32)), .val (.ref b165), .val (.int (2 : Int32)), .val (.ref t179)] [(.ref t179)]))
    refine own_go (fun _ ww => XS.iload X179.here hx rfl (hb hby d5_30) rfl  ww) ?_
    show own_Goes _ _ _ _ _ _ _ (T179.setTop (mkF m 32 #[.val (.ref b), .val (.int (0 : Int32)), .val (.int (6 : Int32)), .val (.ref b165), .val (.int (2 : Int32)), .val (.ref t179)] [(.int (2 : Int32)), (.ref t179)]))
    obtain ⟨_, _, ⟨T181, L181, k181, n181⟩, -, X181, ⟨Lc181, hQ181, l181, y181, z181⟩, st181⟩ := Jvm.LawKit.callS X179 hx (y := (⟨"java/lang/StringUTF16", "getChar", "([BI)C"⟩ : MethodName)) hown (mvT hZ (hw _ (List.mem_of_getElem? (i := 97) rfl))) (mvT hZ (hw _ (List.mem_of_getElem? (i := 98) rfl))) (mvT hZ (hw _ (List.mem_of_getElem? (i := 24) rfl))) (mvT hZ (hw _ (List.mem_of_getElem? (i := 99) rfl))) (by decide) (backOf (W := 0) (rm_getc l Z a0 hw [] t179 kt179 ([c0, c1, c2, c3, c4, c5] : List Int32) 2 T179.heap n0 O179 V179q rfl (by decide) hbd SA SH SLo) hZ (hw _ (List.mem_of_getElem? (i := 99) rfl)) (hw _ (List.mem_of_getElem? (i := 24) rfl)) (by decide) (by decide)) (g := (mkF m 32 #[.val (.ref b), .val (.int (0 : Int32)), .val (.int (6 : Int32)), .val (.ref b165), .val (.int (2 : Int32)), .val (.ref t179)] [(.int (2 : Int32)), (.ref t179)])) rfl (by rw [hml]; rfl) (argsL := [(.ref t179), (.int (2 : Int32))]) (rest := []) (lenOf pd_5 rfl) rfl (by show 2 * 0 + _ ≤ _; exact Nat.le_of_eq rfl) (hb hby d5_32) (fun _ _ => ⟨rfl, rfl, (by decide : 2 + 0 ≤ _), (by decide : 18 + 0 ≤ _)⟩)
    dsimp only [Pt.U, Pt.locs, Pt.cells, Pt.slots] at X181 l181 y181 z181 st181 hQ181
    subst l181 y181 z181
    obtain ⟨rfl, N181q, e181⟩ := hQ181
    have N181 := Fr.app N179 N181q
    refine own_go st181 ?_
    show own_Goes _ _ _ _ _ _ _ (T181.setTop (mkF m 35 #[.val (.ref b), .val (.int (0 : Int32)), .val (.int (6 : Int32)), .val (.ref b165), .val (.int (2 : Int32)), .val (.ref t179)] [(.int c2)]))
    refine own_go (fun _ ww => XS.sipush X181.here hx rfl (hb hby d5_35) ww) ?_
    show own_Goes _ _ _ _ _ _ _ (T181.setTop (mkF m 38 #[.val (.ref b), .val (.int (0 : Int32)), .val (.int (6 : Int32)), .val (.ref b165), .val (.int (2 : Int32)), .val (.ref t179)] [(.int (255 : Int32)), (.int c2)]))
    refine own_go (fun _ ww => XS.icmpYes X181.here hx rfl (pc0 := 38) (pc' := 54) rfl (hb hby d5_38) rfl (tlt hgt).2.2.1 (by decide) (by decide) ww) ?_
    show own_Goes _ _ _ _ _ _ _ (T181.setTop (mkF m 54 #[.val (.ref b), .val (.int (0 : Int32)), .val (.int (6 : Int32)), .val (.ref b165), .val (.int (2 : Int32)), .val (.ref t179)] []))
    refine own_go (fun _ ww => XS.aload X181.here hx rfl (hb hby d5_54) rfl rfl ww) ?_
    show own_Goes _ _ _ _ _ _ _ (T181.setTop (mkF m 56 #[.val (.ref b), .val (.int (0 : Int32)), .val (.int (6 : Int32)), .val (.ref b165), .val (.int (2 : Int32)), .val (.ref t179)] [(.ref t179)]))
    exact own_out X181 hlk (v := some (.ref t179)) (fun h => by rw [hret] at h; cases h) (fun fs hr => retOut X181 hx (t := (.array .byte)) hret rfl (Or.inr (Or.inr (Or.inr (Or.inr ⟨rfl, rfl, rfl⟩)))) (hb hby d5_56) hr) e181 ⟨_, kt179, rfl, N181, sz_t179, K179, V179q⟩ (by decide) (by decide)
  ·
    show own_Goes _ _ _ _ _ _ _ (T165.setTop (mkF m 9 #[.val (.ref b), .val (.int (0 : Int32)), .val (.int (6 : Int32)), .val (.ref b165), .unset, .unset] [(.int (6 : Int32)), (.int (0 : Int32)), (.ref b165), (.int (0 : Int32)), (.ref b)]))
    obtain ⟨_, _, ⟨T182, L182, k182, n182⟩, -, X182, ⟨Lc182, hQ182, l182, y182, z182⟩, st182⟩ := Jvm.LawKit.callS X165 hx (y := (⟨"java/lang/StringUTF16", "compress", "([CI[BII)I"⟩ : MethodName)) hown (mvT hZ (hw _ (List.mem_of_getElem? (i := 27) rfl))) (mvT hZ (hw _ (List.mem_of_getElem? (i := 28) rfl))) (mvT hZ (hw _ (List.mem_of_getElem? (i := 24) rfl))) (mvT hZ (hw _ (List.mem_of_getElem? (i := 29) rfl))) (by decide) (backOf (W := 0) (rm_cm5_3 l Z a0 hw [] b kb b165 k165 c0 c1 c2 c3 c4 c5 h165 n0 O165 f166 V165 g_b165 ne_b_b165 le0 le1 le2 hgt) hZ (hw _ (List.mem_of_getElem? (i := 29) rfl)) (hw _ (List.mem_of_getElem? (i := 24) rfl)) (by decide) (by decide)) (g := (mkF m 9 #[.val (.ref b), .val (.int (0 : Int32)), .val (.int (6 : Int32)), .val (.ref b165), .unset, .unset] [(.int (6 : Int32)), (.int (0 : Int32)), (.ref b165), (.int (0 : Int32)), (.ref b)])) rfl (by rw [hml]; rfl) (argsL := [(.ref b), (.int (0 : Int32)), (.ref b165), (.int (0 : Int32)), (.int (6 : Int32))]) (rest := []) (lenOf pd_3 rfl) rfl (by show 2 * 0 + _ ≤ _; exact Nat.le_of_eq rfl) (hb hby d5_9) (fun _ _ => ⟨rfl, e165, (by decide : 1 + 0 ≤ _), (by decide : 6 + 0 ≤ _)⟩)
    dsimp only [Pt.U, Pt.locs, Pt.cells, Pt.slots] at X182 l182 y182 z182 st182 hQ182
    subst l182 y182 z182
    obtain ⟨rfl, N182q, K182q⟩ := hQ182
    have N182 := Fr.app N0 N182q
    have f183 : Arv Z T182.heap b kb .char (6 : Int32) [(.int c0), (.int c1), (.int c2), (.int c3), (.int c4), (.int c5)] (.int (0 : Int32)) := (f166.keep K182q (ninS ne_b_b165 nin0))
    have O182 := O165.keep K182q (allS g_b165 all0)
    have K182 := K165.trans K182q (allS (Or.inr sz_b165) all0)
    refine own_go st182 ?_
    show own_Goes _ _ _ _ _ _ _ (T182.setTop (mkF m 12 #[.val (.ref b), .val (.int (0 : Int32)), .val (.int (6 : Int32)), .val (.ref b165), .unset, .unset] [(.int (3 : Int32))]))
    refine own_go (fun _ ww => XS.istore X182.here hx rfl (hb hby d5_12) rfl (l' := #[.val (.ref b), .val (.int (0 : Int32)), .val (.int (6 : Int32)), .val (.ref b165), .val (.int (3 : Int32)), .unset]) rfl ww) ?_
    show own_Goes _ _ _ _ _ _ _ (T182.setTop (mkF m 14 #[.val (.ref b), .val (.int (0 : Int32)), .val (.int (6 : Int32)), .val (.ref b165), .val (.int (3 : Int32)), .unset] []))
    refine own_go (fun _ ww => XS.iload X182.here hx rfl (hb hby d5_14) rfl  ww) ?_
    show own_Goes _ _ _ _ _ _ _ (T182.setTop (mkF m 16 #[.val (.ref b), .val (.int (0 : Int32)), .val (.int (6 : Int32)), .val (.ref b165), .val (.int (3 : Int32)), .unset] [(.int (3 : Int32))]))
    refine own_go (fun _ ww => XS.iloadN X182.here hx rfl (hb hby d5_16) rfl  ww) ?_
    show own_Goes _ _ _ _ _ _ _ (T182.setTop (mkF m 17 #[.val (.ref b), .val (.int (0 : Int32)), .val (.int (6 : Int32)), .val (.ref b165), .val (.int (3 : Int32)), .unset] [(.int (6 : Int32)), (.int (3 : Int32))]))
    refine own_go (fun _ ww => XS.icmpNo X182.here hx rfl (hb hby d5_17) rfl (feq (by decide : ¬ ((3 : Int32) = (6 : Int32)))).1 ww) ?_
    show own_Goes _ _ _ _ _ _ _ (T182.setTop (mkF m 20 #[.val (.ref b), .val (.int (0 : Int32)), .val (.int (6 : Int32)), .val (.ref b165), .val (.int (3 : Int32)), .unset] []))
    refine own_go (fun _ ww => XS.aloadN X182.here hx rfl (hb hby d5_20) rfl rfl ww) ?_
    show own_Goes _ _ _ _ _ _ _ (T182.setTop (mkF m 21 #[.val (.ref b), .val (.int (0 : Int32)), .val (.int (6 : Int32)), .val (.ref b165), .val (.int (3 : Int32)), .unset] [(.ref b)]))
    refine own_go (fun _ ww => XS.iloadN X182.here hx rfl (hb hby d5_21) rfl  ww) ?_
    show own_Goes _ _ _ _ _ _ _ (T182.setTop (mkF m 22 #[.val (.ref b), .val (.int (0 : Int32)), .val (.int (6 : Int32)), .val (.ref b165), .val (.int (3 : Int32)), .unset] [(.int (0 : Int32)), (.ref b)]))
    refine own_go (fun _ ww => XS.iloadN X182.here hx rfl (hb hby d5_22) rfl  ww) ?_
    show own_Goes _ _ _ _ _ _ _ (T182.setTop (mkF m 23 #[.val (.ref b), .val (.int (0 : Int32)), .val (.int (6 : Int32)), .val (.ref b165), .val (.int (3 : Int32)), .unset] [(.int (6 : Int32)), (.int (0 : Int32)), (.ref b)]))
    obtain ⟨_, _, ⟨T184, L184, k184, n184⟩, -, X184, ⟨Lc184, hQ184, l184, y184, z184⟩, st184⟩ := Jvm.LawKit.callS X182 hx (y := (⟨"java/lang/StringUTF16", "toBytes", "([CII)[B"⟩ : MethodName)) hown (mvT hZ (hw _ (List.mem_of_getElem? (i := 81) rfl))) (mvT hZ (hw _ (List.mem_of_getElem? (i := 82) rfl))) (mvT hZ (hw _ (List.mem_of_getElem? (i := 24) rfl))) (mvT hZ (hw _ (List.mem_of_getElem? (i := 83) rfl))) (by decide) (backOf (W := 0) (rm_tob l Z a0 hw [] b kb c0 c1 c2 c3 c4 c5 T182.heap n0 O182 f183 SA SH SLo) hZ (hw _ (List.mem_of_getElem? (i := 83) rfl)) (hw _ (List.mem_of_getElem? (i := 24) rfl)) (by decide) (by decide)) (g := (mkF m 23 #[.val (.ref b), .val (.int (0 : Int32)), .val (.int (6 : Int32)), .val (.ref b165), .val (.int (3 : Int32)), .unset] [(.int (6 : Int32)), (.int (0 : Int32)), (.ref b)])) rfl (by rw [hml]; rfl) (argsL := [(.ref b), (.int (0 : Int32)), (.int (6 : Int32))]) (rest := []) (lenOf pd_4 rfl) rfl (by show 2 * 0 + _ ≤ _; exact Nat.le_of_eq rfl) (hb hby d5_23) (fun _ _ => ⟨rfl, rfl, (by decide : 1 + 1 ≤ _), (by decide : 6 + 12 ≤ _)⟩)
    dsimp only [Pt.U, Pt.locs, Pt.cells, Pt.slots] at X184 l184 y184 z184 st184 hQ184
    subst l184 y184 z184
    obtain ⟨t184, kt184, rfl, N184q, B184, K184q, V184q⟩ := hQ184
    have N184 := Fr.app N182 N184q
    have ne_b_t184 : b ≠ t184 := Nat.ne_of_lt (Nat.lt_of_lt_of_le f183.lt B184)
    have g_t184 : n0 ≤ t184 := Nat.le_trans (O182.1 ▸ O182.2.1) B184
    have sz_t184 : h0.size ≤ t184 := Nat.le_trans (own_ks K182) B184
    have f185 : Arv Z T184.heap b kb .char (6 : Int32) [(.int c0), (.int c1), (.int c2), (.int c3), (.int c4), (.int c5)] (.int (0 : Int32)) := (f183.keep K184q nin0)
    have O184 := O182.keep K184q all0
    have K184 := K182.trans K184q all0
    refine own_go st184 ?_
    show own_Goes _ _ _ _ _ _ _ (T184.setTop (mkF m 26 #[.val (.ref b), .val (.int (0 : Int32)), .val (.int (6 : Int32)), .val (.ref b165), .val (.int (3 : Int32)), .unset] [(.ref t184)]))
    refine own_go (fun _ ww => XS.astore X184.here hx rfl (hb hby d5_26) rfl rfl (l' := #[.val (.ref b), .val (.int (0 : Int32)), .val (.int (6 : Int32)), .val (.ref b165), .val (.int (3 : Int32)), .val (.ref t184)]) rfl ww) ?_
    show own_Goes _ _ _ _ _ _ _ (T184.setTop (mkF m 28 #[.val (.ref b), .val (.int (0 : Int32)), .val (.int (6 : Int32)), .val (.ref b165), .val (.int (3 : Int32)), .val (.ref t184)] []))
    refine own_go (fun _ ww => XS.aload X184.here hx rfl (hb hby d5_28) rfl rfl ww) ?_
    show own_Goes _ _ _ _ _ _ _ (T184.setTop (mkF m 30 #[.val (.ref b), .val (.int (0 : Int32)), .val (.int (6 : Int32)), .val (.ref b165), .val (.int (3 : Int32)), .val (.ref t184)] [(.ref t184)]))
    refine own_go (fun _ ww => XS.iload X184.here hx rfl (hb hby d5_30) rfl  ww) ?_
    show own_Goes _ _ _ _ _ _ _ (T184.setTop (mkF m 32 #[.val (.ref b), .val (.int (0 : Int32)), .val (.int (6 : Int32)), .val (.ref b165), .val (.int (3 : Int32)), .val (.ref t184)] [(.int (3 : Int32)), (.ref t184)]))
    obtain ⟨_, _, ⟨T186, L186, k186, n186⟩, -, X186, ⟨Lc186, hQ186, l186, y186, z186⟩, st186⟩ := Jvm.LawKit.callS X184 hx (y := (⟨"java/lang/StringUTF16", "getChar", "([BI)C"⟩ : MethodName)) hown (mvT hZ (hw _ (List.mem_of_getElem? (i := 97) rfl))) (mvT hZ (hw _ (List.mem_of_getElem? (i := 98) rfl))) (mvT hZ (hw _ (List.mem_of_getElem? (i := 24) rfl))) (mvT hZ (hw _ (List.mem_of_getElem? (i := 99) rfl))) (by decide) (backOf (W := 0) (rm_getc l Z a0 hw [] t184 kt184 ([c0, c1, c2, c3, c4, c5] : List Int32) 3 T184.heap n0 O184 V184q rfl (by decide) hbd SA SH SLo) hZ (hw _ (List.mem_of_getElem? (i := 99) rfl)) (hw _ (List.mem_of_getElem? (i := 24) rfl)) (by decide) (by decide)) (g := (mkF m 32 #[.val (.ref b), .val (.int (0 : Int32)), .val (.int (6 : Int32)), .val (.ref b165), .val (.int (3 : Int32)), .val (.ref t184)] [(.int (3 : Int32)), (.ref t184)])) rfl (by rw [hml]; rfl) (argsL := [(.ref t184), (.int (3 : Int32))]) (rest := []) (lenOf pd_5 rfl) rfl (by show 2 * 0 + _ ≤ _; exact Nat.le_of_eq rfl) (hb hby d5_32) (fun _ _ => ⟨rfl, rfl, (by decide : 2 + 0 ≤ _), (by decide : 18 + 0 ≤ _)⟩)
    dsimp only [Pt.U, Pt.locs, Pt.cells, Pt.slots] at X186 l186 y186 z186 st186 hQ186
    subst l186 y186 z186
    obtain ⟨rfl, N186q, e186⟩ := hQ186
    have N186 := Fr.app N184 N186q
    refine own_go st186 ?_
    show own_Goes _ _ _ _ _ _ _ (T186.setTop (mkF m 35 #[.val (.ref b), .val (.int (0 : Int32)), .val (.int (6 : Int32)), .val (.ref b165), .val (.int (3 : Int32)), .val (.ref t184)] [(.int c3)]))
    refine own_go (fun _ ww => XS.sipush X186.here hx rfl (hb hby d5_35) ww) ?_
    show own_Goes _ _ _ _ _ _ _ (T186.setTop (mkF m 38 #[.val (.ref b), .val (.int (0 : Int32)), .val (.int (6 : Int32)), .val (.ref b165), .val (.int (3 : Int32)), .val (.ref t184)] [(.int (255 : Int32)), (.int c3)]))
    refine own_go (fun _ ww => XS.icmpYes X186.here hx rfl (pc0 := 38) (pc' := 54) rfl (hb hby d5_38) rfl (tlt hgt).2.2.1 (by decide) (by decide) ww) ?_
    show own_Goes _ _ _ _ _ _ _ (T186.setTop (mkF m 54 #[.val (.ref b), .val (.int (0 : Int32)), .val (.int (6 : Int32)), .val (.ref b165), .val (.int (3 : Int32)), .val (.ref t184)] []))
    refine own_go (fun _ ww => XS.aload X186.here hx rfl (hb hby d5_54) rfl rfl ww) ?_
    show own_Goes _ _ _ _ _ _ _ (T186.setTop (mkF m 56 #[.val (.ref b), .val (.int (0 : Int32)), .val (.int (6 : Int32)), .val (.ref b165), .val (.int (3 : Int32)), .val (.ref t184)] [(.ref t184)]))
    exact own_out X186 hlk (v := some (.ref t184)) (fun h => by rw [hret] at h; cases h) (fun fs hr => retOut X186 hx (t := (.array .byte)) hret rfl (Or.inr (Or.inr (Or.inr (Or.inr ⟨rfl, rfl, rfl⟩)))) (hb hby d5_56) hr) e186 ⟨_, kt184, rfl, N186, sz_t184, K184, V184q⟩ (by decide) (by decide)
  ·
    show own_Goes _ _ _ _ _ _ _ (T165.setTop (mkF m 9 #[.val (.ref b), .val (.int (0 : Int32)), .val (.int (6 : Int32)), .val (.ref b165), .unset, .unset] [(.int (6 : Int32)), (.int (0 : Int32)), (.ref b165), (.int (0 : Int32)), (.ref b)]))
    obtain ⟨_, _, ⟨T187, L187, k187, n187⟩, -, X187, ⟨Lc187, hQ187, l187, y187, z187⟩, st187⟩ := Jvm.LawKit.callS X165 hx (y := (⟨"java/lang/StringUTF16", "compress", "([CI[BII)I"⟩ : MethodName)) hown (mvT hZ (hw _ (List.mem_of_getElem? (i := 27) rfl))) (mvT hZ (hw _ (List.mem_of_getElem? (i := 28) rfl))) (mvT hZ (hw _ (List.mem_of_getElem? (i := 24) rfl))) (mvT hZ (hw _ (List.mem_of_getElem? (i := 29) rfl))) (by decide) (backOf (W := 0) (rm_cm5_4 l Z a0 hw [] b kb b165 k165 c0 c1 c2 c3 c4 c5 h165 n0 O165 f166 V165 g_b165 ne_b_b165 le0 le1 le2 le3 hgt) hZ (hw _ (List.mem_of_getElem? (i := 29) rfl)) (hw _ (List.mem_of_getElem? (i := 24) rfl)) (by decide) (by decide)) (g := (mkF m 9 #[.val (.ref b), .val (.int (0 : Int32)), .val (.int (6 : Int32)), .val (.ref b165), .unset, .unset] [(.int (6 : Int32)), (.int (0 : Int32)), (.ref b165), (.int (0 : Int32)), (.ref b)])) rfl (by rw [hml]; rfl) (argsL := [(.ref b), (.int (0 : Int32)), (.ref b165), (.int (0 : Int32)), (.int (6 : Int32))]) (rest := []) (lenOf pd_3 rfl) rfl (by show 2 * 0 + _ ≤ _; exact Nat.le_of_eq rfl) (hb hby d5_9) (fun _ _ => ⟨rfl, e165, (by decide : 1 + 0 ≤ _), (by decide : 6 + 0 ≤ _)⟩)
    dsimp only [Pt.U, Pt.locs, Pt.cells, Pt.slots] at X187 l187 y187 z187 st187 hQ187
    subst l187 y187 z187
    obtain ⟨rfl, N187q, K187q⟩ := hQ187
    have N187 := Fr.app N0 N187q
    have f188 : Arv Z T187.heap b kb .char (6 : Int32) [(.int c0), (.int c1), (.int c2), (.int c3), (.int c4), (.int c5)] (.int (0 : Int32)) := (f166.keep K187q (ninS ne_b_b165 nin0))
    have O187 := O165.keep K187q (allS g_b165 all0)
    have K187 := K165.trans K187q (allS (Or.inr sz_b165) all0)
    refine own_go st187 ?_
    show own_Goes _ _ _ _ _ _ _ (T187.setTop (mkF m 12 #[.val (.ref b), .val (.int (0 : Int32)), .val (.int (6 : Int32)), .val (.ref b165), .unset, .unset] [(.int (4 : Int32))]))
    refine own_go (fun _ ww => XS.istore X187.here hx rfl (hb hby d5_12) rfl (l' := #[.val (.ref b), .val (.int (0 : Int32)), .val (.int (6 : Int32)), .val (.ref b165), .val (.int (4 : Int32)), .unset]) rfl ww) ?_
    show own_Goes _ _ _ _ _ _ _ (T187.setTop (mkF m 14 #[.val (.ref b), .val (.int (0 : Int32)), .val (.int (6 : Int32)), .val (.ref b165), .val (.int (4 : Int32)), .unset] []))
    refine own_go (fun _ ww => XS.iload X187.here hx rfl (hb hby d5_14) rfl  ww) ?_
    show own_Goes _ _ _ _ _ _ _ (T187.setTop (mkF m 16 #[.val (.ref b), .val (.int (0 : Int32)), .val (.int (6 : Int32)), .val (.ref b165), .val (.int (4 : Int32)), .unset] [(.int (4 : Int32))]))
    refine own_go (fun _ ww => XS.iloadN X187.here hx rfl (hb hby d5_16) rfl  ww) ?_
    show own_Goes _ _ _ _ _ _ _ (T187.setTop (mkF m 17 #[.val (.ref b), .val (.int (0 : Int32)), .val (.int (6 : Int32)), .val (.ref b165), .val (.int (4 : Int32)), .unset] [(.int (6 : Int32)), (.int (4 : Int32))]))
    refine own_go (fun _ ww => XS.icmpNo X187.here hx rfl (hb hby d5_17) rfl (feq (by decide : ¬ ((4 : Int32) = (6 : Int32)))).1 ww) ?_
    show own_Goes _ _ _ _ _ _ _ (T187.setTop (mkF m 20 #[.val (.ref b), .val (.int (0 : Int32)), .val (.int (6 : Int32)), .val (.ref b165), .val (.int (4 : Int32)), .unset] []))
    refine own_go (fun _ ww => XS.aloadN X187.here hx rfl (hb hby d5_20) rfl rfl ww) ?_
    show own_Goes _ _ _ _ _ _ _ (T187.setTop (mkF m 21 #[.val (.ref b), .val (.int (0 : Int32)), .val (.int (6 : Int32)), .val (.ref b165), .val (.int (4 : Int32)), .unset] [(.ref b)]))
    refine own_go (fun _ ww => XS.iloadN X187.here hx rfl (hb hby d5_21) rfl  ww) ?_
    show own_Goes _ _ _ _ _ _ _ (T187.setTop (mkF m 22 #[.val (.ref b), .val (.int (0 : Int32)), .val (.int (6 : Int32)), .val (.ref b165), .val (.int (4 : Int32)), .unset] [(.int (0 : Int32)), (.ref b)]))
    refine own_go (fun _ ww => XS.iloadN X187.here hx rfl (hb hby d5_22) rfl  ww) ?_
    show own_Goes _ _ _ _ _ _ _ (T187.setTop (mkF m 23 #[.val (.ref b), .val (.int (0 : Int32)), .val (.int (6 : Int32)), .val (.ref b165), .val (.int (4 : Int32)), .unset] [(.int (6 : Int32)), (.int (0 : Int32)), (.ref b)]))
    obtain ⟨_, _, ⟨T189, L189, k189, n189⟩, -, X189, ⟨Lc189, hQ189, l189, y189, z189⟩, st189⟩ := Jvm.LawKit.callS X187 hx (y := (⟨"java/lang/StringUTF16", "toBytes", "([CII)[B"⟩ : MethodName)) hown (mvT hZ (hw _ (List.mem_of_getElem? (i := 81) rfl))) (mvT hZ (hw _ (List.mem_of_getElem? (i := 82) rfl))) (mvT hZ (hw _ (List.mem_of_getElem? (i := 24) rfl))) (mvT hZ (hw _ (List.mem_of_getElem? (i := 83) rfl))) (by decide) (backOf (W := 0) (rm_tob l Z a0 hw [] b kb c0 c1 c2 c3 c4 c5 T187.heap n0 O187 f188 SA SH SLo) hZ (hw _ (List.mem_of_getElem? (i := 83) rfl)) (hw _ (List.mem_of_getElem? (i := 24) rfl)) (by decide) (by decide)) (g := (mkF m 23 #[.val (.ref b), .val (.int (0 : Int32)), .val (.int (6 : Int32)), .val (.ref b165), .val (.int (4 : Int32)), .unset] [(.int (6 : Int32)), (.int (0 : Int32)), (.ref b)])) rfl (by rw [hml]; rfl) (argsL := [(.ref b), (.int (0 : Int32)), (.int (6 : Int32))]) (rest := []) (lenOf pd_4 rfl) rfl (by show 2 * 0 + _ ≤ _; exact Nat.le_of_eq rfl) (hb hby d5_23) (fun _ _ => ⟨rfl, rfl, (by decide : 1 + 1 ≤ _), (by decide : 6 + 12 ≤ _)⟩)
    dsimp only [Pt.U, Pt.locs, Pt.cells, Pt.slots] at X189 l189 y189 z189 st189 hQ189
    subst l189 y189 z189
    obtain ⟨t189, kt189, rfl, N189q, B189, K189q, V189q⟩ := hQ189
    have N189 := Fr.app N187 N189q
    have ne_b_t189 : b ≠ t189 := Nat.ne_of_lt (Nat.lt_of_lt_of_le f188.lt B189)
    have g_t189 : n0 ≤ t189 := Nat.le_trans (O187.1 ▸ O187.2.1) B189
    have sz_t189 : h0.size ≤ t189 := Nat.le_trans (own_ks K187) B189
    have f190 : Arv Z T189.heap b kb .char (6 : Int32) [(.int c0), (.int c1), (.int c2), (.int c3), (.int c4), (.int c5)] (.int (0 : Int32)) := (f188.keep K189q nin0)
    have O189 := O187.keep K189q all0
    have K189 := K187.trans K189q all0
    refine own_go st189 ?_
    show own_Goes _ _ _ _ _ _ _ (T189.setTop (mkF m 26 #[.val (.ref b), .val (.int (0 : Int32)), .val (.int (6 : Int32)), .val (.ref b165), .val (.int (4 : Int32)), .unset] [(.ref t189)]))
    refine own_go (fun _ ww => XS.astore X189.here hx rfl (hb hby d5_26) rfl rfl (l' := #[.val (.ref b), .val (.int (0 : Int32)), .val (.int (6 : Int32)), .val (.ref b165), .val (.int (4 : Int32)), .val (.ref t189)]) rfl ww) ?_
    show own_Goes _ _ _ _ _ _ _ (T189.setTop (mkF m 28 #[.val (.ref b), .val (.int (0 : Int32)), .val (.int (6 : Int32)), .val (.ref b165), .val (.int (4 : Int32)), .val (.ref t189)] []))
    refine own_go (fun _ ww => XS.aload X189.here hx rfl (hb hby d5_28) rfl rfl ww) ?_
    show own_Goes _ _ _ _ _ _ _ (T189.setTop (mkF m 30 #[.val (.ref b), .val (.int (0 : Int32)), .val (.int (6 : Int32)), .val (.ref b165), .val (.int (4 : Int32)), .val (.ref t189)] [(.ref t189)]))
    refine own_go (fun _ ww => XS.iload X189.here hx rfl (hb hby d5_30) rfl  ww) ?_
    show own_Goes _ _ _ _ _ _ _ (T189.setTop (mkF m 32 #[.val (.ref b), .val (.int (0 : Int32)), .val (.int (6 : Int32)), .val (.ref b165), .val (.int (4 : Int32)), .val (.ref t189)] [(.int (4 : Int32)), (.ref t189)]))
    obtain ⟨_, _, ⟨T191, L191, k191, n191⟩, -, X191, ⟨Lc191, hQ191, l191, y191, z191⟩, st191⟩ := Jvm.LawKit.callS X189 hx (y := (⟨"java/lang/StringUTF16", "getChar", "([BI)C"⟩ : MethodName)) hown (mvT hZ (hw _ (List.mem_of_getElem? (i := 97) rfl))) (mvT hZ (hw _ (List.mem_of_getElem? (i := 98) rfl))) (mvT hZ (hw _ (List.mem_of_getElem? (i := 24) rfl))) (mvT hZ (hw _ (List.mem_of_getElem? (i := 99) rfl))) (by decide) (backOf (W := 0) (rm_getc l Z a0 hw [] t189 kt189 ([c0, c1, c2, c3, c4, c5] : List Int32) 4 T189.heap n0 O189 V189q rfl (by decide) hbd SA SH SLo) hZ (hw _ (List.mem_of_getElem? (i := 99) rfl)) (hw _ (List.mem_of_getElem? (i := 24) rfl)) (by decide) (by decide)) (g := (mkF m 32 #[.val (.ref b), .val (.int (0 : Int32)), .val (.int (6 : Int32)), .val (.ref b165), .val (.int (4 : Int32)), .val (.ref t189)] [(.int (4 : Int32)), (.ref t189)])) rfl (by rw [hml]; rfl) (argsL := [(.ref t189), (.int (4 : Int32))]) (rest := []) (lenOf pd_5 rfl) rfl (by show 2 * 0 + _ ≤ _; exact Nat.le_of_eq rfl) (hb hby d5_32) (fun _ _ => ⟨rfl, rfl, (by decide : 2 + 0 ≤ _), (by decide : 18 + 0 ≤ _)⟩)
    dsimp only [Pt.U, Pt.locs, Pt.cells, Pt.slots] at X191 l191 y191 z191 st191 hQ191
    subst l191 y191 z191
    obtain ⟨rfl, N191q, e191⟩ := hQ191
    have N191 := Fr.app N189 N191q
    refine own_go st191 ?_
    show own_Goes _ _ _ _ _ _ _ (T191.setTop (mkF m 35 #[.val (.ref b), .val (.int (0 : Int32)), .val (.int (6 : Int32)), .val (.ref b165), .val (.int (4 : Int32)), .val (.ref t189)] [(.int c4)]))
    refine own_go (fun _ ww => XS.sipush X191.here hx rfl (hb hby d5_35) ww) ?_
    show own_Goes _ _ _ _ _ _ _ (T191.setTop (mkF m 38 #[.val (.ref b), .val (.int (0 : Int32)), .val (.int (6 : Int32)), .val (.ref b165), .val (.int (4 : Int32)), .val (.ref t189)] [(.int (255 : Int32)), (.int c4)]))
    refine own_go (fun _ ww => XS.icmpYes X191.here hx rfl (pc0 := 38) (pc' := 54) rfl (hb hby d5_38) rfl (tlt hgt).2.2.1 (by decide) (by decide) ww) ?_
    show own_Goes _ _ _ _ _ _ _ (T191.setTop (mkF m 54 #[.val (.ref b), .val (.int (0 : Int32)), .val (.int (6 : Int32)), .val (.ref b165), .val (.int (4 : Int32)), .val (.ref t189)] []))
    refine own_go (fun _ ww => XS.aload X191.here hx rfl (hb hby d5_54) rfl rfl ww) ?_
    show own_Goes _ _ _ _ _ _ _ (T191.setTop (mkF m 56 #[.val (.ref b), .val (.int (0 : Int32)), .val (.int (6 : Int32)), .val (.ref b165), .val (.int (4 : Int32)), .val (.ref t189)] [(.ref t189)]))
    exact own_out X191 hlk (v := some (.ref t189)) (fun h => by rw [hret] at h; cases h) (fun fs hr => retOut X191 hx (t := (.array .byte)) hret rfl (Or.inr (Or.inr (Or.inr (Or.inr ⟨rfl, rfl, rfl⟩)))) (hb hby d5_56) hr) e191 ⟨_, kt189, rfl, N191, sz_t189, K189, V189q⟩ (by decide) (by decide)
  ·
    show own_Goes _ _ _ _ _ _ _ (T165.setTop (mkF m 9 #[.val (.ref b), .val (.int (0 : Int32)), .val (.int (6 : Int32)), .val (.ref b165), .unset, .unset] [(.int (6 : Int32)), (.int (0 : Int32)), (.ref b165), (.int (0 : Int32)), (.ref b)]))
    obtain ⟨_, _, ⟨T192, L192, k192, n192⟩, -, X192, ⟨Lc192, hQ192, l192, y192, z192⟩, st192⟩ := Jvm.LawKit.callS X165 hx (y := (⟨"java/lang/StringUTF16", "compress", "([CI[BII)I"⟩ : MethodName)) hown (mvT hZ (hw _ (List.mem_of_getElem? (i := 27) rfl))) (mvT hZ (hw _ (List.mem_of_getElem? (i := 28) rfl))) (mvT hZ (hw _ (List.mem_of_getElem? (i := 24) rfl))) (mvT hZ (hw _ (List.mem_of_getElem? (i := 29) rfl))) (by decide) (backOf (W := 0) (rm_cm5_5 l Z a0 hw [] b kb b165 k165 c0 c1 c2 c3 c4 c5 h165 n0 O165 f166 V165 g_b165 ne_b_b165 le0 le1 le2 le3 le4 hgt) hZ (hw _ (List.mem_of_getElem? (i := 29) rfl)) (hw _ (List.mem_of_getElem? (i := 24) rfl)) (by decide) (by decide)) (g := (mkF m 9 #[.val (.ref b), .val (.int (0 : Int32)), .val (.int (6 : Int32)), .val (.ref b165), .unset, .unset] [(.int (6 : Int32)), (.int (0 : Int32)), (.ref b165), (.int (0 : Int32)), (.ref b)])) rfl (by rw [hml]; rfl) (argsL := [(.ref b), (.int (0 : Int32)), (.ref b165), (.int (0 : Int32)), (.int (6 : Int32))]) (rest := []) (lenOf pd_3 rfl) rfl (by show 2 * 0 + _ ≤ _; exact Nat.le_of_eq rfl) (hb hby d5_9) (fun _ _ => ⟨rfl, e165, (by decide : 1 + 0 ≤ _), (by decide : 6 + 0 ≤ _)⟩)
    dsimp only [Pt.U, Pt.locs, Pt.cells, Pt.slots] at X192 l192 y192 z192 st192 hQ192
    subst l192 y192 z192
    obtain ⟨rfl, N192q, K192q⟩ := hQ192
    have N192 := Fr.app N0 N192q
    have f193 : Arv Z T192.heap b kb .char (6 : Int32) [(.int c0), (.int c1), (.int c2), (.int c3), (.int c4), (.int c5)] (.int (0 : Int32)) := (f166.keep K192q (ninS ne_b_b165 nin0))
    have O192 := O165.keep K192q (allS g_b165 all0)
    have K192 := K165.trans K192q (allS (Or.inr sz_b165) all0)
    refine own_go st192 ?_
    show own_Goes _ _ _ _ _ _ _ (T192.setTop (mkF m 12 #[.val (.ref b), .val (.int (0 : Int32)), .val (.int (6 : Int32)), .val (.ref b165), .unset, .unset] [(.int (5 : Int32))]))
    refine own_go (fun _ ww => XS.istore X192.here hx rfl (hb hby d5_12) rfl (l' := #[.val (.ref b), .val (.int (0 : Int32)), .val (.int (6 : Int32)), .val (.ref b165), .val (.int (5 : Int32)), .unset]) rfl ww) ?_
    show own_Goes _ _ _ _ _ _ _ (T192.setTop (mkF m 14 #[.val (.ref b), .val (.int (0 : Int32)), .val (.int (6 : Int32)), .val (.ref b165), .val (.int (5 : Int32)), .unset] []))
    refine own_go (fun _ ww => XS.iload X192.here hx rfl (hb hby d5_14) rfl  ww) ?_
    show own_Goes _ _ _ _ _ _ _ (T192.setTop (mkF m 16 #[.val (.ref b), .val (.int (0 : Int32)), .val (.int (6 : Int32)), .val (.ref b165), .val (.int (5 : Int32)), .unset] [(.int (5 : Int32))]))
    refine own_go (fun _ ww => XS.iloadN X192.here hx rfl (hb hby d5_16) rfl  ww) ?_
    show own_Goes _ _ _ _ _ _ _ (T192.setTop (mkF m 17 #[.val (.ref b), .val (.int (0 : Int32)), .val (.int (6 : Int32)), .val (.ref b165), .val (.int (5 : Int32)), .unset] [(.int (6 : Int32)), (.int (5 : Int32))]))
    refine own_go (fun _ ww => XS.icmpNo X192.here hx rfl (hb hby d5_17) rfl (feq (by decide : ¬ ((5 : Int32) = (6 : Int32)))).1 ww) ?_
    show own_Goes _ _ _ _ _ _ _ (T192.setTop (mkF m 20 #[.val (.ref b), .val (.int (0 : Int32)), .val (.int (6 : Int32)), .val (.ref b165), .val (.int (5 : Int32)), .unset] []))
    refine own_go (fun _ ww => XS.aloadN X192.here hx rfl (hb hby d5_20) rfl rfl ww) ?_
    show own_Goes _ _ _ _ _ _ _ (T192.setTop (mkF m 21 #[.val (.ref b), .val (.int (0 : Int32)), .val (.int (6 : Int32)), .val (.ref b165), .val (.int (5 : Int32)), .unset] [(.ref b)]))
    refine own_go (fun _ ww => XS.iloadN X192.here hx rfl (hb hby d5_21) rfl  ww) ?_
    show own_Goes _ _ _ _ _ _ _ (T192.setTop (mkF m 22 #[.val (.ref b), .val (.int (0 : Int32)), .val (.int (6 : Int32)), .val (.ref b165), .val (.int (5 : Int32)), .unset] [(.int (0 : Int32)), (.ref b)]))
    refine own_go (fun _ ww => XS.iloadN X192.here hx rfl (hb hby d5_22) rfl  ww) ?_
    show own_Goes _ _ _ _ _ _ _ (T192.setTop (mkF m 23 #[.val (.ref b), .val (.int (0 : Int32)), .val (.int (6 : Int32)), .val (.ref b165), .val (.int (5 : Int32)), .unset] [(.int (6 : Int32)), (.int (0 : Int32)), (.ref b)]))
    obtain ⟨_, _, ⟨T194, L194, k194, n194⟩, -, X194, ⟨Lc194, hQ194, l194, y194, z194⟩, st194⟩ := Jvm.LawKit.callS X192 hx (y := (⟨"java/lang/StringUTF16", "toBytes", "([CII)[B"⟩ : MethodName)) hown (mvT hZ (hw _ (List.mem_of_getElem? (i := 81) rfl))) (mvT hZ (hw _ (List.mem_of_getElem? (i := 82) rfl))) (mvT hZ (hw _ (List.mem_of_getElem? (i := 24) rfl))) (mvT hZ (hw _ (List.mem_of_getElem? (i := 83) rfl))) (by decide) (backOf (W := 0) (rm_tob l Z a0 hw [] b kb c0 c1 c2 c3 c4 c5 T192.heap n0 O192 f193 SA SH SLo) hZ (hw _ (List.mem_of_getElem? (i := 83) rfl)) (hw _ (List.mem_of_getElem? (i := 24) rfl)) (by decide) (by decide)) (g := (mkF m 23 #[.val (.ref b), .val (.int (0 : Int32)), .val (.int (6 : Int32)), .val (.ref b165), .val (.int (5 : Int32)), .unset] [(.int (6 : Int32)), (.int (0 : Int32)), (.ref b)])) rfl (by rw [hml]; rfl) (argsL := [(.ref b), (.int (0 : Int32)), (.int (6 : Int32))]) (rest := []) (lenOf pd_4 rfl) rfl (by show 2 * 0 + _ ≤ _; exact Nat.le_of_eq rfl) (hb hby d5_23) (fun _ _ => ⟨rfl, rfl, (by decide : 1 + 1 ≤ _), (by decide : 6 + 12 ≤ _)⟩)
    dsimp only [Pt.U, Pt.locs, Pt.cells, Pt.slots] at X194 l194 y194 z194 st194 hQ194
    subst l194 y194 z194
    obtain ⟨t194, kt194, rfl, N194q, B194, K194q, V194q⟩ := hQ194
    have N194 := Fr.app N192 N194q
    have ne_b_t194 : b ≠ t194 := Nat.ne_of_lt (Nat.lt_of_lt_of_le f193.lt B194)
    have g_t194 : n0 ≤ t194 := Nat.le_trans (O192.1 ▸ O192.2.1) B194
    have sz_t194 : h0.size ≤ t194 := Nat.le_trans (own_ks K192) B194
    have f195 : Arv Z T194.heap b kb .char (6 : Int32) [(.int c0), (.int c1), (.int c2), (.int c3), (.int c4), (.int c5)] (.int (0 : Int32)) := (f193.keep K194q nin0)
    have O194 := O192.keep K194q all0
    have K194 := K192.trans K194q all0
    refine own_go st194 ?_
    show own_Goes _ _ _ _ _ _ _ (T194.setTop (mkF m 26 #[.val (.ref b), .val (.int (0 : Int32)), .val (.int (6 : Int32)), .val (.ref b165), .val (.int (5 : Int32)), .unset] [(.ref t194)]))
    refine own_go (fun _ ww => XS.astore X194.here hx rfl (hb hby d5_26) rfl rfl (l' := #[.val (.ref b), .val (.int (0 : Int32)), .val (.int (6 : Int32)), .val (.ref b165), .val (.int (5 : Int32)), .val (.ref t194)]) rfl ww) ?_
    show own_Goes _ _ _ _ _ _ _ (T194.setTop (mkF m 28 #[.val (.ref b), .val (.int (0 : Int32)), .val (.int (6 : Int32)), .val (.ref b165), .val (.int (5 : Int32)), .val (.ref t194)] []))
    refine own_go (fun _ ww => XS.aload X194.here hx rfl (hb hby d5_28) rfl rfl ww) ?_
    show own_Goes _ _ _ _ _ _ _ (T194.setTop (mkF m 30 #[.val (.ref b), .val (.int (0 : Int32)), .val (.int (6 : Int32)), .val (.ref b165), .val (.int (5 : Int32)), .val (.ref t194)] [(.ref t194)]))
    refine own_go (fun _ ww => XS.iload X194.here hx rfl (hb hby d5_30) rfl  ww) ?_
    show own_Goes _ _ _ _ _ _ _ (T194.setTop (mkF m 32 #[.val (.ref b), .val (.int (0 : Int32)), .val (.int (6 : Int32)), .val (.ref b165), .val (.int (5 : Int32)), .val (.ref t194)] [(.int (5 : Int32)), (.ref t194)]))
    obtain ⟨_, _, ⟨T196, L196, k196, n196⟩, -, X196, ⟨Lc196, hQ196, l196, y196, z196⟩, st196⟩ := Jvm.LawKit.callS X194 hx (y := (⟨"java/lang/StringUTF16", "getChar", "([BI)C"⟩ : MethodName)) hown (mvT hZ (hw _ (List.mem_of_getElem? (i := 97) rfl))) (mvT hZ (hw _ (List.mem_of_getElem? (i := 98) rfl))) (mvT hZ (hw _ (List.mem_of_getElem? (i := 24) rfl))) (mvT hZ (hw _ (List.mem_of_getElem? (i := 99) rfl))) (by decide) (backOf (W := 0) (rm_getc l Z a0 hw [] t194 kt194 ([c0, c1, c2, c3, c4, c5] : List Int32) 5 T194.heap n0 O194 V194q rfl (by decide) hbd SA SH SLo) hZ (hw _ (List.mem_of_getElem? (i := 99) rfl)) (hw _ (List.mem_of_getElem? (i := 24) rfl)) (by decide) (by decide)) (g := (mkF m 32 #[.val (.ref b), .val (.int (0 : Int32)), .val (.int (6 : Int32)), .val (.ref b165), .val (.int (5 : Int32)), .val (.ref t194)] [(.int (5 : Int32)), (.ref t194)])) rfl (by rw [hml]; rfl) (argsL := [(.ref t194), (.int (5 : Int32))]) (rest := []) (lenOf pd_5 rfl) rfl (by show 2 * 0 + _ ≤ _; exact Nat.le_of_eq rfl) (hb hby d5_32) (fun _ _ => ⟨rfl, rfl, (by decide : 2 + 0 ≤ _), (by decide : 18 + 0 ≤ _)⟩)
    dsimp only [Pt.U, Pt.locs, Pt.cells, Pt.slots] at X196 l196 y196 z196 st196 hQ196
    subst l196 y196 z196
    obtain ⟨rfl, N196q, e196⟩ := hQ196
    have N196 := Fr.app N194 N196q
    refine own_go st196 ?_
    show own_Goes _ _ _ _ _ _ _ (T196.setTop (mkF m 35 #[.val (.ref b), .val (.int (0 : Int32)), .val (.int (6 : Int32)), .val (.ref b165), .val (.int (5 : Int32)), .val (.ref t194)] [(.int c5)]))
    refine own_go (fun _ ww => XS.sipush X196.here hx rfl (hb hby d5_35) ww) ?_
    show own_Goes _ _ _ _ _ _ _ (T196.setTop (mkF m 38 #[.val (.ref b), .val (.int (0 : Int32)), .val (.int (6 : Int32)), .val (.ref b165), .val (.int (5 : Int32)), .val (.ref t194)] [(.int (255 : Int32)), (.int c5)]))
    refine own_go (fun _ ww => XS.icmpYes X196.here hx rfl (pc0 := 38) (pc' := 54) rfl (hb hby d5_38) rfl (tlt hgt).2.2.1 (by decide) (by decide) ww) ?_
    show own_Goes _ _ _ _ _ _ _ (T196.setTop (mkF m 54 #[.val (.ref b), .val (.int (0 : Int32)), .val (.int (6 : Int32)), .val (.ref b165), .val (.int (5 : Int32)), .val (.ref t194)] []))
    refine own_go (fun _ ww => XS.aload X196.here hx rfl (hb hby d5_54) rfl rfl ww) ?_
    show own_Goes _ _ _ _ _ _ _ (T196.setTop (mkF m 56 #[.val (.ref b), .val (.int (0 : Int32)), .val (.int (6 : Int32)), .val (.ref b165), .val (.int (5 : Int32)), .val (.ref t194)] [(.ref t194)]))
    exact own_out X196 hlk (v := some (.ref t194)) (fun h => by rw [hret] at h; cases h) (fun fs hr => retOut X196 hx (t := (.array .byte)) hret rfl (Or.inr (Or.inr (Or.inr (Or.inr ⟨rfl, rfl, rfl⟩)))) (hb hby d5_56) hr) e196 ⟨_, kt194, rfl, N196, sz_t194, K194, V194q⟩ (by decide) (by decide)
theorem d7_0 : decode jdk_52_method_15_code 0 = .ok (.iload_n 1, 1) := by decide +kernel
theorem d7_1 : decode jdk_52_method_15_code 1 = .ok (.aload_n 0, 1) := by decide +kernel
theorem d7_2 : decode jdk_52_method_15_code 2 = .ok (.arraylength, 1) := by decide +kernel
theorem d7_3 : decode jdk_52_method_15_code 3 = .ok (.isub, 1) := by decide +kernel
theorem d7_4 : decode jdk_52_method_15_code 4 = .ok (.bipush 31, 2) := by decide +kernel
theorem d7_6 : decode jdk_52_method_15_code 6 = .ok (.iushr, 1) := by decide +kernel
theorem d7_7 : decode jdk_52_method_15_code 7 = .ok (.i2b, 1) := by decide +kernel
theorem d7_8 : decode jdk_52_method_15_code 8 = .ok (.ireturn, 1) := by decide +kernel
theorem ef_cfaL (m : MethodId) (t : Addr) (kt : ClassId) (vs : List Value) : entryFrame m #[(.ref t), (.int (6 : Int32))] 2 = mkF m 0 #[.val (.ref t), .val (.int (6 : Int32))] [] := by
  first | (simp [entryFrame, mkF, argsToLocals, Value.category]; done) | rfl
def Q_cfaL (Z : State) (t : Addr) (kt : ClassId) (vs : List Value) (h0 : Heap) (n0 : Nat) (v : Option Value) (h : Heap) (L : List Loc) : Prop := v = some (.int (0 : Int32)) ∧ Fr n0 L ∧ h = h0
set_option maxRecDepth 65536 in
set_option maxHeartbeats 40000000 in
theorem rm_cfaL (l : Launch) (Z : State) (a0 : Array Value) (hw : ∀ d ∈ tables_1, d.before a0 Z = true) (ws : List Jvm.Cond) (t : Addr) (kt : ClassId) (vs : List Value) (h0 : Heap) (n0 : Nat) (O0 : Old Z n0 h0) (Kt : Arv Z h0 t kt .byte (6 : Int32) vs (.int (0 : Int32))) :
    MetFree l (⟨"java/lang/StringUTF16", "coderFromArrayLen", "([BI)B"⟩ : MethodName) (head1 (Jvm.Cond.code (⟨"java/lang/StringUTF16", "coderFromArrayLen", "([BI)B"⟩ : MethodName) jdk_52_method_15_code 2 (some .byte) :: ws) ({ frames := 0, cells := 0, slots := 0, locals := 0 } : Room)) (fun av_ U => av_ = #[(.ref t), (.int (6 : Int32))] ∧ Z.Warmed39 U.vm ∧ U.heap = h0) (fun _ _ _ _ _ => True) (fun _ U o_ U' => ∃ v L, o_ = .returned v ∧ Q_cfaL Z t kt vs h0 n0 v U'.heap L ∧ FrameEnd U o_ U' L ({ frames := 0, cells := 0, slots := 0, locals := 0 } : Room).cells ({ frames := 0, cells := 0, slots := 0, locals := 0 } : Room).slots) := by
  refine MetFree.of_bodySF (plainFor_of_name pn_1) hisR ?_
  intro p e s m args below meth c s₁ Bd hml0 hP hK
  obtain ⟨rfl, hZ, hh⟩ := hP
  have hx := Bd.exec
  have hby := Bd.bytes
  have hml : c.maxLocals = 2 := hml0
  have hown : s.vm.findClass "java/lang/StringUTF16" = some m.cls := findClass_of_methodNamed Bd.named
  have hnm := (name_of_methodNamed Bd.named Bd.method).1
  have hlk := own_lk Bd
  have hret := Bd.returns
  have X0 : Stand p l e ({ frames := 0, cells := 0, slots := 0, locals := 0 } : Room) s m #[(.ref t), (.int (6 : Int32))] below meth c s₁ [] 0 0 := Stand.of_body Bd
  have e0 : s₁.heap = h0 := by rw [← hh, Bd.state]; rfl
  have N0 := Fr.nil n0
  show own_Goes p e below s (Q_cfaL Z t kt vs h0 n0) ({ frames := 0, cells := 0, slots := 0, locals := 0 } : Room).cells ({ frames := 0, cells := 0, slots := 0, locals := 0 } : Room).slots (s₁.setTop (entryFrame m #[(.ref t), (.int (6 : Int32))] 2))
  refine own_go (fun _ ww => castTop (ef_cfaL m t kt vs) ww) ?_
  show own_Goes _ _ _ _ _ _ _ (s₁.setTop (mkF m 0 #[.val (.ref t), .val (.int (6 : Int32))] []))
  refine own_go (fun _ ww => XS.iloadN X0.here hx rfl (hb hby d7_0) rfl  ww) ?_
  show own_Goes _ _ _ _ _ _ _ (s₁.setTop (mkF m 1 #[.val (.ref t), .val (.int (6 : Int32))] [(.int (6 : Int32))]))
  refine own_go (fun _ ww => XS.aloadN X0.here hx rfl (hb hby d7_1) rfl rfl ww) ?_
  show own_Goes _ _ _ _ _ _ _ (s₁.setTop (mkF m 2 #[.val (.ref t), .val (.int (6 : Int32))] [(.ref t), (.int (6 : Int32))]))
  obtain ⟨cl197, Ar197, -, S197, Ng197, -, -⟩ := id Kt
  refine own_go (fun _ ww => X0.arraylength hx (by rw [e0]; exact Ar197.1) (State.isArrayOf_alike hZ.alike Ar197.2.1) (g := (mkF m 2 #[.val (.ref t), .val (.int (6 : Int32))] [(.ref t), (.int (6 : Int32))])) rfl rfl (hb hby d7_2) _ ww) ?_
  rw [len_of S197 Ng197]
  show own_Goes _ _ _ _ _ _ _ (s₁.setTop (mkF m 3 #[.val (.ref t), .val (.int (6 : Int32))] [(.int (6 : Int32)), (.int (6 : Int32))]))
  refine own_go (fun _ ww => XS.isub X0.here hx rfl (hb hby d7_3) rfl ww) ?_
  show own_Goes _ _ _ _ _ _ _ (s₁.setTop (mkF m 4 #[.val (.ref t), .val (.int (6 : Int32))] [(.int ((6 : Int32) - (6 : Int32)))]))
  rw [(by decide : ((6 : Int32) - (6 : Int32)) = (0 : Int32))]
  show own_Goes _ _ _ _ _ _ _ (s₁.setTop (mkF m 4 #[.val (.ref t), .val (.int (6 : Int32))] [(.int (0 : Int32))]))
  refine own_go (fun _ ww => XS.bipush X0.here hx rfl (hb hby d7_4) ww) ?_
  show own_Goes _ _ _ _ _ _ _ (s₁.setTop (mkF m 6 #[.val (.ref t), .val (.int (6 : Int32))] [(.int (31 : Int32)), (.int (0 : Int32))]))
  refine own_go (fun _ ww => XT.iushr X0.here hx rfl (hb hby d7_6) rfl ww) ?_
  show own_Goes _ _ _ _ _ _ _ (s₁.setTop (mkF m 7 #[.val (.ref t), .val (.int (6 : Int32))] [(.int (XT.ushr (0 : Int32) (31 : Int32)))]))
  rw [(by decide : (XT.ushr (0 : Int32) (31 : Int32)) = (0 : Int32))]
  show own_Goes _ _ _ _ _ _ _ (s₁.setTop (mkF m 7 #[.val (.ref t), .val (.int (6 : Int32))] [(.int (0 : Int32))]))
  refine own_go (fun _ ww => XT.i2b X0.here hx rfl (hb hby d7_7) rfl ww) ?_
  show own_Goes _ _ _ _ _ _ _ (s₁.setTop (mkF m 8 #[.val (.ref t), .val (.int (6 : Int32))] [(.int ((0 : Int32).toInt8.toInt32))]))
  rw [(by decide : ((0 : Int32).toInt8.toInt32) = (0 : Int32))]
  show own_Goes _ _ _ _ _ _ _ (s₁.setTop (mkF m 8 #[.val (.ref t), .val (.int (6 : Int32))] [(.int (0 : Int32))]))
  exact own_out X0 hlk (v := some (.int (0 : Int32))) (fun h => by rw [hret] at h; cases h) (fun fs hr => retOut X0 hx (t := .byte) hret (by decide) (Or.inl ⟨rfl, by simp, _, rfl⟩) (hb hby d7_8) hr) e0 ⟨rfl, N0, rfl⟩ (by decide) (by decide)
theorem ef_cfaW (m : MethodId) (t : Addr) (kt : ClassId) (vs : List Value) : entryFrame m #[(.ref t), (.int (6 : Int32))] 2 = mkF m 0 #[.val (.ref t), .val (.int (6 : Int32))] [] := by
  first | (simp [entryFrame, mkF, argsToLocals, Value.category]; done) | rfl
def Q_cfaW (Z : State) (t : Addr) (kt : ClassId) (vs : List Value) (h0 : Heap) (n0 : Nat) (v : Option Value) (h : Heap) (L : List Loc) : Prop := v = some (.int (1 : Int32)) ∧ Fr n0 L ∧ h = h0
set_option maxRecDepth 65536 in
set_option maxHeartbeats 40000000 in
theorem rm_cfaW (l : Launch) (Z : State) (a0 : Array Value) (hw : ∀ d ∈ tables_1, d.before a0 Z = true) (ws : List Jvm.Cond) (t : Addr) (kt : ClassId) (vs : List Value) (h0 : Heap) (n0 : Nat) (O0 : Old Z n0 h0) (Kt : Arv Z h0 t kt .byte (12 : Int32) vs (.int (0 : Int32))) :
    MetFree l (⟨"java/lang/StringUTF16", "coderFromArrayLen", "([BI)B"⟩ : MethodName) (head1 (Jvm.Cond.code (⟨"java/lang/StringUTF16", "coderFromArrayLen", "([BI)B"⟩ : MethodName) jdk_52_method_15_code 2 (some .byte) :: ws) ({ frames := 0, cells := 0, slots := 0, locals := 0 } : Room)) (fun av_ U => av_ = #[(.ref t), (.int (6 : Int32))] ∧ Z.Warmed39 U.vm ∧ U.heap = h0) (fun _ _ _ _ _ => True) (fun _ U o_ U' => ∃ v L, o_ = .returned v ∧ Q_cfaW Z t kt vs h0 n0 v U'.heap L ∧ FrameEnd U o_ U' L ({ frames := 0, cells := 0, slots := 0, locals := 0 } : Room).cells ({ frames := 0, cells := 0, slots := 0, locals := 0 } : Room).slots) := by
  refine MetFree.of_bodySF (plainFor_of_name pn_1) hisR ?_
  intro p e s m args below meth c s₁ Bd hml0 hP hK
  obtain ⟨rfl, hZ, hh⟩ := hP
  have hx := Bd.exec
  have hby := Bd.bytes
  have hml : c.maxLocals = 2 := hml0
  have hown : s.vm.findClass "java/lang/StringUTF16" = some m.cls := findClass_of_methodNamed Bd.named
  have hnm := (name_of_methodNamed Bd.named Bd.method).1
  have hlk := own_lk Bd
  have hret := Bd.returns
  have X0 : Stand p l e ({ frames := 0, cells := 0, slots := 0, locals := 0 } : Room) s m #[(.ref t), (.int (6 : Int32))] below meth c s₁ [] 0 0 := Stand.of_body Bd
  have e0 : s₁.heap = h0 := by rw [← hh, Bd.state]; rfl
  have N0 := Fr.nil n0
  show own_Goes p e below s (Q_cfaW Z t kt vs h0 n0) ({ frames := 0, cells := 0, slots := 0, locals := 0 } : Room).cells ({ frames := 0, cells := 0, slots := 0, locals := 0 } : Room).slots (s₁.setTop (entryFrame m #[(.ref t), (.int (6 : Int32))] 2))
  refine own_go (fun _ ww => castTop (ef_cfaW m t kt vs) ww) ?_
  show own_Goes _ _ _ _ _ _ _ (s₁.setTop (mkF m 0 #[.val (.ref t), .val (.int (6 : Int32))] []))
  refine own_go (fun _ ww => XS.iloadN X0.here hx rfl (hb hby d7_0) rfl  ww) ?_
  show own_Goes _ _ _ _ _ _ _ (s₁.setTop (mkF m 1 #[.val (.ref t), .val (.int (6 : Int32))] [(.int (6 : Int32))]))
  refine own_go (fun _ ww => XS.aloadN X0.here hx rfl (hb hby d7_1) rfl rfl ww) ?_
  show own_Goes _ _ _ _ _ _ _ (s₁.setTop (mkF m 2 #[.val (.ref t), .val (.int (6 : Int32))] [(.ref t), (.int (6 : Int32))]))
  obtain ⟨cl198, Ar198, -, S198, Ng198, -, -⟩ := id Kt
  refine own_go (fun _ ww => X0.arraylength hx (by rw [e0]; exact Ar198.1) (State.isArrayOf_alike hZ.alike Ar198.2.1) (g := (mkF m 2 #[.val (.ref t), .val (.int (6 : Int32))] [(.ref t), (.int (6 : Int32))])) rfl rfl (hb hby d7_2) _ ww) ?_
  rw [len_of S198 Ng198]
  show own_Goes _ _ _ _ _ _ _ (s₁.setTop (mkF m 3 #[.val (.ref t), .val (.int (6 : Int32))] [(.int (12 : Int32)), (.int (6 : Int32))]))
  refine own_go (fun _ ww => XS.isub X0.here hx rfl (hb hby d7_3) rfl ww) ?_
  show own_Goes _ _ _ _ _ _ _ (s₁.setTop (mkF m 4 #[.val (.ref t), .val (.int (6 : Int32))] [(.int ((6 : Int32) - (12 : Int32)))]))
  rw [(by decide : ((6 : Int32) - (12 : Int32)) = (-6 : Int32))]
  show own_Goes _ _ _ _ _ _ _ (s₁.setTop (mkF m 4 #[.val (.ref t), .val (.int (6 : Int32))] [(.int (-6 : Int32))]))
  refine own_go (fun _ ww => XS.bipush X0.here hx rfl (hb hby d7_4) ww) ?_
  show own_Goes _ _ _ _ _ _ _ (s₁.setTop (mkF m 6 #[.val (.ref t), .val (.int (6 : Int32))] [(.int (31 : Int32)), (.int (-6 : Int32))]))
  refine own_go (fun _ ww => XT.iushr X0.here hx rfl (hb hby d7_6) rfl ww) ?_
  show own_Goes _ _ _ _ _ _ _ (s₁.setTop (mkF m 7 #[.val (.ref t), .val (.int (6 : Int32))] [(.int (XT.ushr (-6 : Int32) (31 : Int32)))]))
  rw [(by decide : (XT.ushr (-6 : Int32) (31 : Int32)) = (1 : Int32))]
  show own_Goes _ _ _ _ _ _ _ (s₁.setTop (mkF m 7 #[.val (.ref t), .val (.int (6 : Int32))] [(.int (1 : Int32))]))
  refine own_go (fun _ ww => XT.i2b X0.here hx rfl (hb hby d7_7) rfl ww) ?_
  show own_Goes _ _ _ _ _ _ _ (s₁.setTop (mkF m 8 #[.val (.ref t), .val (.int (6 : Int32))] [(.int ((1 : Int32).toInt8.toInt32))]))
  rw [(by decide : ((1 : Int32).toInt8.toInt32) = (1 : Int32))]
  show own_Goes _ _ _ _ _ _ _ (s₁.setTop (mkF m 8 #[.val (.ref t), .val (.int (6 : Int32))] [(.int (1 : Int32))]))
  exact own_out X0 hlk (v := some (.int (1 : Int32))) (fun h => by rw [hret] at h; cases h) (fun fs hr => retOut X0 hx (t := .byte) hret (by decide) (Or.inl ⟨rfl, by simp, _, rfl⟩) (hb hby d7_8) hr) e0 ⟨rfl, N0, rfl⟩ (by decide) (by decide)
theorem d3_0 : decode jdk_42_method_149_code 0 = .ok (.aload_n 0, 1) := by decide +kernel
theorem d3_1 : decode jdk_42_method_149_code 1 = .ok (.invokespecial 1, 3) := by decide +kernel
theorem d3_4 : decode jdk_42_method_149_code 4 = .ok (.iload_n 3, 1) := by decide +kernel
theorem d3_5 : decode jdk_42_method_149_code 5 = .ok (.ifCond .ne 22, 3) := by decide +kernel
theorem d3_27 : decode jdk_42_method_149_code 27 = .ok (.getstatic 38, 3) := by decide +kernel
theorem d3_30 : decode jdk_42_method_149_code 30 = .ok (.ifCond .eq 28, 3) := by decide +kernel
theorem d3_33 : decode jdk_42_method_149_code 33 = .ok (.aload_n 1, 1) := by decide +kernel
theorem d3_34 : decode jdk_42_method_149_code 34 = .ok (.iload_n 2, 1) := by decide +kernel
theorem d3_35 : decode jdk_42_method_149_code 35 = .ok (.iload_n 3, 1) := by decide +kernel
theorem d3_36 : decode jdk_42_method_149_code 36 = .ok (.invokestatic 177, 3) := by decide +kernel
theorem d3_39 : decode jdk_42_method_149_code 39 = .ok (.astore 5, 2) := by decide +kernel
theorem d3_41 : decode jdk_42_method_149_code 41 = .ok (.aload_n 0, 1) := by decide +kernel
theorem d3_42 : decode jdk_42_method_149_code 42 = .ok (.aload 5, 2) := by decide +kernel
theorem d3_44 : decode jdk_42_method_149_code 44 = .ok (.iload_n 3, 1) := by decide +kernel
theorem d3_45 : decode jdk_42_method_149_code 45 = .ok (.invokestatic 47, 3) := by decide +kernel
theorem d3_48 : decode jdk_42_method_149_code 48 = .ok (.putfield 15, 3) := by decide +kernel
theorem d3_51 : decode jdk_42_method_149_code 51 = .ok (.aload_n 0, 1) := by decide +kernel
theorem d3_52 : decode jdk_42_method_149_code 52 = .ok (.aload 5, 2) := by decide +kernel
theorem d3_54 : decode jdk_42_method_149_code 54 = .ok (.putfield 9, 3) := by decide +kernel
theorem d3_57 : decode jdk_42_method_149_code 57 = .ok (.return_, 1) := by decide +kernel
theorem ef_in4L (m : MethodId) (x : Addr) (b : Addr) (kb : ClassId) (c0 : Int32) (c1 : Int32) (c2 : Int32) (c3 : Int32) (c4 : Int32) (c5 : Int32) (zc : Int32) : entryFrame m #[(.ref x), (.ref b), (.int (0 : Int32)), (.int (6 : Int32)), .null] 6 = mkF m 0 #[.val (.ref x), .val (.ref b), .val (.int (0 : Int32)), .val (.int (6 : Int32)), .val .null, .unset] [] := by
  first | (simp [entryFrame, mkF, argsToLocals, Value.category]; done) | rfl
def Q_in4L (Z : State) (x : Addr) (b : Addr) (kb : ClassId) (c0 : Int32) (c1 : Int32) (c2 : Int32) (c3 : Int32) (c4 : Int32) (c5 : Int32) (zc : Int32) (h0 : Heap) (n0 : Nat) (v : Option Value) (h : Heap) (L : List Loc) : Prop := ∃ (t : Addr) (kt : ClassId), v = none ∧ Fr n0 L ∧ h0.size ≤ t ∧ Keep h0 h [x] ∧ Fld Z h x "java/lang/String" "coder" "B" (.int (0 : Int32)) ∧ Fld Z h x "java/lang/String" "value" "[B" (.ref t) ∧ Arv Z h t kt .byte (6 : Int32) (([c0, c1, c2, c3, c4, c5] : List Int32).map fun c => Value.int (StrChars.lo8 c)) (.int (0 : Int32))
set_option maxRecDepth 65536 in
set_option maxHeartbeats 40000000 in
theorem rm_in4L (l : Launch) (Z : State) (a0 : Array Value) (hw : ∀ d ∈ tables_1, d.before a0 Z = true) (ws : List Jvm.Cond) (x : Addr) (b : Addr) (kb : ClassId) (c0 : Int32) (c1 : Int32) (c2 : Int32) (c3 : Int32) (c4 : Int32) (c5 : Int32) (zc : Int32) (h0 : Heap) (n0 : Nat) (O0 : Old Z n0 h0) (Fv : Fld Z h0 x "java/lang/String" "value" "[B" .null) (Fc : Fld Z h0 x "java/lang/String" "coder" "B" (.int (0 : Int32))) (Ex : Exa Z h0 x "java/lang/String") (g_x : n0 ≤ x) (Vb : Arv Z h0 b kb .char (6 : Int32) [(.int c0), (.int c1), (.int c2), (.int c3), (.int c4), (.int c5)] (.int (0 : Int32))) (nbx : b ≠ x) (SC : Sta Z Z.heap "java/lang/String" "COMPACT_STRINGS" "Z" (.int zc)) (hzc : ¬ zc = 0) (le0 : ¬ (255 : Int32) < c0) (le1 : ¬ (255 : Int32) < c1) (le2 : ¬ (255 : Int32) < c2) (le3 : ¬ (255 : Int32) < c3) (le4 : ¬ (255 : Int32) < c4) (le5 : ¬ (255 : Int32) < c5) :
    MetFree l (⟨"java/lang/String", "<init>", "([CIILjava/lang/Void;)V"⟩ : MethodName) (head1 (Jvm.Cond.code (⟨"java/lang/String", "<init>", "([CIILjava/lang/Void;)V"⟩ : MethodName) jdk_42_method_149_code 6 none :: ws) ({ frames := 2, cells := 1, slots := 6, locals := 35 } : Room)) (fun av_ U => av_ = #[(.ref x), (.ref b), (.int (0 : Int32)), (.int (6 : Int32)), .null] ∧ Z.Warmed39 U.vm ∧ U.heap = h0) (fun _ _ _ _ _ => True) (fun _ U o_ U' => ∃ v L, o_ = .returned v ∧ Q_in4L Z x b kb c0 c1 c2 c3 c4 c5 zc h0 n0 v U'.heap L ∧ FrameEnd U o_ U' L ({ frames := 2, cells := 1, slots := 6, locals := 35 } : Room).cells ({ frames := 2, cells := 1, slots := 6, locals := 35 } : Room).slots) := by
  refine MetFree.of_bodySF (plainFor_of_name pn_2) hisR ?_
  intro p e s m args below meth c s₁ Bd hml0 hP hK
  obtain ⟨rfl, hZ, hh⟩ := hP
  have hx := Bd.exec
  have hby := Bd.bytes
  have hml : c.maxLocals = 6 := hml0
  have hown : s.vm.findClass "java/lang/String" = some m.cls := findClass_of_methodNamed Bd.named
  have hnm := (name_of_methodNamed Bd.named Bd.method).1
  have hlk := own_lk Bd
  have hret := Bd.returns
  have X0 : Stand p l e ({ frames := 2, cells := 1, slots := 6, locals := 35 } : Room) s m #[(.ref x), (.ref b), (.int (0 : Int32)), (.int (6 : Int32)), .null] below meth c s₁ [] 0 0 := Stand.of_body Bd
  have e0 : s₁.heap = h0 := by rw [← hh, Bd.state]; rfl
  have N0 := Fr.nil n0
  show own_Goes p e below s (Q_in4L Z x b kb c0 c1 c2 c3 c4 c5 zc h0 n0) ({ frames := 2, cells := 1, slots := 6, locals := 35 } : Room).cells ({ frames := 2, cells := 1, slots := 6, locals := 35 } : Room).slots (s₁.setTop (entryFrame m #[(.ref x), (.ref b), (.int (0 : Int32)), (.int (6 : Int32)), .null] 6))
  refine own_go (fun _ ww => castTop (ef_in4L m x b kb c0 c1 c2 c3 c4 c5 zc) ww) ?_
  show own_Goes _ _ _ _ _ _ _ (s₁.setTop (mkF m 0 #[.val (.ref x), .val (.ref b), .val (.int (0 : Int32)), .val (.int (6 : Int32)), .val .null, .unset] []))
  refine own_go (fun _ ww => XS.aloadN X0.here hx rfl (hb hby d3_0) rfl rfl ww) ?_
  show own_Goes _ _ _ _ _ _ _ (s₁.setTop (mkF m 1 #[.val (.ref x), .val (.ref b), .val (.int (0 : Int32)), .val (.int (6 : Int32)), .val .null, .unset] [(.ref x)]))
  obtain ⟨T199, X199, e199, st199⟩ := initO X0 hx hZ hown (hw _ (List.mem_of_getElem? (i := 18) rfl)) (hw _ (List.mem_of_getElem? (i := 19) rfl)) (hw _ (List.mem_of_getElem? (i := 20) rfl)) e0 (g := (mkF m 1 #[.val (.ref x), .val (.ref b), .val (.int (0 : Int32)), .val (.int (6 : Int32)), .val .null, .unset] [(.ref x)])) rfl (by rw [hml]; rfl) rfl (hb hby d3_1) (by decide) (W := 0) (by show 2 * 0 + _ ≤ _; exact Nat.le_of_eq rfl) (by decide)
  refine own_go st199 ?_
  show own_Goes _ _ _ _ _ _ _ (T199.setTop (mkF m 4 #[.val (.ref x), .val (.ref b), .val (.int (0 : Int32)), .val (.int (6 : Int32)), .val .null, .unset] []))
  refine own_go (fun _ ww => XS.iloadN X199.here hx rfl (hb hby d3_4) rfl  ww) ?_
  show own_Goes _ _ _ _ _ _ _ (T199.setTop (mkF m 5 #[.val (.ref x), .val (.ref b), .val (.int (0 : Int32)), .val (.int (6 : Int32)), .val .null, .unset] [(.int (6 : Int32))]))
  refine own_go (fun _ ww => XS.ifYes X199.here hx rfl (pc0 := 5) (pc' := 27) rfl (hb hby d3_5) rfl (own_if .ne (feq (by decide : ¬ ((6 : Int32) = (0 : Int32)))).2) (by decide) (by decide) ww) ?_
  show own_Goes _ _ _ _ _ _ _ (T199.setTop (mkF m 27 #[.val (.ref x), .val (.ref b), .val (.int (0 : Int32)), .val (.int (6 : Int32)), .val .null, .unset] []))
  obtain ⟨T200, X200, e200, st200⟩ := getS X199 hx hZ hown (host := "") (hw _ (List.mem_of_getElem? (i := 21) rfl)) Via.refl e199 (SC.ext O0.2) (g := (mkF m 27 #[.val (.ref x), .val (.ref b), .val (.int (0 : Int32)), .val (.int (6 : Int32)), .val .null, .unset] [])) rfl (hb hby d3_27)
  refine own_go st200 ?_
  show own_Goes _ _ _ _ _ _ _ (T200.setTop (mkF m 30 #[.val (.ref x), .val (.ref b), .val (.int (0 : Int32)), .val (.int (6 : Int32)), .val .null, .unset] [(.int zc)]))
  refine own_go (fun _ ww => XS.ifNo X200.here hx rfl (hb hby d3_30) rfl (own_if .eq (feq hzc).1) ww) ?_
  show own_Goes _ _ _ _ _ _ _ (T200.setTop (mkF m 33 #[.val (.ref x), .val (.ref b), .val (.int (0 : Int32)), .val (.int (6 : Int32)), .val .null, .unset] []))
  refine own_go (fun _ ww => XS.aloadN X200.here hx rfl (hb hby d3_33) rfl rfl ww) ?_
  show own_Goes _ _ _ _ _ _ _ (T200.setTop (mkF m 34 #[.val (.ref x), .val (.ref b), .val (.int (0 : Int32)), .val (.int (6 : Int32)), .val .null, .unset] [(.ref b)]))
  refine own_go (fun _ ww => XS.iloadN X200.here hx rfl (hb hby d3_34) rfl  ww) ?_
  show own_Goes _ _ _ _ _ _ _ (T200.setTop (mkF m 35 #[.val (.ref x), .val (.ref b), .val (.int (0 : Int32)), .val (.int (6 : Int32)), .val .null, .unset] [(.int (0 : Int32)), (.ref b)]))
  refine own_go (fun _ ww => XS.iloadN X200.here hx rfl (hb hby d3_35) rfl  ww) ?_
  show own_Goes _ _ _ _ _ _ _ (T200.setTop (mkF m 36 #[.val (.ref x), .val (.ref b), .val (.int (0 : Int32)), .val (.int (6 : Int32)), .val .null, .unset] [(.int (6 : Int32)), (.int (0 : Int32)), (.ref b)]))
  obtain ⟨_, _, ⟨T201, L201, k201, n201⟩, -, X201, ⟨Lc201, hQ201, l201, y201, z201⟩, st201⟩ := Jvm.LawKit.callS X200 hx (y := (⟨"java/lang/StringUTF16", "compress", "([CII)[B"⟩ : MethodName)) hown (mvT hZ (hw _ (List.mem_of_getElem? (i := 22) rfl))) (mvT hZ (hw _ (List.mem_of_getElem? (i := 23) rfl))) (mvT hZ (hw _ (List.mem_of_getElem? (i := 24) rfl))) (mvT hZ (hw _ (List.mem_of_getElem? (i := 25) rfl))) (by decide) (backOf (W := 0) (rm_cm3L l Z a0 hw [] b kb c0 c1 c2 c3 c4 c5 h0 n0 O0 Vb le0 le1 le2 le3 le4 le5) hZ (hw _ (List.mem_of_getElem? (i := 25) rfl)) (hw _ (List.mem_of_getElem? (i := 24) rfl)) (by decide) (by decide)) (g := (mkF m 36 #[.val (.ref x), .val (.ref b), .val (.int (0 : Int32)), .val (.int (6 : Int32)), .val .null, .unset] [(.int (6 : Int32)), (.int (0 : Int32)), (.ref b)])) rfl (by rw [hml]; rfl) (argsL := [(.ref b), (.int (0 : Int32)), (.int (6 : Int32))]) (rest := []) (lenOf pd_4 rfl) rfl (by show 2 * 0 + _ ≤ _; exact Nat.le_of_eq rfl) (hb hby d3_36) (fun _ _ => ⟨rfl, e200, (by decide : 0 + 1 ≤ _), (by decide : 0 + 6 ≤ _)⟩)
  dsimp only [Pt.U, Pt.locs, Pt.cells, Pt.slots] at X201 l201 y201 z201 st201 hQ201
  subst l201 y201 z201
  obtain ⟨t201, kt201, rfl, N201q, B201, K201q, V201q⟩ := hQ201
  have N201 := Fr.app N0 N201q
  have ne_x_t201 : x ≠ t201 := Nat.ne_of_lt (Nat.lt_of_lt_of_le Fv.lt B201)
  have ne_b_t201 : b ≠ t201 := Nat.ne_of_lt (Nat.lt_of_lt_of_le Vb.lt B201)
  have g_t201 : n0 ≤ t201 := Nat.le_trans (O0.1 ▸ O0.2.1) B201
  have sz_t201 : h0.size ≤ t201 := Nat.le_trans (own_ks (Keep.refl h0 [x])) B201
  have f202 : Fld Z T201.heap x "java/lang/String" "value" "[B" .null := (Fv.keep K201q nin0)
  have f203 : Fld Z T201.heap x "java/lang/String" "coder" "B" (.int (0 : Int32)) := (Fc.keep K201q nin0)
  have f204 : Exa Z T201.heap x "java/lang/String" := (Ex.keep K201q)
  have f205 : Arv Z T201.heap b kb .char (6 : Int32) [(.int c0), (.int c1), (.int c2), (.int c3), (.int c4), (.int c5)] (.int (0 : Int32)) := (Vb.keep K201q nin0)
  have O201 := O0.keep K201q all0
  have K201 := (Keep.refl h0 [x]).trans K201q all0
  refine own_go st201 ?_
  show own_Goes _ _ _ _ _ _ _ (T201.setTop (mkF m 39 #[.val (.ref x), .val (.ref b), .val (.int (0 : Int32)), .val (.int (6 : Int32)), .val .null, .unset] [(.ref t201)]))
  refine own_go (fun _ ww => XS.astore X201.here hx rfl (hb hby d3_39) rfl rfl (l' := #[.val (.ref x), .val (.ref b), .val (.int (0 : Int32)), .val (.int (6 : Int32)), .val .null, .val (.ref t201)]) rfl ww) ?_
  show own_Goes _ _ _ _ _ _ _ (T201.setTop (mkF m 41 #[.val (.ref x), .val (.ref b), .val (.int (0 : Int32)), .val (.int (6 : Int32)), .val .null, .val (.ref t201)] []))
  refine own_go (fun _ ww => XS.aloadN X201.here hx rfl (hb hby d3_41) rfl rfl ww) ?_
  show own_Goes _ _ _ _ _ _ _ (T201.setTop (mkF m 42 #[.val (.ref x), .val (.ref b), .val (.int (0 : Int32)), .val (.int (6 : Int32)), .val .null, .val (.ref t201)] [(.ref x)]))
  refine own_go (fun _ ww => XS.aload X201.here hx rfl (hb hby d3_42) rfl rfl ww) ?_
  show own_Goes _ _ _ _ _ _ _ (T201.setTop (mkF m 44 #[.val (.ref x), .val (.ref b), .val (.int (0 : Int32)), .val (.int (6 : Int32)), .val .null, .val (.ref t201)] [(.ref t201), (.ref x)]))
  refine own_go (fun _ ww => XS.iloadN X201.here hx rfl (hb hby d3_44) rfl  ww) ?_
  show own_Goes _ _ _ _ _ _ _ (T201.setTop (mkF m 45 #[.val (.ref x), .val (.ref b), .val (.int (0 : Int32)), .val (.int (6 : Int32)), .val .null, .val (.ref t201)] [(.int (6 : Int32)), (.ref t201), (.ref x)]))
  obtain ⟨_, _, ⟨T206, L206, k206, n206⟩, -, X206, ⟨Lc206, hQ206, l206, y206, z206⟩, st206⟩ := Jvm.LawKit.callS X201 hx (y := (⟨"java/lang/StringUTF16", "coderFromArrayLen", "([BI)B"⟩ : MethodName)) hown (mvT hZ (hw _ (List.mem_of_getElem? (i := 30) rfl))) (mvT hZ (hw _ (List.mem_of_getElem? (i := 31) rfl))) (mvT hZ (hw _ (List.mem_of_getElem? (i := 24) rfl))) (mvT hZ (hw _ (List.mem_of_getElem? (i := 32) rfl))) (by decide) (backOf (W := 1) (rm_cfaL l Z a0 hw [] t201 kt201 (([c0, c1, c2, c3, c4, c5] : List Int32).map fun c => Value.int (StrChars.lo8 c)) T201.heap n0 O201 V201q) hZ (hw _ (List.mem_of_getElem? (i := 32) rfl)) (hw _ (List.mem_of_getElem? (i := 24) rfl)) (by decide) (by decide)) (g := (mkF m 45 #[.val (.ref x), .val (.ref b), .val (.int (0 : Int32)), .val (.int (6 : Int32)), .val .null, .val (.ref t201)] [(.int (6 : Int32)), (.ref t201), (.ref x)])) rfl (by rw [hml]; rfl) (argsL := [(.ref t201), (.int (6 : Int32))]) (rest := [(.ref x)]) (lenOf pd_6 rfl) rfl (by show 2 * 0 + _ ≤ _; exact Nat.le_of_eq rfl) (hb hby d3_45) (fun _ _ => ⟨rfl, rfl, (by decide : 1 + 0 ≤ _), (by decide : 6 + 0 ≤ _)⟩)
  dsimp only [Pt.U, Pt.locs, Pt.cells, Pt.slots] at X206 l206 y206 z206 st206 hQ206
  subst l206 y206 z206
  obtain ⟨rfl, N206q, e206⟩ := hQ206
  have N206 := Fr.app N201 N206q
  refine own_go st206 ?_
  show own_Goes _ _ _ _ _ _ _ (T206.setTop (mkF m 48 #[.val (.ref x), .val (.ref b), .val (.int (0 : Int32)), .val (.int (6 : Int32)), .val .null, .val (.ref t201)] [(.int (0 : Int32)), (.ref x)]))
  obtain ⟨T207, h207, X207, e207, W207, st207⟩ := putFN X206 hx hZ hown (hw _ (List.mem_of_getElem? (i := 33) rfl)) Via.refl e206 f203 f204 (Or.inr ⟨(hw _ (List.mem_of_getElem? (i := 34) rfl)), rfl, hnm⟩) (hw _ (List.mem_of_getElem? (i := 9) rfl)) (ty := .byte) (v' := (.int (0 : Int32))) (by decide) (by decide) rfl (g := (mkF m 48 #[.val (.ref x), .val (.ref b), .val (.int (0 : Int32)), .val (.int (6 : Int32)), .val .null, .val (.ref t201)] [(.int (0 : Int32)), (.ref x)])) rfl rfl (hb hby d3_48)
  have f208 : Fld Z h207 x "java/lang/String" "value" "[B" .null := (f202.other W207 (Or.inr (slot_ne (Or.inr (hw _ (List.mem_of_getElem? (i := 36) rfl))) (Or.inr (hw _ (List.mem_of_getElem? (i := 34) rfl))) (by decide) (t := (.array .byte)) (t' := .byte) (by decide) (by decide))))
  have f209 : Fld Z h207 x "java/lang/String" "coder" "B" (.int (0 : Int32)) := (f203.same W207)
  have f210 : Exa Z h207 x "java/lang/String" := (f204.wr W207)
  have f211 : Arv Z h207 b kb .char (6 : Int32) [(.int c0), (.int c1), (.int c2), (.int c3), (.int c4), (.int c5)] (.int (0 : Int32)) := (f205.other W207 nbx)
  have f212 : Arv Z h207 t201 kt201 .byte (6 : Int32) (([c0, c1, c2, c3, c4, c5] : List Int32).map fun c => Value.int (StrChars.lo8 c)) (.int (0 : Int32)) := (V201q.other W207 (Ne.symm ne_x_t201))
  have N207 := Fr.snoc X207 N206 g_x
  have O207 := O201.wr W207 g_x
  have K207 := K201.wr W207 (Or.inl (List.mem_of_getElem? (i := 0) rfl))
  refine own_go st207 ?_
  show own_Goes _ _ _ _ _ _ _ (T207.setTop (mkF m 51 #[.val (.ref x), .val (.ref b), .val (.int (0 : Int32)), .val (.int (6 : Int32)), .val .null, .val (.ref t201)] []))
  refine own_go (fun _ ww => XS.aloadN X207.here hx rfl (hb hby d3_51) rfl rfl ww) ?_
  show own_Goes _ _ _ _ _ _ _ (T207.setTop (mkF m 52 #[.val (.ref x), .val (.ref b), .val (.int (0 : Int32)), .val (.int (6 : Int32)), .val .null, .val (.ref t201)] [(.ref x)]))
  refine own_go (fun _ ww => XS.aload X207.here hx rfl (hb hby d3_52) rfl rfl ww) ?_
  show own_Goes _ _ _ _ _ _ _ (T207.setTop (mkF m 54 #[.val (.ref x), .val (.ref b), .val (.int (0 : Int32)), .val (.int (6 : Int32)), .val .null, .val (.ref t201)] [(.ref t201), (.ref x)]))
  obtain ⟨T213, h213, X213, e213, W213, st213⟩ := putF X207 hx hZ hown (host := "") (Or.inl (hw _ (List.mem_of_getElem? (i := 35) rfl))) Via.refl e207 f208 f210 (Or.inr ⟨(hw _ (List.mem_of_getElem? (i := 36) rfl)), rfl, hnm⟩) (hw _ (List.mem_of_getElem? (i := 9) rfl)) (ty := (.array .byte)) (by decide) rfl rfl (g := (mkF m 54 #[.val (.ref x), .val (.ref b), .val (.int (0 : Int32)), .val (.int (6 : Int32)), .val .null, .val (.ref t201)] [(.ref t201), (.ref x)])) rfl rfl (hb hby d3_54)
  have f214 : Fld Z h213 x "java/lang/String" "value" "[B" (.ref t201) := (f208.same W213)
  have f215 : Fld Z h213 x "java/lang/String" "coder" "B" (.int (0 : Int32)) := (f209.other W213 (Or.inr (slot_ne (Or.inr (hw _ (List.mem_of_getElem? (i := 34) rfl))) (Or.inr (hw _ (List.mem_of_getElem? (i := 36) rfl))) (by decide) (t := .byte) (t' := (.array .byte)) (by decide) (by decide))))
  have f216 : Exa Z h213 x "java/lang/String" := (f210.wr W213)
  have f217 : Arv Z h213 b kb .char (6 : Int32) [(.int c0), (.int c1), (.int c2), (.int c3), (.int c4), (.int c5)] (.int (0 : Int32)) := (f211.other W213 nbx)
  have f218 : Arv Z h213 t201 kt201 .byte (6 : Int32) (([c0, c1, c2, c3, c4, c5] : List Int32).map fun c => Value.int (StrChars.lo8 c)) (.int (0 : Int32)) := (f212.other W213 (Ne.symm ne_x_t201))
  have N213 := Fr.snoc X213 N207 g_x
  have O213 := O207.wr W213 g_x
  have K213 := K207.wr W213 (Or.inl (List.mem_of_getElem? (i := 0) rfl))
  refine own_go st213 ?_
  show own_Goes _ _ _ _ _ _ _ (T213.setTop (mkF m 57 #[.val (.ref x), .val (.ref b), .val (.int (0 : Int32)), .val (.int (6 : Int32)), .val .null, .val (.ref t201)] []))
  exact own_out X213 hlk (v := none) (fun _ => rfl) (fun fs hr => X213.returnOut hx hret (hb hby d3_57) hr) e213 ⟨t201, kt201, rfl, N213, sz_t201, K213, f215, f214, f218⟩ (by decide) (by decide)
theorem ef_in4W (m : MethodId) (x : Addr) (b : Addr) (kb : ClassId) (c0 : Int32) (c1 : Int32) (c2 : Int32) (c3 : Int32) (c4 : Int32) (c5 : Int32) (zc : Int32) : entryFrame m #[(.ref x), (.ref b), (.int (0 : Int32)), (.int (6 : Int32)), .null] 6 = mkF m 0 #[.val (.ref x), .val (.ref b), .val (.int (0 : Int32)), .val (.int (6 : Int32)), .val .null, .unset] [] := by
  first | (simp [entryFrame, mkF, argsToLocals, Value.category]; done) | rfl
def Q_in4W (Z : State) (x : Addr) (b : Addr) (kb : ClassId) (c0 : Int32) (c1 : Int32) (c2 : Int32) (c3 : Int32) (c4 : Int32) (c5 : Int32) (zc : Int32) (h0 : Heap) (n0 : Nat) (v : Option Value) (h : Heap) (L : List Loc) : Prop := ∃ (t : Addr) (kt : ClassId), v = none ∧ Fr n0 L ∧ h0.size ≤ t ∧ Keep h0 h [x] ∧ Fld Z h x "java/lang/String" "coder" "B" (.int (1 : Int32)) ∧ Fld Z h x "java/lang/String" "value" "[B" (.ref t) ∧ Arv Z h t kt .byte (12 : Int32) (StrChars.Road.wideBytes ([c0, c1, c2, c3, c4, c5] : List Int32)) (.int (0 : Int32))
set_option maxRecDepth 65536 in
set_option maxHeartbeats 40000000 in
theorem rm_in4W (l : Launch) (Z : State) (a0 : Array Value) (hw : ∀ d ∈ tables_1, d.before a0 Z = true) (ws : List Jvm.Cond) (x : Addr) (b : Addr) (kb : ClassId) (c0 : Int32) (c1 : Int32) (c2 : Int32) (c3 : Int32) (c4 : Int32) (c5 : Int32) (zc : Int32) (h0 : Heap) (n0 : Nat) (O0 : Old Z n0 h0) (Fv : Fld Z h0 x "java/lang/String" "value" "[B" .null) (Fc : Fld Z h0 x "java/lang/String" "coder" "B" (.int (0 : Int32))) (Ex : Exa Z h0 x "java/lang/String") (g_x : n0 ≤ x) (Vb : Arv Z h0 b kb .char (6 : Int32) [(.int c0), (.int c1), (.int c2), (.int c3), (.int c4), (.int c5)] (.int (0 : Int32))) (nbx : b ≠ x) (SC : Sta Z Z.heap "java/lang/String" "COMPACT_STRINGS" "Z" (.int zc)) (hzc : ¬ zc = 0) (hwide : ¬ ∀ c ∈ ([c0, c1, c2, c3, c4, c5] : List Int32), ¬ (255 : Int32) < c) (hbd : ∀ c ∈ ([c0, c1, c2, c3, c4, c5] : List Int32), ¬ c < 0 ∧ ¬ (65535 : Int32) < c) (SA : Sta Z Z.heap "java/lang/StringUTF16" "$assertionsDisabled" "Z" (.int (1 : Int32))) (SH : Sta Z Z.heap "java/lang/StringUTF16" "HI_BYTE_SHIFT" "I" (.int (0 : Int32))) (SLo : Sta Z Z.heap "java/lang/StringUTF16" "LO_BYTE_SHIFT" "I" (.int (8 : Int32))) :
    MetFree l (⟨"java/lang/String", "<init>", "([CIILjava/lang/Void;)V"⟩ : MethodName) (head1 (Jvm.Cond.code (⟨"java/lang/String", "<init>", "([CIILjava/lang/Void;)V"⟩ : MethodName) jdk_42_method_149_code 6 none :: ws) ({ frames := 4, cells := 2, slots := 18, locals := 57 } : Room)) (fun av_ U => av_ = #[(.ref x), (.ref b), (.int (0 : Int32)), (.int (6 : Int32)), .null] ∧ Z.Warmed39 U.vm ∧ U.heap = h0) (fun _ _ _ _ _ => True) (fun _ U o_ U' => ∃ v L, o_ = .returned v ∧ Q_in4W Z x b kb c0 c1 c2 c3 c4 c5 zc h0 n0 v U'.heap L ∧ FrameEnd U o_ U' L ({ frames := 4, cells := 2, slots := 18, locals := 57 } : Room).cells ({ frames := 4, cells := 2, slots := 18, locals := 57 } : Room).slots) := by
  refine MetFree.of_bodySF (plainFor_of_name pn_2) hisR ?_
  intro p e s m args below meth c s₁ Bd hml0 hP hK
  obtain ⟨rfl, hZ, hh⟩ := hP
  have hx := Bd.exec
  have hby := Bd.bytes
  have hml : c.maxLocals = 6 := hml0
  have hown : s.vm.findClass "java/lang/String" = some m.cls := findClass_of_methodNamed Bd.named
  have hnm := (name_of_methodNamed Bd.named Bd.method).1
  have hlk := own_lk Bd
  have hret := Bd.returns
  have X0 : Stand p l e ({ frames := 4, cells := 2, slots := 18, locals := 57 } : Room) s m #[(.ref x), (.ref b), (.int (0 : Int32)), (.int (6 : Int32)), .null] below meth c s₁ [] 0 0 := Stand.of_body Bd
  have e0 : s₁.heap = h0 := by rw [← hh, Bd.state]; rfl
  have N0 := Fr.nil n0
  show own_Goes p e below s (Q_in4W Z x b kb c0 c1 c2 c3 c4 c5 zc h0 n0) ({ frames := 4, cells := 2, slots := 18, locals := 57 } : Room).cells ({ frames := 4, cells := 2, slots := 18, locals := 57 } : Room).slots (s₁.setTop (entryFrame m #[(.ref x), (.ref b), (.int (0 : Int32)), (.int (6 : Int32)), .null] 6))
  refine own_go (fun _ ww => castTop (ef_in4W m x b kb c0 c1 c2 c3 c4 c5 zc) ww) ?_
  show own_Goes _ _ _ _ _ _ _ (s₁.setTop (mkF m 0 #[.val (.ref x), .val (.ref b), .val (.int (0 : Int32)), .val (.int (6 : Int32)), .val .null, .unset] []))
  refine own_go (fun _ ww => XS.aloadN X0.here hx rfl (hb hby d3_0) rfl rfl ww) ?_
  show own_Goes _ _ _ _ _ _ _ (s₁.setTop (mkF m 1 #[.val (.ref x), .val (.ref b), .val (.int (0 : Int32)), .val (.int (6 : Int32)), .val .null, .unset] [(.ref x)]))
  obtain ⟨T219, X219, e219, st219⟩ := initO X0 hx hZ hown (hw _ (List.mem_of_getElem? (i := 18) rfl)) (hw _ (List.mem_of_getElem? (i := 19) rfl)) (hw _ (List.mem_of_getElem? (i := 20) rfl)) e0 (g := (mkF m 1 #[.val (.ref x), .val (.ref b), .val (.int (0 : Int32)), .val (.int (6 : Int32)), .val .null, .unset] [(.ref x)])) rfl (by rw [hml]; rfl) rfl (hb hby d3_1) (by decide) (W := 0) (by show 2 * 0 + _ ≤ _; exact Nat.le_of_eq rfl) (by decide)
  refine own_go st219 ?_
  show own_Goes _ _ _ _ _ _ _ (T219.setTop (mkF m 4 #[.val (.ref x), .val (.ref b), .val (.int (0 : Int32)), .val (.int (6 : Int32)), .val .null, .unset] []))
  refine own_go (fun _ ww => XS.iloadN X219.here hx rfl (hb hby d3_4) rfl  ww) ?_
  show own_Goes _ _ _ _ _ _ _ (T219.setTop (mkF m 5 #[.val (.ref x), .val (.ref b), .val (.int (0 : Int32)), .val (.int (6 : Int32)), .val .null, .unset] [(.int (6 : Int32))]))
  refine own_go (fun _ ww => XS.ifYes X219.here hx rfl (pc0 := 5) (pc' := 27) rfl (hb hby d3_5) rfl (own_if .ne (feq (by decide : ¬ ((6 : Int32) = (0 : Int32)))).2) (by decide) (by decide) ww) ?_
  show own_Goes _ _ _ _ _ _ _ (T219.setTop (mkF m 27 #[.val (.ref x), .val (.ref b), .val (.int (0 : Int32)), .val (.int (6 : Int32)), .val .null, .unset] []))
  obtain ⟨T220, X220, e220, st220⟩ := getS X219 hx hZ hown (host := "") (hw _ (List.mem_of_getElem? (i := 21) rfl)) Via.refl e219 (SC.ext O0.2) (g := (mkF m 27 #[.val (.ref x), .val (.ref b), .val (.int (0 : Int32)), .val (.int (6 : Int32)), .val .null, .unset] [])) rfl (hb hby d3_27)
  refine own_go st220 ?_
  show own_Goes _ _ _ _ _ _ _ (T220.setTop (mkF m 30 #[.val (.ref x), .val (.ref b), .val (.int (0 : Int32)), .val (.int (6 : Int32)), .val .null, .unset] [(.int zc)]))
  refine own_go (fun _ ww => XS.ifNo X220.here hx rfl (hb hby d3_30) rfl (own_if .eq (feq hzc).1) ww) ?_
  show own_Goes _ _ _ _ _ _ _ (T220.setTop (mkF m 33 #[.val (.ref x), .val (.ref b), .val (.int (0 : Int32)), .val (.int (6 : Int32)), .val .null, .unset] []))
  refine own_go (fun _ ww => XS.aloadN X220.here hx rfl (hb hby d3_33) rfl rfl ww) ?_
  show own_Goes _ _ _ _ _ _ _ (T220.setTop (mkF m 34 #[.val (.ref x), .val (.ref b), .val (.int (0 : Int32)), .val (.int (6 : Int32)), .val .null, .unset] [(.ref b)]))
  refine own_go (fun _ ww => XS.iloadN X220.here hx rfl (hb hby d3_34) rfl  ww) ?_
  show own_Goes _ _ _ _ _ _ _ (T220.setTop (mkF m 35 #[.val (.ref x), .val (.ref b), .val (.int (0 : Int32)), .val (.int (6 : Int32)), .val .null, .unset] [(.int (0 : Int32)), (.ref b)]))
  refine own_go (fun _ ww => XS.iloadN X220.here hx rfl (hb hby d3_35) rfl  ww) ?_
  show own_Goes _ _ _ _ _ _ _ (T220.setTop (mkF m 36 #[.val (.ref x), .val (.ref b), .val (.int (0 : Int32)), .val (.int (6 : Int32)), .val .null, .unset] [(.int (6 : Int32)), (.int (0 : Int32)), (.ref b)]))
  obtain ⟨_, _, ⟨T221, L221, k221, n221⟩, -, X221, ⟨Lc221, hQ221, l221, y221, z221⟩, st221⟩ := Jvm.LawKit.callS X220 hx (y := (⟨"java/lang/StringUTF16", "compress", "([CII)[B"⟩ : MethodName)) hown (mvT hZ (hw _ (List.mem_of_getElem? (i := 22) rfl))) (mvT hZ (hw _ (List.mem_of_getElem? (i := 23) rfl))) (mvT hZ (hw _ (List.mem_of_getElem? (i := 24) rfl))) (mvT hZ (hw _ (List.mem_of_getElem? (i := 25) rfl))) (by decide) (backOf (W := 0) (rm_cm3W l Z a0 hw [] b kb c0 c1 c2 c3 c4 c5 h0 n0 O0 Vb hwide hbd SA SH SLo) hZ (hw _ (List.mem_of_getElem? (i := 25) rfl)) (hw _ (List.mem_of_getElem? (i := 24) rfl)) (by decide) (by decide)) (g := (mkF m 36 #[.val (.ref x), .val (.ref b), .val (.int (0 : Int32)), .val (.int (6 : Int32)), .val .null, .unset] [(.int (6 : Int32)), (.int (0 : Int32)), (.ref b)])) rfl (by rw [hml]; rfl) (argsL := [(.ref b), (.int (0 : Int32)), (.int (6 : Int32))]) (rest := []) (lenOf pd_4 rfl) rfl (by show 2 * 0 + _ ≤ _; exact Nat.le_of_eq rfl) (hb hby d3_36) (fun _ _ => ⟨rfl, e220, (by decide : 0 + 2 ≤ _), (by decide : 0 + 18 ≤ _)⟩)
  dsimp only [Pt.U, Pt.locs, Pt.cells, Pt.slots] at X221 l221 y221 z221 st221 hQ221
  subst l221 y221 z221
  obtain ⟨t221, kt221, rfl, N221q, B221, K221q, V221q⟩ := hQ221
  have N221 := Fr.app N0 N221q
  have ne_x_t221 : x ≠ t221 := Nat.ne_of_lt (Nat.lt_of_lt_of_le Fv.lt B221)
  have ne_b_t221 : b ≠ t221 := Nat.ne_of_lt (Nat.lt_of_lt_of_le Vb.lt B221)
  have g_t221 : n0 ≤ t221 := Nat.le_trans (O0.1 ▸ O0.2.1) B221
  have sz_t221 : h0.size ≤ t221 := Nat.le_trans (own_ks (Keep.refl h0 [x])) B221
  have f222 : Fld Z T221.heap x "java/lang/String" "value" "[B" .null := (Fv.keep K221q nin0)
  have f223 : Fld Z T221.heap x "java/lang/String" "coder" "B" (.int (0 : Int32)) := (Fc.keep K221q nin0)
  have f224 : Exa Z T221.heap x "java/lang/String" := (Ex.keep K221q)
  have f225 : Arv Z T221.heap b kb .char (6 : Int32) [(.int c0), (.int c1), (.int c2), (.int c3), (.int c4), (.int c5)] (.int (0 : Int32)) := (Vb.keep K221q nin0)
  have O221 := O0.keep K221q all0
  have K221 := (Keep.refl h0 [x]).trans K221q all0
  refine own_go st221 ?_
  show own_Goes _ _ _ _ _ _ _ (T221.setTop (mkF m 39 #[.val (.ref x), .val (.ref b), .val (.int (0 : Int32)), .val (.int (6 : Int32)), .val .null, .unset] [(.ref t221)]))
  refine own_go (fun _ ww => XS.astore X221.here hx rfl (hb hby d3_39) rfl rfl (l' := #[.val (.ref x), .val (.ref b), .val (.int (0 : Int32)), .val (.int (6 : Int32)), .val .null, .val (.ref t221)]) rfl ww) ?_
  show own_Goes _ _ _ _ _ _ _ (T221.setTop (mkF m 41 #[.val (.ref x), .val (.ref b), .val (.int (0 : Int32)), .val (.int (6 : Int32)), .val .null, .val (.ref t221)] []))
  refine own_go (fun _ ww => XS.aloadN X221.here hx rfl (hb hby d3_41) rfl rfl ww) ?_
  show own_Goes _ _ _ _ _ _ _ (T221.setTop (mkF m 42 #[.val (.ref x), .val (.ref b), .val (.int (0 : Int32)), .val (.int (6 : Int32)), .val .null, .val (.ref t221)] [(.ref x)]))
  refine own_go (fun _ ww => XS.aload X221.here hx rfl (hb hby d3_42) rfl rfl ww) ?_
  show own_Goes _ _ _ _ _ _ _ (T221.setTop (mkF m 44 #[.val (.ref x), .val (.ref b), .val (.int (0 : Int32)), .val (.int (6 : Int32)), .val .null, .val (.ref t221)] [(.ref t221), (.ref x)]))
  refine own_go (fun _ ww => XS.iloadN X221.here hx rfl (hb hby d3_44) rfl  ww) ?_
  show own_Goes _ _ _ _ _ _ _ (T221.setTop (mkF m 45 #[.val (.ref x), .val (.ref b), .val (.int (0 : Int32)), .val (.int (6 : Int32)), .val .null, .val (.ref t221)] [(.int (6 : Int32)), (.ref t221), (.ref x)]))
  obtain ⟨_, _, ⟨T226, L226, k226, n226⟩, -, X226, ⟨Lc226, hQ226, l226, y226, z226⟩, st226⟩ := Jvm.LawKit.callS X221 hx (y := (⟨"java/lang/StringUTF16", "coderFromArrayLen", "([BI)B"⟩ : MethodName)) hown (mvT hZ (hw _ (List.mem_of_getElem? (i := 30) rfl))) (mvT hZ (hw _ (List.mem_of_getElem? (i := 31) rfl))) (mvT hZ (hw _ (List.mem_of_getElem? (i := 24) rfl))) (mvT hZ (hw _ (List.mem_of_getElem? (i := 32) rfl))) (by decide) (backOf (W := 1) (rm_cfaW l Z a0 hw [] t221 kt221 (StrChars.Road.wideBytes ([c0, c1, c2, c3, c4, c5] : List Int32)) T221.heap n0 O221 V221q) hZ (hw _ (List.mem_of_getElem? (i := 32) rfl)) (hw _ (List.mem_of_getElem? (i := 24) rfl)) (by decide) (by decide)) (g := (mkF m 45 #[.val (.ref x), .val (.ref b), .val (.int (0 : Int32)), .val (.int (6 : Int32)), .val .null, .val (.ref t221)] [(.int (6 : Int32)), (.ref t221), (.ref x)])) rfl (by rw [hml]; rfl) (argsL := [(.ref t221), (.int (6 : Int32))]) (rest := [(.ref x)]) (lenOf pd_6 rfl) rfl (by show 2 * 0 + _ ≤ _; exact Nat.le_of_eq rfl) (hb hby d3_45) (fun _ _ => ⟨rfl, rfl, (by decide : 2 + 0 ≤ _), (by decide : 18 + 0 ≤ _)⟩)
  dsimp only [Pt.U, Pt.locs, Pt.cells, Pt.slots] at X226 l226 y226 z226 st226 hQ226
  subst l226 y226 z226
  obtain ⟨rfl, N226q, e226⟩ := hQ226
  have N226 := Fr.app N221 N226q
  refine own_go st226 ?_
  show own_Goes _ _ _ _ _ _ _ (T226.setTop (mkF m 48 #[.val (.ref x), .val (.ref b), .val (.int (0 : Int32)), .val (.int (6 : Int32)), .val .null, .val (.ref t221)] [(.int (1 : Int32)), (.ref x)]))
  obtain ⟨T227, h227, X227, e227, W227, st227⟩ := putFN X226 hx hZ hown (hw _ (List.mem_of_getElem? (i := 33) rfl)) Via.refl e226 f223 f224 (Or.inr ⟨(hw _ (List.mem_of_getElem? (i := 34) rfl)), rfl, hnm⟩) (hw _ (List.mem_of_getElem? (i := 9) rfl)) (ty := .byte) (v' := (.int (1 : Int32))) (by decide) (by decide) rfl (g := (mkF m 48 #[.val (.ref x), .val (.ref b), .val (.int (0 : Int32)), .val (.int (6 : Int32)), .val .null, .val (.ref t221)] [(.int (1 : Int32)), (.ref x)])) rfl rfl (hb hby d3_48)
  have f228 : Fld Z h227 x "java/lang/String" "value" "[B" .null := (f222.other W227 (Or.inr (slot_ne (Or.inr (hw _ (List.mem_of_getElem? (i := 36) rfl))) (Or.inr (hw _ (List.mem_of_getElem? (i := 34) rfl))) (by decide) (t := (.array .byte)) (t' := .byte) (by decide) (by decide))))
  have f229 : Fld Z h227 x "java/lang/String" "coder" "B" (.int (1 : Int32)) := (f223.same W227)
  have f230 : Exa Z h227 x "java/lang/String" := (f224.wr W227)
  have f231 : Arv Z h227 b kb .char (6 : Int32) [(.int c0), (.int c1), (.int c2), (.int c3), (.int c4), (.int c5)] (.int (0 : Int32)) := (f225.other W227 nbx)
  have f232 : Arv Z h227 t221 kt221 .byte (12 : Int32) (StrChars.Road.wideBytes ([c0, c1, c2, c3, c4, c5] : List Int32)) (.int (0 : Int32)) := (V221q.other W227 (Ne.symm ne_x_t221))
  have N227 := Fr.snoc X227 N226 g_x
  have O227 := O221.wr W227 g_x
  have K227 := K221.wr W227 (Or.inl (List.mem_of_getElem? (i := 0) rfl))
  refine own_go st227 ?_
  show own_Goes _ _ _ _ _ _ _ (T227.setTop (mkF m 51 #[.val (.ref x), .val (.ref b), .val (.int (0 : Int32)), .val (.int (6 : Int32)), .val .null, .val (.ref t221)] []))
  refine own_go (fun _ ww => XS.aloadN X227.here hx rfl (hb hby d3_51) rfl rfl ww) ?_
  show own_Goes _ _ _ _ _ _ _ (T227.setTop (mkF m 52 #[.val (.ref x), .val (.ref b), .val (.int (0 : Int32)), .val (.int (6 : Int32)), .val .null, .val (.ref t221)] [(.ref x)]))
  refine own_go (fun _ ww => XS.aload X227.here hx rfl (hb hby d3_52) rfl rfl ww) ?_
  show own_Goes _ _ _ _ _ _ _ (T227.setTop (mkF m 54 #[.val (.ref x), .val (.ref b), .val (.int (0 : Int32)), .val (.int (6 : Int32)), .val .null, .val (.ref t221)] [(.ref t221), (.ref x)]))
  obtain ⟨T233, h233, X233, e233, W233, st233⟩ := putF X227 hx hZ hown (host := "") (Or.inl (hw _ (List.mem_of_getElem? (i := 35) rfl))) Via.refl e227 f228 f230 (Or.inr ⟨(hw _ (List.mem_of_getElem? (i := 36) rfl)), rfl, hnm⟩) (hw _ (List.mem_of_getElem? (i := 9) rfl)) (ty := (.array .byte)) (by decide) rfl rfl (g := (mkF m 54 #[.val (.ref x), .val (.ref b), .val (.int (0 : Int32)), .val (.int (6 : Int32)), .val .null, .val (.ref t221)] [(.ref t221), (.ref x)])) rfl rfl (hb hby d3_54)
  have f234 : Fld Z h233 x "java/lang/String" "value" "[B" (.ref t221) := (f228.same W233)
  have f235 : Fld Z h233 x "java/lang/String" "coder" "B" (.int (1 : Int32)) := (f229.other W233 (Or.inr (slot_ne (Or.inr (hw _ (List.mem_of_getElem? (i := 34) rfl))) (Or.inr (hw _ (List.mem_of_getElem? (i := 36) rfl))) (by decide) (t := .byte) (t' := (.array .byte)) (by decide) (by decide))))
  have f236 : Exa Z h233 x "java/lang/String" := (f230.wr W233)
  have f237 : Arv Z h233 b kb .char (6 : Int32) [(.int c0), (.int c1), (.int c2), (.int c3), (.int c4), (.int c5)] (.int (0 : Int32)) := (f231.other W233 nbx)
  have f238 : Arv Z h233 t221 kt221 .byte (12 : Int32) (StrChars.Road.wideBytes ([c0, c1, c2, c3, c4, c5] : List Int32)) (.int (0 : Int32)) := (f232.other W233 (Ne.symm ne_x_t221))
  have N233 := Fr.snoc X233 N227 g_x
  have O233 := O227.wr W233 g_x
  have K233 := K227.wr W233 (Or.inl (List.mem_of_getElem? (i := 0) rfl))
  refine own_go st233 ?_
  show own_Goes _ _ _ _ _ _ _ (T233.setTop (mkF m 57 #[.val (.ref x), .val (.ref b), .val (.int (0 : Int32)), .val (.int (6 : Int32)), .val .null, .val (.ref t221)] []))
  exact own_out X233 hlk (v := none) (fun _ => rfl) (fun fs hr => X233.returnOut hx hret (hb hby d3_57) hr) e233 ⟨t221, kt221, rfl, N233, sz_t221, K233, f235, f234, f238⟩ (by decide) (by decide)
theorem d2_0 : decode jdk_42_method_3_code 0 = .ok (.aload_n 0, 1) := by decide +kernel
theorem d2_1 : decode jdk_42_method_3_code 1 = .ok (.aload_n 1, 1) := by decide +kernel
theorem d2_2 : decode jdk_42_method_3_code 2 = .ok (.iconst 0, 1) := by decide +kernel
theorem d2_3 : decode jdk_42_method_3_code 3 = .ok (.aload_n 1, 1) := by decide +kernel
theorem d2_4 : decode jdk_42_method_3_code 4 = .ok (.arraylength, 1) := by decide +kernel
theorem d2_5 : decode jdk_42_method_3_code 5 = .ok (.aconst_null, 1) := by decide +kernel
theorem d2_6 : decode jdk_42_method_3_code 6 = .ok (.invokespecial 27, 3) := by decide +kernel
theorem d2_9 : decode jdk_42_method_3_code 9 = .ok (.return_, 1) := by decide +kernel
theorem ef_in1 (m : MethodId) (x : Addr) (b : Addr) (kb : ClassId) (c0 : Int32) (c1 : Int32) (c2 : Int32) (c3 : Int32) (c4 : Int32) (c5 : Int32) (zc : Int32) : entryFrame m #[(.ref x), (.ref b)] 2 = mkF m 0 #[.val (.ref x), .val (.ref b)] [] := by
  first | (simp [entryFrame, mkF, argsToLocals, Value.category]; done) | rfl
def Q_in1 (Z : State) (x : Addr) (b : Addr) (kb : ClassId) (c0 : Int32) (c1 : Int32) (c2 : Int32) (c3 : Int32) (c4 : Int32) (c5 : Int32) (zc : Int32) (h0 : Heap) (n0 : Nat) (v : Option Value) (h : Heap) (L : List Loc) : Prop := ∃ (t : Addr) (kt : ClassId) (cd N2 : Int32) (vs : List Value), v = none ∧ Fr n0 L ∧ h0.size ≤ t ∧ Keep h0 h [x] ∧ Fld Z h x "java/lang/String" "coder" "B" (.int cd) ∧ Fld Z h x "java/lang/String" "value" "[B" (.ref t) ∧ Arv Z h t kt .byte N2 vs (.int (0 : Int32)) ∧ own_Cod ([c0, c1, c2, c3, c4, c5] : List Int32) cd N2 vs
set_option maxRecDepth 65536 in
set_option maxHeartbeats 40000000 in
theorem rm_in1 (l : Launch) (Z : State) (a0 : Array Value) (hw : ∀ d ∈ tables_1, d.before a0 Z = true) (ws : List Jvm.Cond) (x : Addr) (b : Addr) (kb : ClassId) (c0 : Int32) (c1 : Int32) (c2 : Int32) (c3 : Int32) (c4 : Int32) (c5 : Int32) (zc : Int32) (h0 : Heap) (n0 : Nat) (O0 : Old Z n0 h0) (Fv : Fld Z h0 x "java/lang/String" "value" "[B" .null) (Fc : Fld Z h0 x "java/lang/String" "coder" "B" (.int (0 : Int32))) (Ex : Exa Z h0 x "java/lang/String") (g_x : n0 ≤ x) (Vb : Arv Z h0 b kb .char (6 : Int32) [(.int c0), (.int c1), (.int c2), (.int c3), (.int c4), (.int c5)] (.int (0 : Int32))) (nbx : b ≠ x) (SC : Sta Z Z.heap "java/lang/String" "COMPACT_STRINGS" "Z" (.int zc)) (hzc : ¬ zc = 0) (hbd : ∀ c ∈ ([c0, c1, c2, c3, c4, c5] : List Int32), ¬ c < 0 ∧ ¬ (65535 : Int32) < c) (SA : Sta Z Z.heap "java/lang/StringUTF16" "$assertionsDisabled" "Z" (.int (1 : Int32))) (SH : Sta Z Z.heap "java/lang/StringUTF16" "HI_BYTE_SHIFT" "I" (.int (0 : Int32))) (SLo : Sta Z Z.heap "java/lang/StringUTF16" "LO_BYTE_SHIFT" "I" (.int (8 : Int32))) :
    MetFree l (⟨"java/lang/String", "<init>", "([C)V"⟩ : MethodName) (head1 (Jvm.Cond.code (⟨"java/lang/String", "<init>", "([C)V"⟩ : MethodName) jdk_42_method_3_code 2 none :: ws) ({ frames := 5, cells := 2, slots := 18, locals := 74 } : Room)) (fun av_ U => av_ = #[(.ref x), (.ref b)] ∧ Z.Warmed39 U.vm ∧ U.heap = h0) (fun _ _ _ _ _ => True) (fun _ U o_ U' => ∃ v L, o_ = .returned v ∧ Q_in1 Z x b kb c0 c1 c2 c3 c4 c5 zc h0 n0 v U'.heap L ∧ FrameEnd U o_ U' L ({ frames := 5, cells := 2, slots := 18, locals := 74 } : Room).cells ({ frames := 5, cells := 2, slots := 18, locals := 74 } : Room).slots) := by
  refine MetFree.of_bodySF (plainFor_of_name pn_2) hisR ?_
  intro p e s m args below meth c s₁ Bd hml0 hP hK
  obtain ⟨rfl, hZ, hh⟩ := hP
  have hx := Bd.exec
  have hby := Bd.bytes
  have hml : c.maxLocals = 2 := hml0
  have hown : s.vm.findClass "java/lang/String" = some m.cls := findClass_of_methodNamed Bd.named
  have hnm := (name_of_methodNamed Bd.named Bd.method).1
  have hlk := own_lk Bd
  have hret := Bd.returns
  have X0 : Stand p l e ({ frames := 5, cells := 2, slots := 18, locals := 74 } : Room) s m #[(.ref x), (.ref b)] below meth c s₁ [] 0 0 := Stand.of_body Bd
  have e0 : s₁.heap = h0 := by rw [← hh, Bd.state]; rfl
  have N0 := Fr.nil n0
  show own_Goes p e below s (Q_in1 Z x b kb c0 c1 c2 c3 c4 c5 zc h0 n0) ({ frames := 5, cells := 2, slots := 18, locals := 74 } : Room).cells ({ frames := 5, cells := 2, slots := 18, locals := 74 } : Room).slots (s₁.setTop (entryFrame m #[(.ref x), (.ref b)] 2))
  refine own_go (fun _ ww => castTop (ef_in1 m x b kb c0 c1 c2 c3 c4 c5 zc) ww) ?_
  show own_Goes _ _ _ _ _ _ _ (s₁.setTop (mkF m 0 #[.val (.ref x), .val (.ref b)] []))
  refine own_go (fun _ ww => XS.aloadN X0.here hx rfl (hb hby d2_0) rfl rfl ww) ?_
  show own_Goes _ _ _ _ _ _ _ (s₁.setTop (mkF m 1 #[.val (.ref x), .val (.ref b)] [(.ref x)]))
  refine own_go (fun _ ww => XS.aloadN X0.here hx rfl (hb hby d2_1) rfl rfl ww) ?_
  show own_Goes _ _ _ _ _ _ _ (s₁.setTop (mkF m 2 #[.val (.ref x), .val (.ref b)] [(.ref b), (.ref x)]))
  refine own_go (fun _ ww => XS.iconst X0.here hx rfl (hb hby d2_2) ww) ?_
  show own_Goes _ _ _ _ _ _ _ (s₁.setTop (mkF m 3 #[.val (.ref x), .val (.ref b)] [(.int (0 : Int32)), (.ref b), (.ref x)]))
  refine own_go (fun _ ww => XS.aloadN X0.here hx rfl (hb hby d2_3) rfl rfl ww) ?_
  show own_Goes _ _ _ _ _ _ _ (s₁.setTop (mkF m 4 #[.val (.ref x), .val (.ref b)] [(.ref b), (.int (0 : Int32)), (.ref b), (.ref x)]))
  obtain ⟨cl239, Ar239, -, S239, Ng239, -, -⟩ := id Vb
  refine own_go (fun _ ww => X0.arraylength hx (by rw [e0]; exact Ar239.1) (State.isArrayOf_alike hZ.alike Ar239.2.1) (g := (mkF m 4 #[.val (.ref x), .val (.ref b)] [(.ref b), (.int (0 : Int32)), (.ref b), (.ref x)])) rfl rfl (hb hby d2_4) _ ww) ?_
  rw [len_of S239 Ng239]
  show own_Goes _ _ _ _ _ _ _ (s₁.setTop (mkF m 5 #[.val (.ref x), .val (.ref b)] [(.int (6 : Int32)), (.int (0 : Int32)), (.ref b), (.ref x)]))
  refine own_go (fun _ ww => XS.aconstNull X0.here hx rfl (hb hby d2_5) ww) ?_
  show own_Goes _ _ _ _ _ _ _ (s₁.setTop (mkF m 6 #[.val (.ref x), .val (.ref b)] [.null, (.int (6 : Int32)), (.int (0 : Int32)), (.ref b), (.ref x)]))
  by_cases hlat : ∀ c ∈ ([c0, c1, c2, c3, c4, c5] : List Int32), ¬ (255 : Int32) < c
  ·
    obtain ⟨le0, le1, le2, le3, le4, le5⟩ := own_six4 hlat
    show own_Goes _ _ _ _ _ _ _ (s₁.setTop (mkF m 6 #[.val (.ref x), .val (.ref b)] [.null, (.int (6 : Int32)), (.int (0 : Int32)), (.ref b), (.ref x)]))
    obtain ⟨_, _, ⟨T240, L240, k240, n240⟩, -, X240, ⟨Lc240, hQ240, l240, y240, z240⟩, st240⟩ := X0.specialBack hx (y := (⟨"java/lang/String", "<init>", "([CIILjava/lang/Void;)V"⟩ : MethodName)) rfl hown (mvT hZ (hw _ (List.mem_of_getElem? (i := 14) rfl))) (mvT hZ (hw _ (List.mem_of_getElem? (i := 15) rfl))) (mvT hZ (hw _ (List.mem_of_getElem? (i := 17) rfl))) (by decide) (backOf (W := 0) (rm_in4L l Z a0 hw [] x b kb c0 c1 c2 c3 c4 c5 zc h0 n0 O0 Fv Fc Ex g_x Vb nbx SC hzc le0 le1 le2 le3 le4 le5) hZ (hw _ (List.mem_of_getElem? (i := 17) rfl)) (hw _ (List.mem_of_getElem? (i := 10) rfl)) (by decide) (by decide)) (g := (mkF m 6 #[.val (.ref x), .val (.ref b)] [.null, (.int (6 : Int32)), (.int (0 : Int32)), (.ref b), (.ref x)])) rfl (by rw [hml]; rfl) (Steps.refl _) (a := x) (argsL := [(.ref b), (.int (0 : Int32)), (.int (6 : Int32)), .null]) (rest := []) (lenOf pd_7 rfl) rfl (by show 2 * 0 + _ ≤ _; exact Nat.le_of_eq rfl) (hb hby d2_6) (fun _ _ => ⟨rfl, e0, (by decide : 0 + 1 ≤ _), (by decide : 0 + 6 ≤ _)⟩)
    dsimp only [Pt.U, Pt.locs, Pt.cells, Pt.slots] at X240 l240 y240 z240 st240 hQ240
    subst l240 y240 z240
    obtain ⟨t240, kt240, rfl, N240q, B240, K240q, C240q, V240q, A240q⟩ := hQ240
    have N240 := Fr.app N0 N240q
    have ne_x_t240 : x ≠ t240 := Nat.ne_of_lt (Nat.lt_of_lt_of_le Fv.lt B240)
    have ne_b_t240 : b ≠ t240 := Nat.ne_of_lt (Nat.lt_of_lt_of_le Vb.lt B240)
    have g_t240 : n0 ≤ t240 := Nat.le_trans (O0.1 ▸ O0.2.1) B240
    have sz_t240 : h0.size ≤ t240 := Nat.le_trans (own_ks (Keep.refl h0 [x])) B240
    have f241 : Exa Z T240.heap x "java/lang/String" := (Ex.keep K240q)
    have f242 : Arv Z T240.heap b kb .char (6 : Int32) [(.int c0), (.int c1), (.int c2), (.int c3), (.int c4), (.int c5)] (.int (0 : Int32)) := (Vb.keep K240q (ninS nbx nin0))
    have O240 := O0.keep K240q (allS g_x all0)
    have K240 := (Keep.refl h0 [x]).trans K240q (allS (Or.inl (List.mem_of_getElem? (i := 0) rfl)) all0)
    refine own_go (fun _ ww => Steps.trans st240 ww) ?_
    show own_Goes _ _ _ _ _ _ _ (T240.setTop (mkF m 9 #[.val (.ref x), .val (.ref b)] []))
    exact own_out X240 hlk (v := none) (fun _ => rfl) (fun fs hr => X240.returnOut hx hret (hb hby d2_9) hr) rfl ⟨t240, kt240, (0 : Int32), (6 : Int32), (([c0, c1, c2, c3, c4, c5] : List Int32).map fun c => Value.int (StrChars.lo8 c)), rfl, N240, sz_t240, K240, C240q, V240q, A240q, (Or.inl ⟨rfl, rfl, rfl, hlat⟩)⟩ (by decide) (by decide)
  ·
    show own_Goes _ _ _ _ _ _ _ (s₁.setTop (mkF m 6 #[.val (.ref x), .val (.ref b)] [.null, (.int (6 : Int32)), (.int (0 : Int32)), (.ref b), (.ref x)]))
    obtain ⟨_, _, ⟨T243, L243, k243, n243⟩, -, X243, ⟨Lc243, hQ243, l243, y243, z243⟩, st243⟩ := X0.specialBack hx (y := (⟨"java/lang/String", "<init>", "([CIILjava/lang/Void;)V"⟩ : MethodName)) rfl hown (mvT hZ (hw _ (List.mem_of_getElem? (i := 14) rfl))) (mvT hZ (hw _ (List.mem_of_getElem? (i := 15) rfl))) (mvT hZ (hw _ (List.mem_of_getElem? (i := 17) rfl))) (by decide) (backOf (W := 0) (rm_in4W l Z a0 hw [] x b kb c0 c1 c2 c3 c4 c5 zc h0 n0 O0 Fv Fc Ex g_x Vb nbx SC hzc hlat hbd SA SH SLo) hZ (hw _ (List.mem_of_getElem? (i := 17) rfl)) (hw _ (List.mem_of_getElem? (i := 10) rfl)) (by decide) (by decide)) (g := (mkF m 6 #[.val (.ref x), .val (.ref b)] [.null, (.int (6 : Int32)), (.int (0 : Int32)), (.ref b), (.ref x)])) rfl (by rw [hml]; rfl) (Steps.refl _) (a := x) (argsL := [(.ref b), (.int (0 : Int32)), (.int (6 : Int32)), .null]) (rest := []) (lenOf pd_7 rfl) rfl (by show 2 * 0 + _ ≤ _; exact Nat.le_of_eq rfl) (hb hby d2_6) (fun _ _ => ⟨rfl, e0, (by decide : 0 + 2 ≤ _), (by decide : 0 + 18 ≤ _)⟩)
    dsimp only [Pt.U, Pt.locs, Pt.cells, Pt.slots] at X243 l243 y243 z243 st243 hQ243
    subst l243 y243 z243
    obtain ⟨t243, kt243, rfl, N243q, B243, K243q, C243q, V243q, A243q⟩ := hQ243
    have N243 := Fr.app N0 N243q
    have ne_x_t243 : x ≠ t243 := Nat.ne_of_lt (Nat.lt_of_lt_of_le Fv.lt B243)
    have ne_b_t243 : b ≠ t243 := Nat.ne_of_lt (Nat.lt_of_lt_of_le Vb.lt B243)
    have g_t243 : n0 ≤ t243 := Nat.le_trans (O0.1 ▸ O0.2.1) B243
    have sz_t243 : h0.size ≤ t243 := Nat.le_trans (own_ks (Keep.refl h0 [x])) B243
    have f244 : Exa Z T243.heap x "java/lang/String" := (Ex.keep K243q)
    have f245 : Arv Z T243.heap b kb .char (6 : Int32) [(.int c0), (.int c1), (.int c2), (.int c3), (.int c4), (.int c5)] (.int (0 : Int32)) := (Vb.keep K243q (ninS nbx nin0))
    have O243 := O0.keep K243q (allS g_x all0)
    have K243 := (Keep.refl h0 [x]).trans K243q (allS (Or.inl (List.mem_of_getElem? (i := 0) rfl)) all0)
    refine own_go (fun _ ww => Steps.trans st243 ww) ?_
    show own_Goes _ _ _ _ _ _ _ (T243.setTop (mkF m 9 #[.val (.ref x), .val (.ref b)] []))
    exact own_out X243 hlk (v := none) (fun _ => rfl) (fun fs hr => X243.returnOut hx hret (hb hby d2_9) hr) rfl ⟨t243, kt243, (1 : Int32), (12 : Int32), (StrChars.Road.wideBytes ([c0, c1, c2, c3, c4, c5] : List Int32)), rfl, N243, sz_t243, K243, C243q, V243q, A243q, (Or.inr ⟨rfl, rfl, rfl⟩)⟩ (by decide) (by decide)
theorem d11_0 : decode jdk_42_method_152_code 0 = .ok (.getstatic 38, 3) := by decide +kernel
theorem d11_3 : decode jdk_42_method_152_code 3 = .ok (.ifCond .eq 10, 3) := by decide +kernel
theorem d11_6 : decode jdk_42_method_152_code 6 = .ok (.aload_n 0, 1) := by decide +kernel
theorem d11_7 : decode jdk_42_method_152_code 7 = .ok (.getfield 15, 3) := by decide +kernel
theorem d11_10 : decode jdk_42_method_152_code 10 = .ok (.goto 4, 3) := by decide +kernel
theorem d11_14 : decode jdk_42_method_152_code 14 = .ok (.ireturn, 1) := by decide +kernel
theorem ef_cdr0 (m : MethodId) (x : Addr) (zc : Int32) : entryFrame m #[(.ref x)] 1 = mkF m 0 #[.val (.ref x)] [] := by
  first | (simp [entryFrame, mkF, argsToLocals, Value.category]; done) | rfl
def Q_cdr0 (Z : State) (x : Addr) (zc : Int32) (h0 : Heap) (n0 : Nat) (v : Option Value) (h : Heap) (L : List Loc) : Prop := v = some (.int (0 : Int32)) ∧ Fr n0 L ∧ h = h0
set_option maxRecDepth 65536 in
set_option maxHeartbeats 40000000 in
theorem rm_cdr0 (l : Launch) (Z : State) (a0 : Array Value) (hw : ∀ d ∈ tables_1, d.before a0 Z = true) (ws : List Jvm.Cond) (x : Addr) (zc : Int32) (h0 : Heap) (n0 : Nat) (O0 : Old Z n0 h0) (Fc : Fld Z h0 x "java/lang/String" "coder" "B" (.int (0 : Int32))) (SC : Sta Z Z.heap "java/lang/String" "COMPACT_STRINGS" "Z" (.int zc)) (hzc : ¬ zc = 0) :
    MetFree l (⟨"java/lang/String", "coder", "()B"⟩ : MethodName) (head1 (Jvm.Cond.code (⟨"java/lang/String", "coder", "()B"⟩ : MethodName) jdk_42_method_152_code 1 (some .byte) :: ws) ({ frames := 0, cells := 0, slots := 0, locals := 0 } : Room)) (fun av_ U => av_ = #[(.ref x)] ∧ Z.Warmed39 U.vm ∧ U.heap = h0) (fun _ _ _ _ _ => True) (fun _ U o_ U' => ∃ v L, o_ = .returned v ∧ Q_cdr0 Z x zc h0 n0 v U'.heap L ∧ FrameEnd U o_ U' L ({ frames := 0, cells := 0, slots := 0, locals := 0 } : Room).cells ({ frames := 0, cells := 0, slots := 0, locals := 0 } : Room).slots) := by
  refine MetFree.of_bodySF (plainFor_of_name pn_2) hisR ?_
  intro p e s m args below meth c s₁ Bd hml0 hP hK
  obtain ⟨rfl, hZ, hh⟩ := hP
  have hx := Bd.exec
  have hby := Bd.bytes
  have hml : c.maxLocals = 1 := hml0
  have hown : s.vm.findClass "java/lang/String" = some m.cls := findClass_of_methodNamed Bd.named
  have hnm := (name_of_methodNamed Bd.named Bd.method).1
  have hlk := own_lk Bd
  have hret := Bd.returns
  have X0 : Stand p l e ({ frames := 0, cells := 0, slots := 0, locals := 0 } : Room) s m #[(.ref x)] below meth c s₁ [] 0 0 := Stand.of_body Bd
  have e0 : s₁.heap = h0 := by rw [← hh, Bd.state]; rfl
  have N0 := Fr.nil n0
  show own_Goes p e below s (Q_cdr0 Z x zc h0 n0) ({ frames := 0, cells := 0, slots := 0, locals := 0 } : Room).cells ({ frames := 0, cells := 0, slots := 0, locals := 0 } : Room).slots (s₁.setTop (entryFrame m #[(.ref x)] 1))
  refine own_go (fun _ ww => castTop (ef_cdr0 m x zc) ww) ?_
  show own_Goes _ _ _ _ _ _ _ (s₁.setTop (mkF m 0 #[.val (.ref x)] []))
  obtain ⟨T246, X246, e246, st246⟩ := getS X0 hx hZ hown (host := "") (hw _ (List.mem_of_getElem? (i := 21) rfl)) Via.refl e0 (SC.ext O0.2) (g := (mkF m 0 #[.val (.ref x)] [])) rfl (hb hby d11_0)
  refine own_go st246 ?_
  show own_Goes _ _ _ _ _ _ _ (T246.setTop (mkF m 3 #[.val (.ref x)] [(.int zc)]))
  refine own_go (fun _ ww => XS.ifNo X246.here hx rfl (hb hby d11_3) rfl (own_if .eq (feq hzc).1) ww) ?_
  show own_Goes _ _ _ _ _ _ _ (T246.setTop (mkF m 6 #[.val (.ref x)] []))
  refine own_go (fun _ ww => XS.aloadN X246.here hx rfl (hb hby d11_6) rfl rfl ww) ?_
  show own_Goes _ _ _ _ _ _ _ (T246.setTop (mkF m 7 #[.val (.ref x)] [(.ref x)]))
  obtain ⟨T247, X247, e247, st247⟩ := getF X246 hx hZ hown (host := "") (Or.inl (hw _ (List.mem_of_getElem? (i := 33) rfl))) Via.refl e246 Fc (g := (mkF m 7 #[.val (.ref x)] [(.ref x)])) rfl rfl (hb hby d11_7)
  refine own_go st247 ?_
  show own_Goes _ _ _ _ _ _ _ (T247.setTop (mkF m 10 #[.val (.ref x)] [(.int (0 : Int32))]))
  refine own_go (fun _ ww => XS.goto X247.here hx rfl (pc0 := 10) (pc' := 14) rfl (hb hby d11_10) (by decide) (by decide) ww) ?_
  show own_Goes _ _ _ _ _ _ _ (T247.setTop (mkF m 14 #[.val (.ref x)] [(.int (0 : Int32))]))
  exact own_out X247 hlk (v := some (.int (0 : Int32))) (fun h => by rw [hret] at h; cases h) (fun fs hr => retOut X247 hx (t := .byte) hret (by decide) (Or.inl ⟨rfl, by simp, _, rfl⟩) (hb hby d11_14) hr) e247 ⟨rfl, N0, rfl⟩ (by decide) (by decide)
theorem d22_0 : decode jdk_42_method_154_code 0 = .ok (.getstatic 38, 3) := by decide +kernel
theorem d22_3 : decode jdk_42_method_154_code 3 = .ok (.ifCond .eq 14, 3) := by decide +kernel
theorem d22_6 : decode jdk_42_method_154_code 6 = .ok (.aload_n 0, 1) := by decide +kernel
theorem d22_7 : decode jdk_42_method_154_code 7 = .ok (.getfield 15, 3) := by decide +kernel
theorem d22_10 : decode jdk_42_method_154_code 10 = .ok (.ifCond .ne 7, 3) := by decide +kernel
theorem d22_13 : decode jdk_42_method_154_code 13 = .ok (.iconst 1, 1) := by decide +kernel
theorem d22_14 : decode jdk_42_method_154_code 14 = .ok (.goto 4, 3) := by decide +kernel
theorem d22_18 : decode jdk_42_method_154_code 18 = .ok (.ireturn, 1) := by decide +kernel
theorem ef_isl0 (m : MethodId) (x : Addr) (zc : Int32) : entryFrame m #[(.ref x)] 1 = mkF m 0 #[.val (.ref x)] [] := by
  first | (simp [entryFrame, mkF, argsToLocals, Value.category]; done) | rfl
def Q_isl0 (Z : State) (x : Addr) (zc : Int32) (h0 : Heap) (n0 : Nat) (v : Option Value) (h : Heap) (L : List Loc) : Prop := v = some (.int (1 : Int32)) ∧ Fr n0 L ∧ h = h0
set_option maxRecDepth 65536 in
set_option maxHeartbeats 40000000 in
theorem rm_isl0 (l : Launch) (Z : State) (a0 : Array Value) (hw : ∀ d ∈ tables_1, d.before a0 Z = true) (ws : List Jvm.Cond) (x : Addr) (zc : Int32) (h0 : Heap) (n0 : Nat) (O0 : Old Z n0 h0) (Fc : Fld Z h0 x "java/lang/String" "coder" "B" (.int (0 : Int32))) (SC : Sta Z Z.heap "java/lang/String" "COMPACT_STRINGS" "Z" (.int zc)) (hzc : ¬ zc = 0) :
    MetFree l (⟨"java/lang/String", "isLatin1", "()Z"⟩ : MethodName) (head1 (Jvm.Cond.code (⟨"java/lang/String", "isLatin1", "()Z"⟩ : MethodName) jdk_42_method_154_code 1 (some .boolean) :: ws) ({ frames := 0, cells := 0, slots := 0, locals := 0 } : Room)) (fun av_ U => av_ = #[(.ref x)] ∧ Z.Warmed39 U.vm ∧ U.heap = h0) (fun _ _ _ _ _ => True) (fun _ U o_ U' => ∃ v L, o_ = .returned v ∧ Q_isl0 Z x zc h0 n0 v U'.heap L ∧ FrameEnd U o_ U' L ({ frames := 0, cells := 0, slots := 0, locals := 0 } : Room).cells ({ frames := 0, cells := 0, slots := 0, locals := 0 } : Room).slots) := by
  refine MetFree.of_bodySF (plainFor_of_name pn_2) hisR ?_
  intro p e s m args below meth c s₁ Bd hml0 hP hK
  obtain ⟨rfl, hZ, hh⟩ := hP
  have hx := Bd.exec
  have hby := Bd.bytes
  have hml : c.maxLocals = 1 := hml0
  have hown : s.vm.findClass "java/lang/String" = some m.cls := findClass_of_methodNamed Bd.named
  have hnm := (name_of_methodNamed Bd.named Bd.method).1
  have hlk := own_lk Bd
  have hret := Bd.returns
  have X0 : Stand p l e ({ frames := 0, cells := 0, slots := 0, locals := 0 } : Room) s m #[(.ref x)] below meth c s₁ [] 0 0 := Stand.of_body Bd
  have e0 : s₁.heap = h0 := by rw [← hh, Bd.state]; rfl
  have N0 := Fr.nil n0
  show own_Goes p e below s (Q_isl0 Z x zc h0 n0) ({ frames := 0, cells := 0, slots := 0, locals := 0 } : Room).cells ({ frames := 0, cells := 0, slots := 0, locals := 0 } : Room).slots (s₁.setTop (entryFrame m #[(.ref x)] 1))
  refine own_go (fun _ ww => castTop (ef_isl0 m x zc) ww) ?_
  show own_Goes _ _ _ _ _ _ _ (s₁.setTop (mkF m 0 #[.val (.ref x)] []))
  obtain ⟨T248, X248, e248, st248⟩ := getS X0 hx hZ hown (host := "") (hw _ (List.mem_of_getElem? (i := 21) rfl)) Via.refl e0 (SC.ext O0.2) (g := (mkF m 0 #[.val (.ref x)] [])) rfl (hb hby d22_0)
  refine own_go st248 ?_
  show own_Goes _ _ _ _ _ _ _ (T248.setTop (mkF m 3 #[.val (.ref x)] [(.int zc)]))
  refine own_go (fun _ ww => XS.ifNo X248.here hx rfl (hb hby d22_3) rfl (own_if .eq (feq hzc).1) ww) ?_
  show own_Goes _ _ _ _ _ _ _ (T248.setTop (mkF m 6 #[.val (.ref x)] []))
  refine own_go (fun _ ww => XS.aloadN X248.here hx rfl (hb hby d22_6) rfl rfl ww) ?_
  show own_Goes _ _ _ _ _ _ _ (T248.setTop (mkF m 7 #[.val (.ref x)] [(.ref x)]))
  obtain ⟨T249, X249, e249, st249⟩ := getF X248 hx hZ hown (host := "") (Or.inl (hw _ (List.mem_of_getElem? (i := 33) rfl))) Via.refl e248 Fc (g := (mkF m 7 #[.val (.ref x)] [(.ref x)])) rfl rfl (hb hby d22_7)
  refine own_go st249 ?_
  show own_Goes _ _ _ _ _ _ _ (T249.setTop (mkF m 10 #[.val (.ref x)] [(.int (0 : Int32))]))
  refine own_go (fun _ ww => XS.ifNo X249.here hx rfl (hb hby d22_10) rfl (own_if .ne (teq (by decide : (0 : Int32) = (0 : Int32))).2) ww) ?_
  show own_Goes _ _ _ _ _ _ _ (T249.setTop (mkF m 13 #[.val (.ref x)] []))
  refine own_go (fun _ ww => XS.iconst X249.here hx rfl (hb hby d22_13) ww) ?_
  show own_Goes _ _ _ _ _ _ _ (T249.setTop (mkF m 14 #[.val (.ref x)] [(.int (1 : Int32))]))
  refine own_go (fun _ ww => XS.goto X249.here hx rfl (pc0 := 14) (pc' := 18) rfl (hb hby d22_14) (by decide) (by decide) ww) ?_
  show own_Goes _ _ _ _ _ _ _ (T249.setTop (mkF m 18 #[.val (.ref x)] [(.int (1 : Int32))]))
  exact own_out X249 hlk (v := some (.int (1 : Int32))) (fun h => by rw [hret] at h; cases h) (fun fs hr => retOut X249 hx (t := .boolean) hret (by decide) (Or.inl ⟨rfl, by simp, _, rfl⟩) (hb hby d22_18) hr) e249 ⟨rfl, N0, rfl⟩ (by decide) (by decide)
theorem ef_cdr1 (m : MethodId) (x : Addr) (zc : Int32) : entryFrame m #[(.ref x)] 1 = mkF m 0 #[.val (.ref x)] [] := by
  first | (simp [entryFrame, mkF, argsToLocals, Value.category]; done) | rfl
def Q_cdr1 (Z : State) (x : Addr) (zc : Int32) (h0 : Heap) (n0 : Nat) (v : Option Value) (h : Heap) (L : List Loc) : Prop := v = some (.int (1 : Int32)) ∧ Fr n0 L ∧ h = h0
set_option maxRecDepth 65536 in
set_option maxHeartbeats 40000000 in
theorem rm_cdr1 (l : Launch) (Z : State) (a0 : Array Value) (hw : ∀ d ∈ tables_1, d.before a0 Z = true) (ws : List Jvm.Cond) (x : Addr) (zc : Int32) (h0 : Heap) (n0 : Nat) (O0 : Old Z n0 h0) (Fc : Fld Z h0 x "java/lang/String" "coder" "B" (.int (1 : Int32))) (SC : Sta Z Z.heap "java/lang/String" "COMPACT_STRINGS" "Z" (.int zc)) (hzc : ¬ zc = 0) :
    MetFree l (⟨"java/lang/String", "coder", "()B"⟩ : MethodName) (head1 (Jvm.Cond.code (⟨"java/lang/String", "coder", "()B"⟩ : MethodName) jdk_42_method_152_code 1 (some .byte) :: ws) ({ frames := 0, cells := 0, slots := 0, locals := 0 } : Room)) (fun av_ U => av_ = #[(.ref x)] ∧ Z.Warmed39 U.vm ∧ U.heap = h0) (fun _ _ _ _ _ => True) (fun _ U o_ U' => ∃ v L, o_ = .returned v ∧ Q_cdr1 Z x zc h0 n0 v U'.heap L ∧ FrameEnd U o_ U' L ({ frames := 0, cells := 0, slots := 0, locals := 0 } : Room).cells ({ frames := 0, cells := 0, slots := 0, locals := 0 } : Room).slots) := by
  refine MetFree.of_bodySF (plainFor_of_name pn_2) hisR ?_
  intro p e s m args below meth c s₁ Bd hml0 hP hK
  obtain ⟨rfl, hZ, hh⟩ := hP
  have hx := Bd.exec
  have hby := Bd.bytes
  have hml : c.maxLocals = 1 := hml0
  have hown : s.vm.findClass "java/lang/String" = some m.cls := findClass_of_methodNamed Bd.named
  have hnm := (name_of_methodNamed Bd.named Bd.method).1
  have hlk := own_lk Bd
  have hret := Bd.returns
  have X0 : Stand p l e ({ frames := 0, cells := 0, slots := 0, locals := 0 } : Room) s m #[(.ref x)] below meth c s₁ [] 0 0 := Stand.of_body Bd
  have e0 : s₁.heap = h0 := by rw [← hh, Bd.state]; rfl
  have N0 := Fr.nil n0
  show own_Goes p e below s (Q_cdr1 Z x zc h0 n0) ({ frames := 0, cells := 0, slots := 0, locals := 0 } : Room).cells ({ frames := 0, cells := 0, slots := 0, locals := 0 } : Room).slots (s₁.setTop (entryFrame m #[(.ref x)] 1))
  refine own_go (fun _ ww => castTop (ef_cdr1 m x zc) ww) ?_
  show own_Goes _ _ _ _ _ _ _ (s₁.setTop (mkF m 0 #[.val (.ref x)] []))
  obtain ⟨T250, X250, e250, st250⟩ := getS X0 hx hZ hown (host := "") (hw _ (List.mem_of_getElem? (i := 21) rfl)) Via.refl e0 (SC.ext O0.2) (g := (mkF m 0 #[.val (.ref x)] [])) rfl (hb hby d11_0)
  refine own_go st250 ?_
  show own_Goes _ _ _ _ _ _ _ (T250.setTop (mkF m 3 #[.val (.ref x)] [(.int zc)]))
  refine own_go (fun _ ww => XS.ifNo X250.here hx rfl (hb hby d11_3) rfl (own_if .eq (feq hzc).1) ww) ?_
  show own_Goes _ _ _ _ _ _ _ (T250.setTop (mkF m 6 #[.val (.ref x)] []))
  refine own_go (fun _ ww => XS.aloadN X250.here hx rfl (hb hby d11_6) rfl rfl ww) ?_
  show own_Goes _ _ _ _ _ _ _ (T250.setTop (mkF m 7 #[.val (.ref x)] [(.ref x)]))
  obtain ⟨T251, X251, e251, st251⟩ := getF X250 hx hZ hown (host := "") (Or.inl (hw _ (List.mem_of_getElem? (i := 33) rfl))) Via.refl e250 Fc (g := (mkF m 7 #[.val (.ref x)] [(.ref x)])) rfl rfl (hb hby d11_7)
  refine own_go st251 ?_
  show own_Goes _ _ _ _ _ _ _ (T251.setTop (mkF m 10 #[.val (.ref x)] [(.int (1 : Int32))]))
  refine own_go (fun _ ww => XS.goto X251.here hx rfl (pc0 := 10) (pc' := 14) rfl (hb hby d11_10) (by decide) (by decide) ww) ?_
  show own_Goes _ _ _ _ _ _ _ (T251.setTop (mkF m 14 #[.val (.ref x)] [(.int (1 : Int32))]))
  exact own_out X251 hlk (v := some (.int (1 : Int32))) (fun h => by rw [hret] at h; cases h) (fun fs hr => retOut X251 hx (t := .byte) hret (by decide) (Or.inl ⟨rfl, by simp, _, rfl⟩) (hb hby d11_14) hr) e251 ⟨rfl, N0, rfl⟩ (by decide) (by decide)
theorem d22_17 : decode jdk_42_method_154_code 17 = .ok (.iconst 0, 1) := by decide +kernel
theorem ef_isl1 (m : MethodId) (x : Addr) (zc : Int32) : entryFrame m #[(.ref x)] 1 = mkF m 0 #[.val (.ref x)] [] := by
  first | (simp [entryFrame, mkF, argsToLocals, Value.category]; done) | rfl
def Q_isl1 (Z : State) (x : Addr) (zc : Int32) (h0 : Heap) (n0 : Nat) (v : Option Value) (h : Heap) (L : List Loc) : Prop := v = some (.int (0 : Int32)) ∧ Fr n0 L ∧ h = h0
set_option maxRecDepth 65536 in
set_option maxHeartbeats 40000000 in
theorem rm_isl1 (l : Launch) (Z : State) (a0 : Array Value) (hw : ∀ d ∈ tables_1, d.before a0 Z = true) (ws : List Jvm.Cond) (x : Addr) (zc : Int32) (h0 : Heap) (n0 : Nat) (O0 : Old Z n0 h0) (Fc : Fld Z h0 x "java/lang/String" "coder" "B" (.int (1 : Int32))) (SC : Sta Z Z.heap "java/lang/String" "COMPACT_STRINGS" "Z" (.int zc)) (hzc : ¬ zc = 0) :
    MetFree l (⟨"java/lang/String", "isLatin1", "()Z"⟩ : MethodName) (head1 (Jvm.Cond.code (⟨"java/lang/String", "isLatin1", "()Z"⟩ : MethodName) jdk_42_method_154_code 1 (some .boolean) :: ws) ({ frames := 0, cells := 0, slots := 0, locals := 0 } : Room)) (fun av_ U => av_ = #[(.ref x)] ∧ Z.Warmed39 U.vm ∧ U.heap = h0) (fun _ _ _ _ _ => True) (fun _ U o_ U' => ∃ v L, o_ = .returned v ∧ Q_isl1 Z x zc h0 n0 v U'.heap L ∧ FrameEnd U o_ U' L ({ frames := 0, cells := 0, slots := 0, locals := 0 } : Room).cells ({ frames := 0, cells := 0, slots := 0, locals := 0 } : Room).slots) := by
  refine MetFree.of_bodySF (plainFor_of_name pn_2) hisR ?_
  intro p e s m args below meth c s₁ Bd hml0 hP hK
  obtain ⟨rfl, hZ, hh⟩ := hP
  have hx := Bd.exec
  have hby := Bd.bytes
  have hml : c.maxLocals = 1 := hml0
  have hown : s.vm.findClass "java/lang/String" = some m.cls := findClass_of_methodNamed Bd.named
  have hnm := (name_of_methodNamed Bd.named Bd.method).1
  have hlk := own_lk Bd
  have hret := Bd.returns
  have X0 : Stand p l e ({ frames := 0, cells := 0, slots := 0, locals := 0 } : Room) s m #[(.ref x)] below meth c s₁ [] 0 0 := Stand.of_body Bd
  have e0 : s₁.heap = h0 := by rw [← hh, Bd.state]; rfl
  have N0 := Fr.nil n0
  show own_Goes p e below s (Q_isl1 Z x zc h0 n0) ({ frames := 0, cells := 0, slots := 0, locals := 0 } : Room).cells ({ frames := 0, cells := 0, slots := 0, locals := 0 } : Room).slots (s₁.setTop (entryFrame m #[(.ref x)] 1))
  refine own_go (fun _ ww => castTop (ef_isl1 m x zc) ww) ?_
  show own_Goes _ _ _ _ _ _ _ (s₁.setTop (mkF m 0 #[.val (.ref x)] []))
  obtain ⟨T252, X252, e252, st252⟩ := getS X0 hx hZ hown (host := "") (hw _ (List.mem_of_getElem? (i := 21) rfl)) Via.refl e0 (SC.ext O0.2) (g := (mkF m 0 #[.val (.ref x)] [])) rfl (hb hby d22_0)
  refine own_go st252 ?_
  show own_Goes _ _ _ _ _ _ _ (T252.setTop (mkF m 3 #[.val (.ref x)] [(.int zc)]))
  refine own_go (fun _ ww => XS.ifNo X252.here hx rfl (hb hby d22_3) rfl (own_if .eq (feq hzc).1) ww) ?_
  show own_Goes _ _ _ _ _ _ _ (T252.setTop (mkF m 6 #[.val (.ref x)] []))
  refine own_go (fun _ ww => XS.aloadN X252.here hx rfl (hb hby d22_6) rfl rfl ww) ?_
  show own_Goes _ _ _ _ _ _ _ (T252.setTop (mkF m 7 #[.val (.ref x)] [(.ref x)]))
  obtain ⟨T253, X253, e253, st253⟩ := getF X252 hx hZ hown (host := "") (Or.inl (hw _ (List.mem_of_getElem? (i := 33) rfl))) Via.refl e252 Fc (g := (mkF m 7 #[.val (.ref x)] [(.ref x)])) rfl rfl (hb hby d22_7)
  refine own_go st253 ?_
  show own_Goes _ _ _ _ _ _ _ (T253.setTop (mkF m 10 #[.val (.ref x)] [(.int (1 : Int32))]))
  refine own_go (fun _ ww => XS.ifYes X253.here hx rfl (pc0 := 10) (pc' := 17) rfl (hb hby d22_10) rfl (own_if .ne (feq (by decide : ¬ ((1 : Int32) = (0 : Int32)))).2) (by decide) (by decide) ww) ?_
  show own_Goes _ _ _ _ _ _ _ (T253.setTop (mkF m 17 #[.val (.ref x)] []))
  refine own_go (fun _ ww => XS.iconst X253.here hx rfl (hb hby d22_17) ww) ?_
  show own_Goes _ _ _ _ _ _ _ (T253.setTop (mkF m 18 #[.val (.ref x)] [(.int (0 : Int32))]))
  exact own_out X253 hlk (v := some (.int (0 : Int32))) (fun h => by rw [hret] at h; cases h) (fun fs hr => retOut X253 hx (t := .boolean) hret (by decide) (Or.inl ⟨rfl, by simp, _, rfl⟩) (hb hby d22_18) hr) e253 ⟨rfl, N0, rfl⟩ (by decide) (by decide)
theorem d10_0 : decode jdk_42_method_54_code 0 = .ok (.aload_n 0, 1) := by decide +kernel
theorem d10_1 : decode jdk_42_method_54_code 1 = .ok (.getfield 9, 3) := by decide +kernel
theorem d10_4 : decode jdk_42_method_54_code 4 = .ok (.arraylength, 1) := by decide +kernel
theorem d10_5 : decode jdk_42_method_54_code 5 = .ok (.aload_n 0, 1) := by decide +kernel
theorem d10_6 : decode jdk_42_method_54_code 6 = .ok (.invokevirtual 335, 3) := by decide +kernel
theorem d10_9 : decode jdk_42_method_54_code 9 = .ok (.ishr, 1) := by decide +kernel
theorem d10_10 : decode jdk_42_method_54_code 10 = .ok (.ireturn, 1) := by decide +kernel
theorem ef_len (m : MethodId) (x : Addr) (t : Addr) (kt : ClassId) (cd : Int32) (N2 : Int32) (vs : List Value) (cs : List Int32) (zc : Int32) : entryFrame m #[(.ref x)] 1 = mkF m 0 #[.val (.ref x)] [] := by
  first | (simp [entryFrame, mkF, argsToLocals, Value.category]; done) | rfl
def Q_len (Z : State) (x : Addr) (t : Addr) (kt : ClassId) (cd : Int32) (N2 : Int32) (vs : List Value) (cs : List Int32) (zc : Int32) (h0 : Heap) (n0 : Nat) (v : Option Value) (h : Heap) (L : List Loc) : Prop := v = some (.int (6 : Int32)) ∧ Fr n0 L ∧ h = h0
set_option maxRecDepth 65536 in
set_option maxHeartbeats 40000000 in
theorem rm_len (l : Launch) (Z : State) (a0 : Array Value) (hw : ∀ d ∈ tables_1, d.before a0 Z = true) (ws : List Jvm.Cond) (x : Addr) (t : Addr) (kt : ClassId) (cd : Int32) (N2 : Int32) (vs : List Value) (cs : List Int32) (zc : Int32) (h0 : Heap) (n0 : Nat) (O0 : Old Z n0 h0) (Ex : Exa Z h0 x "java/lang/String") (Fc : Fld Z h0 x "java/lang/String" "coder" "B" (.int cd)) (Fv : Fld Z h0 x "java/lang/String" "value" "[B" (.ref t)) (Kt : Arv Z h0 t kt .byte N2 vs (.int (0 : Int32))) (hcd : own_Cod cs cd N2 vs) (hl : cs.length = 6) (hbd : ∀ c ∈ cs, ¬ c < 0 ∧ ¬ (65535 : Int32) < c) (SC : Sta Z Z.heap "java/lang/String" "COMPACT_STRINGS" "Z" (.int zc)) (hzc : ¬ zc = 0) :
    MetFree l (⟨"java/lang/String", "length", "()I"⟩ : MethodName) (head1 (Jvm.Cond.code (⟨"java/lang/String", "length", "()I"⟩ : MethodName) jdk_42_method_54_code 1 (some .int) :: ws) ({ frames := 1, cells := 0, slots := 0, locals := 13 } : Room)) (fun av_ U => av_ = #[(.ref x)] ∧ Z.Warmed39 U.vm ∧ U.heap = h0) (fun _ _ _ _ _ => True) (fun _ U o_ U' => ∃ v L, o_ = .returned v ∧ Q_len Z x t kt cd N2 vs cs zc h0 n0 v U'.heap L ∧ FrameEnd U o_ U' L ({ frames := 1, cells := 0, slots := 0, locals := 13 } : Room).cells ({ frames := 1, cells := 0, slots := 0, locals := 13 } : Room).slots) := by
  refine MetFree.of_bodySF (plainFor_of_name pn_2) hisR ?_
  intro p e s m args below meth c s₁ Bd hml0 hP hK
  obtain ⟨rfl, hZ, hh⟩ := hP
  have hx := Bd.exec
  have hby := Bd.bytes
  have hml : c.maxLocals = 1 := hml0
  have hown : s.vm.findClass "java/lang/String" = some m.cls := findClass_of_methodNamed Bd.named
  have hnm := (name_of_methodNamed Bd.named Bd.method).1
  have hlk := own_lk Bd
  have hret := Bd.returns
  have X0 : Stand p l e ({ frames := 1, cells := 0, slots := 0, locals := 13 } : Room) s m #[(.ref x)] below meth c s₁ [] 0 0 := Stand.of_body Bd
  have e0 : s₁.heap = h0 := by rw [← hh, Bd.state]; rfl
  have N0 := Fr.nil n0
  show own_Goes p e below s (Q_len Z x t kt cd N2 vs cs zc h0 n0) ({ frames := 1, cells := 0, slots := 0, locals := 13 } : Room).cells ({ frames := 1, cells := 0, slots := 0, locals := 13 } : Room).slots (s₁.setTop (entryFrame m #[(.ref x)] 1))
  refine own_go (fun _ ww => castTop (ef_len m x t kt cd N2 vs cs zc) ww) ?_
  show own_Goes _ _ _ _ _ _ _ (s₁.setTop (mkF m 0 #[.val (.ref x)] []))
  rcases hcd with ⟨rfl, rfl, rfl, hlat⟩ | ⟨rfl, rfl, rfl⟩
  ·
    show own_Goes _ _ _ _ _ _ _ (s₁.setTop (mkF m 0 #[.val (.ref x)] []))
    refine own_go (fun _ ww => XS.aloadN X0.here hx rfl (hb hby d10_0) rfl rfl ww) ?_
    show own_Goes _ _ _ _ _ _ _ (s₁.setTop (mkF m 1 #[.val (.ref x)] [(.ref x)]))
    obtain ⟨T254, X254, e254, st254⟩ := getF X0 hx hZ hown (host := "") (Or.inl (hw _ (List.mem_of_getElem? (i := 35) rfl))) Via.refl e0 Fv (g := (mkF m 1 #[.val (.ref x)] [(.ref x)])) rfl rfl (hb hby d10_1)
    refine own_go st254 ?_
    show own_Goes _ _ _ _ _ _ _ (T254.setTop (mkF m 4 #[.val (.ref x)] [(.ref t)]))
    obtain ⟨cl255, Ar255, -, S255, Ng255, -, -⟩ := id Kt
    refine own_go (fun _ ww => X254.arraylength hx (by rw [e254]; exact Ar255.1) (State.isArrayOf_alike hZ.alike Ar255.2.1) (g := (mkF m 4 #[.val (.ref x)] [(.ref t)])) rfl rfl (hb hby d10_4) _ ww) ?_
    rw [len_of S255 Ng255]
    show own_Goes _ _ _ _ _ _ _ (T254.setTop (mkF m 5 #[.val (.ref x)] [(.int (6 : Int32))]))
    refine own_go (fun _ ww => XS.aloadN X254.here hx rfl (hb hby d10_5) rfl rfl ww) ?_
    show own_Goes _ _ _ _ _ _ _ (T254.setTop (mkF m 6 #[.val (.ref x)] [(.ref x), (.int (6 : Int32))]))
    obtain ⟨cq256, kq256, q256a, q256b, q256c⟩ := isOf hZ e254 Ex
    obtain ⟨_, _, ⟨T256, L256, k256, n256⟩, -, X256, ⟨Lc256, hQ256, l256, y256, z256⟩, st256⟩ := X254.virtualBack hx (y := (⟨"java/lang/String", "coder", "()B"⟩ : MethodName)) (z := (⟨"java/lang/String", "coder", "()B"⟩ : MethodName)) hown (mvT hZ (hw _ (List.mem_of_getElem? (i := 54) rfl))) (mvT hZ (hw _ (List.mem_of_getElem? (i := 55) rfl))) (notFace_of_selects (args := #[]) (mvT hZ (hw _ (List.mem_of_getElem? (i := 57) rfl)))) (mvT hZ (hw _ (List.mem_of_getElem? (i := 57) rfl))) (mvT hZ (hw _ (List.mem_of_getElem? (i := 56) rfl))) (by decide) (backOf (W := 1) (rm_cdr0 l Z a0 hw [] x zc h0 n0 O0 Fc SC hzc) hZ (hw _ (List.mem_of_getElem? (i := 58) rfl)) (hw _ (List.mem_of_getElem? (i := 10) rfl)) (by decide) (by decide)) q256a q256c (g := (mkF m 6 #[.val (.ref x)] [(.ref x), (.int (6 : Int32))])) rfl (by rw [hml]; rfl) (Steps.refl _) (argsL := []) (rest := [(.int (6 : Int32))]) (lenOf pd_8 rfl) rfl (by show 2 * 0 + _ ≤ _; exact Nat.le_of_eq rfl) (hb hby d10_6) (fun _ _ => ⟨rfl, e254, (by decide : 0 + 0 ≤ _), (by decide : 0 + 0 ≤ _)⟩)
    dsimp only [Pt.U, Pt.locs, Pt.cells, Pt.slots] at X256 l256 y256 z256 st256 hQ256
    subst l256 y256 z256
    obtain ⟨rfl, N256q, e256⟩ := hQ256
    have N256 := Fr.app N0 N256q
    refine own_go (fun _ ww => Steps.trans st256 ww) ?_
    show own_Goes _ _ _ _ _ _ _ (T256.setTop (mkF m 9 #[.val (.ref x)] [(.int (0 : Int32)), (.int (6 : Int32))]))
    refine own_go (fun _ ww => XT.ishr X256.here hx rfl (hb hby d10_9) rfl ww) ?_
    show own_Goes _ _ _ _ _ _ _ (T256.setTop (mkF m 10 #[.val (.ref x)] [(.int ((6 : Int32) >>> ((0 : Int32) &&& 31)))]))
    rw [(by decide : ((6 : Int32) >>> ((0 : Int32) &&& 31)) = (6 : Int32))]
    show own_Goes _ _ _ _ _ _ _ (T256.setTop (mkF m 10 #[.val (.ref x)] [(.int (6 : Int32))]))
    exact own_out X256 hlk (v := some (.int (6 : Int32))) (fun h => by rw [hret] at h; cases h) (fun fs hr => retOut X256 hx (t := .int) hret rfl (Or.inl ⟨rfl, by simp, _, rfl⟩) (hb hby d10_10) hr) e256 ⟨rfl, N256, rfl⟩ (by decide) (by decide)
  ·
    show own_Goes _ _ _ _ _ _ _ (s₁.setTop (mkF m 0 #[.val (.ref x)] []))
    refine own_go (fun _ ww => XS.aloadN X0.here hx rfl (hb hby d10_0) rfl rfl ww) ?_
    show own_Goes _ _ _ _ _ _ _ (s₁.setTop (mkF m 1 #[.val (.ref x)] [(.ref x)]))
    obtain ⟨T257, X257, e257, st257⟩ := getF X0 hx hZ hown (host := "") (Or.inl (hw _ (List.mem_of_getElem? (i := 35) rfl))) Via.refl e0 Fv (g := (mkF m 1 #[.val (.ref x)] [(.ref x)])) rfl rfl (hb hby d10_1)
    refine own_go st257 ?_
    show own_Goes _ _ _ _ _ _ _ (T257.setTop (mkF m 4 #[.val (.ref x)] [(.ref t)]))
    obtain ⟨cl258, Ar258, -, S258, Ng258, -, -⟩ := id Kt
    refine own_go (fun _ ww => X257.arraylength hx (by rw [e257]; exact Ar258.1) (State.isArrayOf_alike hZ.alike Ar258.2.1) (g := (mkF m 4 #[.val (.ref x)] [(.ref t)])) rfl rfl (hb hby d10_4) _ ww) ?_
    rw [len_of S258 Ng258]
    show own_Goes _ _ _ _ _ _ _ (T257.setTop (mkF m 5 #[.val (.ref x)] [(.int (12 : Int32))]))
    refine own_go (fun _ ww => XS.aloadN X257.here hx rfl (hb hby d10_5) rfl rfl ww) ?_
    show own_Goes _ _ _ _ _ _ _ (T257.setTop (mkF m 6 #[.val (.ref x)] [(.ref x), (.int (12 : Int32))]))
    obtain ⟨cq259, kq259, q259a, q259b, q259c⟩ := isOf hZ e257 Ex
    obtain ⟨_, _, ⟨T259, L259, k259, n259⟩, -, X259, ⟨Lc259, hQ259, l259, y259, z259⟩, st259⟩ := X257.virtualBack hx (y := (⟨"java/lang/String", "coder", "()B"⟩ : MethodName)) (z := (⟨"java/lang/String", "coder", "()B"⟩ : MethodName)) hown (mvT hZ (hw _ (List.mem_of_getElem? (i := 54) rfl))) (mvT hZ (hw _ (List.mem_of_getElem? (i := 55) rfl))) (notFace_of_selects (args := #[]) (mvT hZ (hw _ (List.mem_of_getElem? (i := 57) rfl)))) (mvT hZ (hw _ (List.mem_of_getElem? (i := 57) rfl))) (mvT hZ (hw _ (List.mem_of_getElem? (i := 56) rfl))) (by decide) (backOf (W := 1) (rm_cdr1 l Z a0 hw [] x zc h0 n0 O0 Fc SC hzc) hZ (hw _ (List.mem_of_getElem? (i := 58) rfl)) (hw _ (List.mem_of_getElem? (i := 10) rfl)) (by decide) (by decide)) q259a q259c (g := (mkF m 6 #[.val (.ref x)] [(.ref x), (.int (12 : Int32))])) rfl (by rw [hml]; rfl) (Steps.refl _) (argsL := []) (rest := [(.int (12 : Int32))]) (lenOf pd_8 rfl) rfl (by show 2 * 0 + _ ≤ _; exact Nat.le_of_eq rfl) (hb hby d10_6) (fun _ _ => ⟨rfl, e257, (by decide : 0 + 0 ≤ _), (by decide : 0 + 0 ≤ _)⟩)
    dsimp only [Pt.U, Pt.locs, Pt.cells, Pt.slots] at X259 l259 y259 z259 st259 hQ259
    subst l259 y259 z259
    obtain ⟨rfl, N259q, e259⟩ := hQ259
    have N259 := Fr.app N0 N259q
    refine own_go (fun _ ww => Steps.trans st259 ww) ?_
    show own_Goes _ _ _ _ _ _ _ (T259.setTop (mkF m 9 #[.val (.ref x)] [(.int (1 : Int32)), (.int (12 : Int32))]))
    refine own_go (fun _ ww => XT.ishr X259.here hx rfl (hb hby d10_9) rfl ww) ?_
    show own_Goes _ _ _ _ _ _ _ (T259.setTop (mkF m 10 #[.val (.ref x)] [(.int ((12 : Int32) >>> ((1 : Int32) &&& 31)))]))
    rw [(by decide : ((12 : Int32) >>> ((1 : Int32) &&& 31)) = (6 : Int32))]
    show own_Goes _ _ _ _ _ _ _ (T259.setTop (mkF m 10 #[.val (.ref x)] [(.int (6 : Int32))]))
    exact own_out X259 hlk (v := some (.int (6 : Int32))) (fun h => by rw [hret] at h; cases h) (fun fs hr => retOut X259 hx (t := .int) hret rfl (Or.inl ⟨rfl, by simp, _, rfl⟩) (hb hby d10_10) hr) e259 ⟨rfl, N259, rfl⟩ (by decide) (by decide)
theorem d27_0 : decode jdk_41_method_11_code 0 = .ok (.iload_n 0, 1) := by decide +kernel
theorem d27_1 : decode jdk_41_method_11_code 1 = .ok (.ifCond .lt 8, 3) := by decide +kernel
theorem d27_4 : decode jdk_41_method_11_code 4 = .ok (.iload_n 0, 1) := by decide +kernel
theorem d27_5 : decode jdk_41_method_11_code 5 = .ok (.iload_n 1, 1) := by decide +kernel
theorem d27_6 : decode jdk_41_method_11_code 6 = .ok (.if_icmp .lt 10, 3) := by decide +kernel
theorem d27_16 : decode jdk_41_method_11_code 16 = .ok (.iload_n 0, 1) := by decide +kernel
theorem d27_17 : decode jdk_41_method_11_code 17 = .ok (.ireturn, 1) := by decide +kernel
theorem ef_pci (m : MethodId) (i_ : Int32) (fm : Value) (rfm : (fm : Value).isRef = true) : entryFrame m #[(.int i_), (.int (6 : Int32)), fm] 3 = mkF m 0 #[.val (.int i_), .val (.int (6 : Int32)), .val fm] [] := by
  rcases ref_cases rfm with rfl | ⟨_, rfl⟩ <;> first | (simp [entryFrame, mkF, argsToLocals, Value.category]; done) | rfl
def Q_pci (Z : State) (i_ : Int32) (fm : Value) (h0 : Heap) (n0 : Nat) (v : Option Value) (h : Heap) (L : List Loc) : Prop := v = some (.int i_) ∧ Fr n0 L ∧ h = h0
set_option maxRecDepth 65536 in
set_option maxHeartbeats 40000000 in
theorem rm_pci (l : Launch) (Z : State) (a0 : Array Value) (hw : ∀ d ∈ tables_1, d.before a0 Z = true) (ws : List Jvm.Cond) (i_ : Int32) (fm : Value) (h0 : Heap) (n0 : Nat) (O0 : Old Z n0 h0) (rfm : fm.isRef = true) (h1 : ¬ i_ < 0) (h2 : i_ < 6) :
    MetFree l (⟨"jdk/internal/util/Preconditions", "checkIndex", "(IILjava/util/function/BiFunction;)I"⟩ : MethodName) (head1 (Jvm.Cond.code (⟨"jdk/internal/util/Preconditions", "checkIndex", "(IILjava/util/function/BiFunction;)I"⟩ : MethodName) jdk_41_method_11_code 3 (some .int) :: ws) ({ frames := 0, cells := 0, slots := 0, locals := 0 } : Room)) (fun av_ U => av_ = #[(.int i_), (.int (6 : Int32)), fm] ∧ Z.Warmed39 U.vm ∧ U.heap = h0) (fun _ _ _ _ _ => True) (fun _ U o_ U' => ∃ v L, o_ = .returned v ∧ Q_pci Z i_ fm h0 n0 v U'.heap L ∧ FrameEnd U o_ U' L ({ frames := 0, cells := 0, slots := 0, locals := 0 } : Room).cells ({ frames := 0, cells := 0, slots := 0, locals := 0 } : Room).slots) := by
  refine MetFree.of_bodySF (plainFor_of_name pn_3) hisR ?_
  intro p e s m args below meth c s₁ Bd hml0 hP hK
  obtain ⟨rfl, hZ, hh⟩ := hP
  have hx := Bd.exec
  have hby := Bd.bytes
  have hml : c.maxLocals = 3 := hml0
  have hown : s.vm.findClass "jdk/internal/util/Preconditions" = some m.cls := findClass_of_methodNamed Bd.named
  have hnm := (name_of_methodNamed Bd.named Bd.method).1
  have hlk := own_lk Bd
  have hret := Bd.returns
  have X0 : Stand p l e ({ frames := 0, cells := 0, slots := 0, locals := 0 } : Room) s m #[(.int i_), (.int (6 : Int32)), fm] below meth c s₁ [] 0 0 := Stand.of_body Bd
  have e0 : s₁.heap = h0 := by rw [← hh, Bd.state]; rfl
  have N0 := Fr.nil n0
  show own_Goes p e below s (Q_pci Z i_ fm h0 n0) ({ frames := 0, cells := 0, slots := 0, locals := 0 } : Room).cells ({ frames := 0, cells := 0, slots := 0, locals := 0 } : Room).slots (s₁.setTop (entryFrame m #[(.int i_), (.int (6 : Int32)), fm] 3))
  refine own_go (fun _ ww => castTop (ef_pci m i_ fm rfm) ww) ?_
  show own_Goes _ _ _ _ _ _ _ (s₁.setTop (mkF m 0 #[.val (.int i_), .val (.int (6 : Int32)), .val fm] []))
  refine own_go (fun _ ww => XS.iloadN X0.here hx rfl (hb hby d27_0) rfl  ww) ?_
  show own_Goes _ _ _ _ _ _ _ (s₁.setTop (mkF m 1 #[.val (.int i_), .val (.int (6 : Int32)), .val fm] [(.int i_)]))
  refine own_go (fun _ ww => XS.ifNo X0.here hx rfl (hb hby d27_1) rfl (own_if .lt (flt h1).1) ww) ?_
  show own_Goes _ _ _ _ _ _ _ (s₁.setTop (mkF m 4 #[.val (.int i_), .val (.int (6 : Int32)), .val fm] []))
  refine own_go (fun _ ww => XS.iloadN X0.here hx rfl (hb hby d27_4) rfl  ww) ?_
  show own_Goes _ _ _ _ _ _ _ (s₁.setTop (mkF m 5 #[.val (.int i_), .val (.int (6 : Int32)), .val fm] [(.int i_)]))
  refine own_go (fun _ ww => XS.iloadN X0.here hx rfl (hb hby d27_5) rfl  ww) ?_
  show own_Goes _ _ _ _ _ _ _ (s₁.setTop (mkF m 6 #[.val (.int i_), .val (.int (6 : Int32)), .val fm] [(.int (6 : Int32)), (.int i_)]))
  refine own_go (fun _ ww => XS.icmpYes X0.here hx rfl (pc0 := 6) (pc' := 16) rfl (hb hby d27_6) rfl (tlt h2).1 (by decide) (by decide) ww) ?_
  show own_Goes _ _ _ _ _ _ _ (s₁.setTop (mkF m 16 #[.val (.int i_), .val (.int (6 : Int32)), .val fm] []))
  refine own_go (fun _ ww => XS.iloadN X0.here hx rfl (hb hby d27_16) rfl  ww) ?_
  show own_Goes _ _ _ _ _ _ _ (s₁.setTop (mkF m 17 #[.val (.int i_), .val (.int (6 : Int32)), .val fm] [(.int i_)]))
  exact own_out X0 hlk (v := some (.int i_)) (fun h => by rw [hret] at h; cases h) (fun fs hr => retOut X0 hx (t := .int) hret rfl (Or.inl ⟨rfl, by simp, _, rfl⟩) (hb hby d27_17) hr) e0 ⟨rfl, N0, rfl⟩ (by decide) (by decide)
theorem d26_0 : decode jdk_42_method_155_code 0 = .ok (.iload_n 0, 1) := by decide +kernel
theorem d26_1 : decode jdk_42_method_155_code 1 = .ok (.iload_n 1, 1) := by decide +kernel
theorem d26_2 : decode jdk_42_method_155_code 2 = .ok (.getstatic 1053, 3) := by decide +kernel
theorem d26_5 : decode jdk_42_method_155_code 5 = .ok (.invokestatic 1059, 3) := by decide +kernel
theorem d26_8 : decode jdk_42_method_155_code 8 = .ok (.pop, 1) := by decide +kernel
theorem d26_9 : decode jdk_42_method_155_code 9 = .ok (.return_, 1) := by decide +kernel
theorem ef_sci (m : MethodId) (i_ : Int32) (fm : Value) : entryFrame m #[(.int i_), (.int (6 : Int32))] 2 = mkF m 0 #[.val (.int i_), .val (.int (6 : Int32))] [] := by
  first | (simp [entryFrame, mkF, argsToLocals, Value.category]; done) | rfl
def Q_sci (Z : State) (i_ : Int32) (fm : Value) (h0 : Heap) (n0 : Nat) (v : Option Value) (h : Heap) (L : List Loc) : Prop := v = none ∧ Fr n0 L ∧ h = h0
set_option maxRecDepth 65536 in
set_option maxHeartbeats 40000000 in
theorem rm_sci (l : Launch) (Z : State) (a0 : Array Value) (hw : ∀ d ∈ tables_1, d.before a0 Z = true) (ws : List Jvm.Cond) (i_ : Int32) (fm : Value) (h0 : Heap) (n0 : Nat) (O0 : Old Z n0 h0) (rfm : fm.isRef = true) (SF : Sta Z Z.heap "jdk/internal/util/Preconditions" "SIOOBE_FORMATTER" "Ljava/util/function/BiFunction;" fm) (h1 : ¬ i_ < 0) (h2 : i_ < 6) :
    MetFree l (⟨"java/lang/String", "checkIndex", "(II)V"⟩ : MethodName) (head1 (Jvm.Cond.code (⟨"java/lang/String", "checkIndex", "(II)V"⟩ : MethodName) jdk_42_method_155_code 2 none :: ws) ({ frames := 1, cells := 0, slots := 0, locals := 14 } : Room)) (fun av_ U => av_ = #[(.int i_), (.int (6 : Int32))] ∧ Z.Warmed39 U.vm ∧ U.heap = h0) (fun _ _ _ _ _ => True) (fun _ U o_ U' => ∃ v L, o_ = .returned v ∧ Q_sci Z i_ fm h0 n0 v U'.heap L ∧ FrameEnd U o_ U' L ({ frames := 1, cells := 0, slots := 0, locals := 14 } : Room).cells ({ frames := 1, cells := 0, slots := 0, locals := 14 } : Room).slots) := by
  refine MetFree.of_bodySF (plainFor_of_name pn_2) hisR ?_
  intro p e s m args below meth c s₁ Bd hml0 hP hK
  obtain ⟨rfl, hZ, hh⟩ := hP
  have hx := Bd.exec
  have hby := Bd.bytes
  have hml : c.maxLocals = 2 := hml0
  have hown : s.vm.findClass "java/lang/String" = some m.cls := findClass_of_methodNamed Bd.named
  have hnm := (name_of_methodNamed Bd.named Bd.method).1
  have hlk := own_lk Bd
  have hret := Bd.returns
  have X0 : Stand p l e ({ frames := 1, cells := 0, slots := 0, locals := 14 } : Room) s m #[(.int i_), (.int (6 : Int32))] below meth c s₁ [] 0 0 := Stand.of_body Bd
  have e0 : s₁.heap = h0 := by rw [← hh, Bd.state]; rfl
  have N0 := Fr.nil n0
  show own_Goes p e below s (Q_sci Z i_ fm h0 n0) ({ frames := 1, cells := 0, slots := 0, locals := 14 } : Room).cells ({ frames := 1, cells := 0, slots := 0, locals := 14 } : Room).slots (s₁.setTop (entryFrame m #[(.int i_), (.int (6 : Int32))] 2))
  refine own_go (fun _ ww => castTop (ef_sci m i_ fm) ww) ?_
  show own_Goes _ _ _ _ _ _ _ (s₁.setTop (mkF m 0 #[.val (.int i_), .val (.int (6 : Int32))] []))
  refine own_go (fun _ ww => XS.iloadN X0.here hx rfl (hb hby d26_0) rfl  ww) ?_
  show own_Goes _ _ _ _ _ _ _ (s₁.setTop (mkF m 1 #[.val (.int i_), .val (.int (6 : Int32))] [(.int i_)]))
  refine own_go (fun _ ww => XS.iloadN X0.here hx rfl (hb hby d26_1) rfl  ww) ?_
  show own_Goes _ _ _ _ _ _ _ (s₁.setTop (mkF m 2 #[.val (.int i_), .val (.int (6 : Int32))] [(.int (6 : Int32)), (.int i_)]))
  obtain ⟨T260, X260, e260, st260⟩ := getS X0 hx hZ hown (host := "") (hw _ (List.mem_of_getElem? (i := 122) rfl)) Via.refl e0 (SF.ext O0.2) (g := (mkF m 2 #[.val (.int i_), .val (.int (6 : Int32))] [(.int (6 : Int32)), (.int i_)])) rfl (hb hby d26_2)
  refine own_go st260 ?_
  show own_Goes _ _ _ _ _ _ _ (T260.setTop (mkF m 5 #[.val (.int i_), .val (.int (6 : Int32))] [fm, (.int (6 : Int32)), (.int i_)]))
  obtain ⟨_, _, ⟨T261, L261, k261, n261⟩, -, X261, ⟨Lc261, hQ261, l261, y261, z261⟩, st261⟩ := Jvm.LawKit.callS X260 hx (y := (⟨"jdk/internal/util/Preconditions", "checkIndex", "(IILjava/util/function/BiFunction;)I"⟩ : MethodName)) hown (mvT hZ (hw _ (List.mem_of_getElem? (i := 123) rfl))) (mvT hZ (hw _ (List.mem_of_getElem? (i := 124) rfl))) (mvT hZ (hw _ (List.mem_of_getElem? (i := 65) rfl))) (mvT hZ (hw _ (List.mem_of_getElem? (i := 125) rfl))) (by decide) (backOf (W := 0) (rm_pci l Z a0 hw [] i_ fm h0 n0 O0 rfm h1 h2) hZ (hw _ (List.mem_of_getElem? (i := 125) rfl)) (hw _ (List.mem_of_getElem? (i := 65) rfl)) (by decide) (by decide)) (g := (mkF m 5 #[.val (.int i_), .val (.int (6 : Int32))] [fm, (.int (6 : Int32)), (.int i_)])) rfl (by rw [hml]; rfl) (argsL := [(.int i_), (.int (6 : Int32)), fm]) (rest := []) (lenOf pd_9 rfl) rfl (by show 2 * 0 + _ ≤ _; exact Nat.le_of_eq rfl) (hb hby d26_5) (fun _ _ => ⟨rfl, e260, (by decide : 0 + 0 ≤ _), (by decide : 0 + 0 ≤ _)⟩)
  dsimp only [Pt.U, Pt.locs, Pt.cells, Pt.slots] at X261 l261 y261 z261 st261 hQ261
  subst l261 y261 z261
  obtain ⟨rfl, N261q, e261⟩ := hQ261
  have N261 := Fr.app N0 N261q
  refine own_go st261 ?_
  show own_Goes _ _ _ _ _ _ _ (T261.setTop (mkF m 8 #[.val (.int i_), .val (.int (6 : Int32))] [(.int i_)]))
  refine own_go (fun _ ww => XT.pop X261.here hx rfl (hb hby d26_8) rfl rfl ww) ?_
  show own_Goes _ _ _ _ _ _ _ (T261.setTop (mkF m 9 #[.val (.int i_), .val (.int (6 : Int32))] []))
  exact own_out X261 hlk (v := none) (fun _ => rfl) (fun fs hr => X261.returnOut hx hret (hb hby d26_9) hr) e261 ⟨rfl, N261, rfl⟩ (by decide) (by decide)
theorem d25_0 : decode jdk_52_method_6_code 0 = .ok (.aload_n 0, 1) := by decide +kernel
theorem d25_1 : decode jdk_52_method_6_code 1 = .ok (.arraylength, 1) := by decide +kernel
theorem d25_2 : decode jdk_52_method_6_code 2 = .ok (.iconst 1, 1) := by decide +kernel
theorem d25_3 : decode jdk_52_method_6_code 3 = .ok (.ishr, 1) := by decide +kernel
theorem d25_4 : decode jdk_52_method_6_code 4 = .ok (.ireturn, 1) := by decide +kernel
theorem ef_u16l (m : MethodId) (t : Addr) (kt : ClassId) (vs : List Value) : entryFrame m #[(.ref t)] 1 = mkF m 0 #[.val (.ref t)] [] := by
  first | (simp [entryFrame, mkF, argsToLocals, Value.category]; done) | rfl
def Q_u16l (Z : State) (t : Addr) (kt : ClassId) (vs : List Value) (h0 : Heap) (n0 : Nat) (v : Option Value) (h : Heap) (L : List Loc) : Prop := v = some (.int (6 : Int32)) ∧ Fr n0 L ∧ h = h0
set_option maxRecDepth 65536 in
set_option maxHeartbeats 40000000 in
theorem rm_u16l (l : Launch) (Z : State) (a0 : Array Value) (hw : ∀ d ∈ tables_1, d.before a0 Z = true) (ws : List Jvm.Cond) (t : Addr) (kt : ClassId) (vs : List Value) (h0 : Heap) (n0 : Nat) (O0 : Old Z n0 h0) (Kt : Arv Z h0 t kt .byte (12 : Int32) vs (.int (0 : Int32))) :
    MetFree l (⟨"java/lang/StringUTF16", "length", "([B)I"⟩ : MethodName) (head1 (Jvm.Cond.code (⟨"java/lang/StringUTF16", "length", "([B)I"⟩ : MethodName) jdk_52_method_6_code 1 (some .int) :: ws) ({ frames := 0, cells := 0, slots := 0, locals := 0 } : Room)) (fun av_ U => av_ = #[(.ref t)] ∧ Z.Warmed39 U.vm ∧ U.heap = h0) (fun _ _ _ _ _ => True) (fun _ U o_ U' => ∃ v L, o_ = .returned v ∧ Q_u16l Z t kt vs h0 n0 v U'.heap L ∧ FrameEnd U o_ U' L ({ frames := 0, cells := 0, slots := 0, locals := 0 } : Room).cells ({ frames := 0, cells := 0, slots := 0, locals := 0 } : Room).slots) := by
  refine MetFree.of_bodySF (plainFor_of_name pn_1) hisR ?_
  intro p e s m args below meth c s₁ Bd hml0 hP hK
  obtain ⟨rfl, hZ, hh⟩ := hP
  have hx := Bd.exec
  have hby := Bd.bytes
  have hml : c.maxLocals = 1 := hml0
  have hown : s.vm.findClass "java/lang/StringUTF16" = some m.cls := findClass_of_methodNamed Bd.named
  have hnm := (name_of_methodNamed Bd.named Bd.method).1
  have hlk := own_lk Bd
  have hret := Bd.returns
  have X0 : Stand p l e ({ frames := 0, cells := 0, slots := 0, locals := 0 } : Room) s m #[(.ref t)] below meth c s₁ [] 0 0 := Stand.of_body Bd
  have e0 : s₁.heap = h0 := by rw [← hh, Bd.state]; rfl
  have N0 := Fr.nil n0
  show own_Goes p e below s (Q_u16l Z t kt vs h0 n0) ({ frames := 0, cells := 0, slots := 0, locals := 0 } : Room).cells ({ frames := 0, cells := 0, slots := 0, locals := 0 } : Room).slots (s₁.setTop (entryFrame m #[(.ref t)] 1))
  refine own_go (fun _ ww => castTop (ef_u16l m t kt vs) ww) ?_
  show own_Goes _ _ _ _ _ _ _ (s₁.setTop (mkF m 0 #[.val (.ref t)] []))
  refine own_go (fun _ ww => XS.aloadN X0.here hx rfl (hb hby d25_0) rfl rfl ww) ?_
  show own_Goes _ _ _ _ _ _ _ (s₁.setTop (mkF m 1 #[.val (.ref t)] [(.ref t)]))
  obtain ⟨cl262, Ar262, -, S262, Ng262, -, -⟩ := id Kt
  refine own_go (fun _ ww => X0.arraylength hx (by rw [e0]; exact Ar262.1) (State.isArrayOf_alike hZ.alike Ar262.2.1) (g := (mkF m 1 #[.val (.ref t)] [(.ref t)])) rfl rfl (hb hby d25_1) _ ww) ?_
  rw [len_of S262 Ng262]
  show own_Goes _ _ _ _ _ _ _ (s₁.setTop (mkF m 2 #[.val (.ref t)] [(.int (12 : Int32))]))
  refine own_go (fun _ ww => XS.iconst X0.here hx rfl (hb hby d25_2) ww) ?_
  show own_Goes _ _ _ _ _ _ _ (s₁.setTop (mkF m 3 #[.val (.ref t)] [(.int (1 : Int32)), (.int (12 : Int32))]))
  refine own_go (fun _ ww => XT.ishr X0.here hx rfl (hb hby d25_3) rfl ww) ?_
  show own_Goes _ _ _ _ _ _ _ (s₁.setTop (mkF m 4 #[.val (.ref t)] [(.int ((12 : Int32) >>> ((1 : Int32) &&& 31)))]))
  rw [(by decide : ((12 : Int32) >>> ((1 : Int32) &&& 31)) = (6 : Int32))]
  show own_Goes _ _ _ _ _ _ _ (s₁.setTop (mkF m 4 #[.val (.ref t)] [(.int (6 : Int32))]))
  exact own_out X0 hlk (v := some (.int (6 : Int32))) (fun h => by rw [hret] at h; cases h) (fun fs hr => retOut X0 hx (t := .int) hret rfl (Or.inl ⟨rfl, by simp, _, rfl⟩) (hb hby d25_4) hr) e0 ⟨rfl, N0, rfl⟩ (by decide) (by decide)
theorem d24_0 : decode jdk_52_method_91_code 0 = .ok (.iload_n 0, 1) := by decide +kernel
theorem d24_1 : decode jdk_52_method_91_code 1 = .ok (.aload_n 1, 1) := by decide +kernel
theorem d24_2 : decode jdk_52_method_91_code 2 = .ok (.invokestatic 48, 3) := by decide +kernel
theorem d24_5 : decode jdk_52_method_91_code 5 = .ok (.invokestatic 414, 3) := by decide +kernel
theorem d24_8 : decode jdk_52_method_91_code 8 = .ok (.return_, 1) := by decide +kernel
theorem ef_uci (m : MethodId) (t : Addr) (kt : ClassId) (cs : List Int32) (j : Nat) (fm : Value) : entryFrame m #[(.int (Int32.ofNat j)), (.ref t)] 2 = mkF m 0 #[.val (.int (Int32.ofNat j)), .val (.ref t)] [] := by
  first | (simp [entryFrame, mkF, argsToLocals, Value.category]; done) | rfl
def Q_uci (Z : State) (t : Addr) (kt : ClassId) (cs : List Int32) (j : Nat) (fm : Value) (h0 : Heap) (n0 : Nat) (v : Option Value) (h : Heap) (L : List Loc) : Prop := v = none ∧ Fr n0 L ∧ h = h0
set_option maxRecDepth 65536 in
set_option maxHeartbeats 40000000 in
theorem rm_uci (l : Launch) (Z : State) (a0 : Array Value) (hw : ∀ d ∈ tables_1, d.before a0 Z = true) (ws : List Jvm.Cond) (t : Addr) (kt : ClassId) (cs : List Int32) (j : Nat) (fm : Value) (h0 : Heap) (n0 : Nat) (O0 : Old Z n0 h0) (Kt : Arv Z h0 t kt .byte (12 : Int32) (StrChars.Road.wideBytes cs) (.int (0 : Int32))) (hj : j < 6) (rfm : fm.isRef = true) (SF : Sta Z Z.heap "jdk/internal/util/Preconditions" "SIOOBE_FORMATTER" "Ljava/util/function/BiFunction;" fm) :
    MetFree l (⟨"java/lang/StringUTF16", "checkIndex", "(I[B)V"⟩ : MethodName) (head1 (Jvm.Cond.code (⟨"java/lang/StringUTF16", "checkIndex", "(I[B)V"⟩ : MethodName) jdk_52_method_91_code 2 none :: ws) ({ frames := 2, cells := 0, slots := 0, locals := 27 } : Room)) (fun av_ U => av_ = #[(.int (Int32.ofNat j)), (.ref t)] ∧ Z.Warmed39 U.vm ∧ U.heap = h0) (fun _ _ _ _ _ => True) (fun _ U o_ U' => ∃ v L, o_ = .returned v ∧ Q_uci Z t kt cs j fm h0 n0 v U'.heap L ∧ FrameEnd U o_ U' L ({ frames := 2, cells := 0, slots := 0, locals := 27 } : Room).cells ({ frames := 2, cells := 0, slots := 0, locals := 27 } : Room).slots) := by
  refine MetFree.of_bodySF (plainFor_of_name pn_1) hisR ?_
  intro p e s m args below meth c s₁ Bd hml0 hP hK
  obtain ⟨rfl, hZ, hh⟩ := hP
  have hx := Bd.exec
  have hby := Bd.bytes
  have hml : c.maxLocals = 2 := hml0
  have hown : s.vm.findClass "java/lang/StringUTF16" = some m.cls := findClass_of_methodNamed Bd.named
  have hnm := (name_of_methodNamed Bd.named Bd.method).1
  have hlk := own_lk Bd
  have hret := Bd.returns
  have X0 : Stand p l e ({ frames := 2, cells := 0, slots := 0, locals := 27 } : Room) s m #[(.int (Int32.ofNat j)), (.ref t)] below meth c s₁ [] 0 0 := Stand.of_body Bd
  have e0 : s₁.heap = h0 := by rw [← hh, Bd.state]; rfl
  have N0 := Fr.nil n0
  show own_Goes p e below s (Q_uci Z t kt cs j fm h0 n0) ({ frames := 2, cells := 0, slots := 0, locals := 27 } : Room).cells ({ frames := 2, cells := 0, slots := 0, locals := 27 } : Room).slots (s₁.setTop (entryFrame m #[(.int (Int32.ofNat j)), (.ref t)] 2))
  refine own_go (fun _ ww => castTop (ef_uci m t kt cs j fm) ww) ?_
  show own_Goes _ _ _ _ _ _ _ (s₁.setTop (mkF m 0 #[.val (.int (Int32.ofNat j)), .val (.ref t)] []))
  refine own_go (fun _ ww => XS.iloadN X0.here hx rfl (hb hby d24_0) rfl  ww) ?_
  show own_Goes _ _ _ _ _ _ _ (s₁.setTop (mkF m 1 #[.val (.int (Int32.ofNat j)), .val (.ref t)] [(.int (Int32.ofNat j))]))
  refine own_go (fun _ ww => XS.aloadN X0.here hx rfl (hb hby d24_1) rfl rfl ww) ?_
  show own_Goes _ _ _ _ _ _ _ (s₁.setTop (mkF m 2 #[.val (.int (Int32.ofNat j)), .val (.ref t)] [(.ref t), (.int (Int32.ofNat j))]))
  obtain ⟨_, _, ⟨T263, L263, k263, n263⟩, -, X263, ⟨Lc263, hQ263, l263, y263, z263⟩, st263⟩ := Jvm.LawKit.callS X0 hx (y := (⟨"java/lang/StringUTF16", "length", "([B)I"⟩ : MethodName)) hown (mvT hZ (hw _ (List.mem_of_getElem? (i := 116) rfl))) (mvT hZ (hw _ (List.mem_of_getElem? (i := 117) rfl))) (mvT hZ (hw _ (List.mem_of_getElem? (i := 24) rfl))) (mvT hZ (hw _ (List.mem_of_getElem? (i := 118) rfl))) (by decide) (backOf (W := 1) (rm_u16l l Z a0 hw [] t kt (StrChars.Road.wideBytes cs) h0 n0 O0 Kt) hZ (hw _ (List.mem_of_getElem? (i := 118) rfl)) (hw _ (List.mem_of_getElem? (i := 24) rfl)) (by decide) (by decide)) (g := (mkF m 2 #[.val (.int (Int32.ofNat j)), .val (.ref t)] [(.ref t), (.int (Int32.ofNat j))])) rfl (by rw [hml]; rfl) (argsL := [(.ref t)]) (rest := [(.int (Int32.ofNat j))]) (lenOf pd_10 rfl) rfl (by show 2 * 0 + _ ≤ _; exact Nat.le_of_eq rfl) (hb hby d24_2) (fun _ _ => ⟨rfl, e0, (by decide : 0 + 0 ≤ _), (by decide : 0 + 0 ≤ _)⟩)
  dsimp only [Pt.U, Pt.locs, Pt.cells, Pt.slots] at X263 l263 y263 z263 st263 hQ263
  subst l263 y263 z263
  obtain ⟨rfl, N263q, e263⟩ := hQ263
  have N263 := Fr.app N0 N263q
  refine own_go st263 ?_
  show own_Goes _ _ _ _ _ _ _ (T263.setTop (mkF m 5 #[.val (.int (Int32.ofNat j)), .val (.ref t)] [(.int (6 : Int32)), (.int (Int32.ofNat j))]))
  obtain ⟨_, _, ⟨T264, L264, k264, n264⟩, -, X264, ⟨Lc264, hQ264, l264, y264, z264⟩, st264⟩ := Jvm.LawKit.callS X263 hx (y := (⟨"java/lang/String", "checkIndex", "(II)V"⟩ : MethodName)) hown (mvT hZ (hw _ (List.mem_of_getElem? (i := 119) rfl))) (mvT hZ (hw _ (List.mem_of_getElem? (i := 120) rfl))) (mvT hZ (hw _ (List.mem_of_getElem? (i := 10) rfl))) (mvT hZ (hw _ (List.mem_of_getElem? (i := 121) rfl))) (by decide) (backOf (W := 0) (rm_sci l Z a0 hw [] (Int32.ofNat j) fm h0 n0 O0 rfm SF (own_inb (a := j) (z := 6) hj (by omega)).1 (own_inb (a := j) (z := 6) hj (by omega)).2) hZ (hw _ (List.mem_of_getElem? (i := 121) rfl)) (hw _ (List.mem_of_getElem? (i := 10) rfl)) (by decide) (by decide)) (g := (mkF m 5 #[.val (.int (Int32.ofNat j)), .val (.ref t)] [(.int (6 : Int32)), (.int (Int32.ofNat j))])) rfl (by rw [hml]; rfl) (argsL := [(.int (Int32.ofNat j)), (.int (6 : Int32))]) (rest := []) (lenOf pd_11 rfl) rfl (by show 2 * 0 + _ ≤ _; exact Nat.le_of_eq rfl) (hb hby d24_5) (fun _ _ => ⟨rfl, e263, (by decide : 0 + 0 ≤ _), (by decide : 0 + 0 ≤ _)⟩)
  dsimp only [Pt.U, Pt.locs, Pt.cells, Pt.slots] at X264 l264 y264 z264 st264 hQ264
  subst l264 y264 z264
  obtain ⟨rfl, N264q, e264⟩ := hQ264
  have N264 := Fr.app N263 N264q
  refine own_go st264 ?_
  show own_Goes _ _ _ _ _ _ _ (T264.setTop (mkF m 8 #[.val (.int (Int32.ofNat j)), .val (.ref t)] []))
  exact own_out X264 hlk (v := none) (fun _ => rfl) (fun fs hr => X264.returnOut hx hret (hb hby d24_8) hr) e264 ⟨rfl, N264, rfl⟩ (by decide) (by decide)
theorem d23_0 : decode jdk_52_method_83_code 0 = .ok (.iload_n 1, 1) := by decide +kernel
theorem d23_1 : decode jdk_52_method_83_code 1 = .ok (.aload_n 0, 1) := by decide +kernel
theorem d23_2 : decode jdk_52_method_83_code 2 = .ok (.invokestatic 67, 3) := by decide +kernel
theorem d23_5 : decode jdk_52_method_83_code 5 = .ok (.aload_n 0, 1) := by decide +kernel
theorem d23_6 : decode jdk_52_method_83_code 6 = .ok (.iload_n 1, 1) := by decide +kernel
theorem d23_7 : decode jdk_52_method_83_code 7 = .ok (.invokestatic 71, 3) := by decide +kernel
theorem d23_10 : decode jdk_52_method_83_code 10 = .ok (.ireturn, 1) := by decide +kernel
theorem ef_uch (m : MethodId) (t : Addr) (kt : ClassId) (cs : List Int32) (j : Nat) (fm : Value) : entryFrame m #[(.ref t), (.int (Int32.ofNat j))] 2 = mkF m 0 #[.val (.ref t), .val (.int (Int32.ofNat j))] [] := by
  first | (simp [entryFrame, mkF, argsToLocals, Value.category]; done) | rfl
def Q_uch (Z : State) (t : Addr) (kt : ClassId) (cs : List Int32) (j : Nat) (fm : Value) (h0 : Heap) (n0 : Nat) (v : Option Value) (h : Heap) (L : List Loc) : Prop := v = some (.int (cs.getD j 0)) ∧ Fr n0 L ∧ h = h0
set_option maxRecDepth 65536 in
set_option maxHeartbeats 40000000 in
theorem rm_uch (l : Launch) (Z : State) (a0 : Array Value) (hw : ∀ d ∈ tables_1, d.before a0 Z = true) (ws : List Jvm.Cond) (t : Addr) (kt : ClassId) (cs : List Int32) (j : Nat) (fm : Value) (h0 : Heap) (n0 : Nat) (O0 : Old Z n0 h0) (Kt : Arv Z h0 t kt .byte (12 : Int32) (StrChars.Road.wideBytes cs) (.int (0 : Int32))) (hl : cs.length = 6) (hj : j < 6) (hbd : ∀ c ∈ cs, ¬ c < 0 ∧ ¬ (65535 : Int32) < c) (SA : Sta Z Z.heap "java/lang/StringUTF16" "$assertionsDisabled" "Z" (.int (1 : Int32))) (SH : Sta Z Z.heap "java/lang/StringUTF16" "HI_BYTE_SHIFT" "I" (.int (0 : Int32))) (SLo : Sta Z Z.heap "java/lang/StringUTF16" "LO_BYTE_SHIFT" "I" (.int (8 : Int32))) (rfm : fm.isRef = true) (SF : Sta Z Z.heap "jdk/internal/util/Preconditions" "SIOOBE_FORMATTER" "Ljava/util/function/BiFunction;" fm) :
    MetFree l (⟨"java/lang/StringUTF16", "charAt", "([BI)C"⟩ : MethodName) (head1 (Jvm.Cond.code (⟨"java/lang/StringUTF16", "charAt", "([BI)C"⟩ : MethodName) jdk_52_method_83_code 2 (some .char) :: ws) ({ frames := 3, cells := 0, slots := 0, locals := 40 } : Room)) (fun av_ U => av_ = #[(.ref t), (.int (Int32.ofNat j))] ∧ Z.Warmed39 U.vm ∧ U.heap = h0) (fun _ _ _ _ _ => True) (fun _ U o_ U' => ∃ v L, o_ = .returned v ∧ Q_uch Z t kt cs j fm h0 n0 v U'.heap L ∧ FrameEnd U o_ U' L ({ frames := 3, cells := 0, slots := 0, locals := 40 } : Room).cells ({ frames := 3, cells := 0, slots := 0, locals := 40 } : Room).slots) := by
  refine MetFree.of_bodySF (plainFor_of_name pn_1) hisR ?_
  intro p e s m args below meth c s₁ Bd hml0 hP hK
  obtain ⟨rfl, hZ, hh⟩ := hP
  have hx := Bd.exec
  have hby := Bd.bytes
  have hml : c.maxLocals = 2 := hml0
  have hown : s.vm.findClass "java/lang/StringUTF16" = some m.cls := findClass_of_methodNamed Bd.named
  have hnm := (name_of_methodNamed Bd.named Bd.method).1
  have hlk := own_lk Bd
  have hret := Bd.returns
  have X0 : Stand p l e ({ frames := 3, cells := 0, slots := 0, locals := 40 } : Room) s m #[(.ref t), (.int (Int32.ofNat j))] below meth c s₁ [] 0 0 := Stand.of_body Bd
  have e0 : s₁.heap = h0 := by rw [← hh, Bd.state]; rfl
  have N0 := Fr.nil n0
  show own_Goes p e below s (Q_uch Z t kt cs j fm h0 n0) ({ frames := 3, cells := 0, slots := 0, locals := 40 } : Room).cells ({ frames := 3, cells := 0, slots := 0, locals := 40 } : Room).slots (s₁.setTop (entryFrame m #[(.ref t), (.int (Int32.ofNat j))] 2))
  refine own_go (fun _ ww => castTop (ef_uch m t kt cs j fm) ww) ?_
  show own_Goes _ _ _ _ _ _ _ (s₁.setTop (mkF m 0 #[.val (.ref t), .val (.int (Int32.ofNat j))] []))
  refine own_go (fun _ ww => XS.iloadN X0.here hx rfl (hb hby d23_0) rfl  ww) ?_
  show own_Goes _ _ _ _ _ _ _ (s₁.setTop (mkF m 1 #[.val (.ref t), .val (.int (Int32.ofNat j))] [(.int (Int32.ofNat j))]))
  refine own_go (fun _ ww => XS.aloadN X0.here hx rfl (hb hby d23_1) rfl rfl ww) ?_
  show own_Goes _ _ _ _ _ _ _ (s₁.setTop (mkF m 2 #[.val (.ref t), .val (.int (Int32.ofNat j))] [(.ref t), (.int (Int32.ofNat j))]))
  obtain ⟨_, _, ⟨T265, L265, k265, n265⟩, -, X265, ⟨Lc265, hQ265, l265, y265, z265⟩, st265⟩ := Jvm.LawKit.callS X0 hx (y := (⟨"java/lang/StringUTF16", "checkIndex", "(I[B)V"⟩ : MethodName)) hown (mvT hZ (hw _ (List.mem_of_getElem? (i := 113) rfl))) (mvT hZ (hw _ (List.mem_of_getElem? (i := 114) rfl))) (mvT hZ (hw _ (List.mem_of_getElem? (i := 24) rfl))) (mvT hZ (hw _ (List.mem_of_getElem? (i := 115) rfl))) (by decide) (backOf (W := 0) (rm_uci l Z a0 hw [] t kt cs j fm h0 n0 O0 Kt hj rfm SF) hZ (hw _ (List.mem_of_getElem? (i := 115) rfl)) (hw _ (List.mem_of_getElem? (i := 24) rfl)) (by decide) (by decide)) (g := (mkF m 2 #[.val (.ref t), .val (.int (Int32.ofNat j))] [(.ref t), (.int (Int32.ofNat j))])) rfl (by rw [hml]; rfl) (argsL := [(.int (Int32.ofNat j)), (.ref t)]) (rest := []) (lenOf pd_12 rfl) rfl (by show 2 * 0 + _ ≤ _; exact Nat.le_of_eq rfl) (hb hby d23_2) (fun _ _ => ⟨rfl, e0, (by decide : 0 + 0 ≤ _), (by decide : 0 + 0 ≤ _)⟩)
  dsimp only [Pt.U, Pt.locs, Pt.cells, Pt.slots] at X265 l265 y265 z265 st265 hQ265
  subst l265 y265 z265
  obtain ⟨rfl, N265q, e265⟩ := hQ265
  have N265 := Fr.app N0 N265q
  refine own_go st265 ?_
  show own_Goes _ _ _ _ _ _ _ (T265.setTop (mkF m 5 #[.val (.ref t), .val (.int (Int32.ofNat j))] []))
  refine own_go (fun _ ww => XS.aloadN X265.here hx rfl (hb hby d23_5) rfl rfl ww) ?_
  show own_Goes _ _ _ _ _ _ _ (T265.setTop (mkF m 6 #[.val (.ref t), .val (.int (Int32.ofNat j))] [(.ref t)]))
  refine own_go (fun _ ww => XS.iloadN X265.here hx rfl (hb hby d23_6) rfl  ww) ?_
  show own_Goes _ _ _ _ _ _ _ (T265.setTop (mkF m 7 #[.val (.ref t), .val (.int (Int32.ofNat j))] [(.int (Int32.ofNat j)), (.ref t)]))
  obtain ⟨_, _, ⟨T266, L266, k266, n266⟩, -, X266, ⟨Lc266, hQ266, l266, y266, z266⟩, st266⟩ := Jvm.LawKit.callS X265 hx (y := (⟨"java/lang/StringUTF16", "getChar", "([BI)C"⟩ : MethodName)) hown (mvT hZ (hw _ (List.mem_of_getElem? (i := 97) rfl))) (mvT hZ (hw _ (List.mem_of_getElem? (i := 98) rfl))) (mvT hZ (hw _ (List.mem_of_getElem? (i := 24) rfl))) (mvT hZ (hw _ (List.mem_of_getElem? (i := 99) rfl))) (by decide) (backOf (W := 0) (rm_getc l Z a0 hw [] t kt cs j h0 n0 O0 Kt hl hj hbd SA SH SLo) hZ (hw _ (List.mem_of_getElem? (i := 99) rfl)) (hw _ (List.mem_of_getElem? (i := 24) rfl)) (by decide) (by decide)) (g := (mkF m 7 #[.val (.ref t), .val (.int (Int32.ofNat j))] [(.int (Int32.ofNat j)), (.ref t)])) rfl (by rw [hml]; rfl) (argsL := [(.ref t), (.int (Int32.ofNat j))]) (rest := []) (lenOf pd_5 rfl) rfl (by show 2 * 0 + _ ≤ _; exact Nat.le_of_eq rfl) (hb hby d23_7) (fun _ _ => ⟨rfl, e265, (by decide : 0 + 0 ≤ _), (by decide : 0 + 0 ≤ _)⟩)
  dsimp only [Pt.U, Pt.locs, Pt.cells, Pt.slots] at X266 l266 y266 z266 st266 hQ266
  subst l266 y266 z266
  obtain ⟨rfl, N266q, e266⟩ := hQ266
  have N266 := Fr.app N265 N266q
  refine own_go st266 ?_
  show own_Goes _ _ _ _ _ _ _ (T266.setTop (mkF m 10 #[.val (.ref t), .val (.int (Int32.ofNat j))] [(.int (cs.getD j 0))]))
  exact own_out X266 hlk (v := some (.int (cs.getD j 0))) (fun h => by rw [hret] at h; cases h) (fun fs hr => retOut X266 hx (t := .char) hret (StrChars.narrow_ch (hbd _ (own_getD_mem (j := j) (by omega))).1 (hbd _ (own_getD_mem (j := j) (by omega))).2) (Or.inl ⟨rfl, by simp, _, rfl⟩) (hb hby d23_10) hr) e266 ⟨rfl, N266, rfl⟩ (by decide) (by decide)
theorem d29_0 : decode jdk_43_method_2_code 0 = .ok (.iload_n 1, 1) := by decide +kernel
theorem d29_1 : decode jdk_43_method_2_code 1 = .ok (.aload_n 0, 1) := by decide +kernel
theorem d29_2 : decode jdk_43_method_2_code 2 = .ok (.arraylength, 1) := by decide +kernel
theorem d29_3 : decode jdk_43_method_2_code 3 = .ok (.invokestatic 9, 3) := by decide +kernel
theorem d29_6 : decode jdk_43_method_2_code 6 = .ok (.aload_n 0, 1) := by decide +kernel
theorem d29_7 : decode jdk_43_method_2_code 7 = .ok (.iload_n 1, 1) := by decide +kernel
theorem d29_8 : decode jdk_43_method_2_code 8 = .ok (.baload, 1) := by decide +kernel
theorem d29_9 : decode jdk_43_method_2_code 9 = .ok (.sipush 255, 3) := by decide +kernel
theorem d29_12 : decode jdk_43_method_2_code 12 = .ok (.iand, 1) := by decide +kernel
theorem d29_13 : decode jdk_43_method_2_code 13 = .ok (.i2c, 1) := by decide +kernel
theorem d29_14 : decode jdk_43_method_2_code 14 = .ok (.ireturn, 1) := by decide +kernel
theorem ef_lch (m : MethodId) (t : Addr) (kt : ClassId) (cs : List Int32) (j : Nat) (fm : Value) : entryFrame m #[(.ref t), (.int (Int32.ofNat j))] 2 = mkF m 0 #[.val (.ref t), .val (.int (Int32.ofNat j))] [] := by
  first | (simp [entryFrame, mkF, argsToLocals, Value.category]; done) | rfl
def Q_lch (Z : State) (t : Addr) (kt : ClassId) (cs : List Int32) (j : Nat) (fm : Value) (h0 : Heap) (n0 : Nat) (v : Option Value) (h : Heap) (L : List Loc) : Prop := v = some (.int (cs.getD j 0)) ∧ Fr n0 L ∧ h = h0
set_option maxRecDepth 65536 in
set_option maxHeartbeats 40000000 in
theorem rm_lch (l : Launch) (Z : State) (a0 : Array Value) (hw : ∀ d ∈ tables_1, d.before a0 Z = true) (ws : List Jvm.Cond) (t : Addr) (kt : ClassId) (cs : List Int32) (j : Nat) (fm : Value) (h0 : Heap) (n0 : Nat) (O0 : Old Z n0 h0) (Kt : Arv Z h0 t kt .byte (6 : Int32) (cs.map fun c => Value.int (StrChars.lo8 c)) (.int (0 : Int32))) (hl : cs.length = 6) (hj : j < 6) (hbd : ∀ c ∈ cs, ¬ c < 0 ∧ ¬ (65535 : Int32) < c) (hlat : ∀ c ∈ cs, ¬ (255 : Int32) < c) (rfm : fm.isRef = true) (SF : Sta Z Z.heap "jdk/internal/util/Preconditions" "SIOOBE_FORMATTER" "Ljava/util/function/BiFunction;" fm) :
    MetFree l (⟨"java/lang/StringLatin1", "charAt", "([BI)C"⟩ : MethodName) (head1 (Jvm.Cond.code (⟨"java/lang/StringLatin1", "charAt", "([BI)C"⟩ : MethodName) jdk_43_method_2_code 2 (some .char) :: ws) ({ frames := 2, cells := 0, slots := 0, locals := 27 } : Room)) (fun av_ U => av_ = #[(.ref t), (.int (Int32.ofNat j))] ∧ Z.Warmed39 U.vm ∧ U.heap = h0) (fun _ _ _ _ _ => True) (fun _ U o_ U' => ∃ v L, o_ = .returned v ∧ Q_lch Z t kt cs j fm h0 n0 v U'.heap L ∧ FrameEnd U o_ U' L ({ frames := 2, cells := 0, slots := 0, locals := 27 } : Room).cells ({ frames := 2, cells := 0, slots := 0, locals := 27 } : Room).slots) := by
  refine MetFree.of_bodySF (plainFor_of_name pn_4) hisR ?_
  intro p e s m args below meth c s₁ Bd hml0 hP hK
  obtain ⟨rfl, hZ, hh⟩ := hP
  have hx := Bd.exec
  have hby := Bd.bytes
  have hml : c.maxLocals = 2 := hml0
  have hown : s.vm.findClass "java/lang/StringLatin1" = some m.cls := findClass_of_methodNamed Bd.named
  have hnm := (name_of_methodNamed Bd.named Bd.method).1
  have hlk := own_lk Bd
  have hret := Bd.returns
  have X0 : Stand p l e ({ frames := 2, cells := 0, slots := 0, locals := 27 } : Room) s m #[(.ref t), (.int (Int32.ofNat j))] below meth c s₁ [] 0 0 := Stand.of_body Bd
  have e0 : s₁.heap = h0 := by rw [← hh, Bd.state]; rfl
  have N0 := Fr.nil n0
  show own_Goes p e below s (Q_lch Z t kt cs j fm h0 n0) ({ frames := 2, cells := 0, slots := 0, locals := 27 } : Room).cells ({ frames := 2, cells := 0, slots := 0, locals := 27 } : Room).slots (s₁.setTop (entryFrame m #[(.ref t), (.int (Int32.ofNat j))] 2))
  refine own_go (fun _ ww => castTop (ef_lch m t kt cs j fm) ww) ?_
  show own_Goes _ _ _ _ _ _ _ (s₁.setTop (mkF m 0 #[.val (.ref t), .val (.int (Int32.ofNat j))] []))
  refine own_go (fun _ ww => XS.iloadN X0.here hx rfl (hb hby d29_0) rfl  ww) ?_
  show own_Goes _ _ _ _ _ _ _ (s₁.setTop (mkF m 1 #[.val (.ref t), .val (.int (Int32.ofNat j))] [(.int (Int32.ofNat j))]))
  refine own_go (fun _ ww => XS.aloadN X0.here hx rfl (hb hby d29_1) rfl rfl ww) ?_
  show own_Goes _ _ _ _ _ _ _ (s₁.setTop (mkF m 2 #[.val (.ref t), .val (.int (Int32.ofNat j))] [(.ref t), (.int (Int32.ofNat j))]))
  obtain ⟨cl267, Ar267, -, S267, Ng267, -, -⟩ := id Kt
  refine own_go (fun _ ww => X0.arraylength hx (by rw [e0]; exact Ar267.1) (State.isArrayOf_alike hZ.alike Ar267.2.1) (g := (mkF m 2 #[.val (.ref t), .val (.int (Int32.ofNat j))] [(.ref t), (.int (Int32.ofNat j))])) rfl rfl (hb hby d29_2) _ ww) ?_
  rw [len_of S267 Ng267]
  show own_Goes _ _ _ _ _ _ _ (s₁.setTop (mkF m 3 #[.val (.ref t), .val (.int (Int32.ofNat j))] [(.int (6 : Int32)), (.int (Int32.ofNat j))]))
  obtain ⟨_, _, ⟨T268, L268, k268, n268⟩, -, X268, ⟨Lc268, hQ268, l268, y268, z268⟩, st268⟩ := Jvm.LawKit.callS X0 hx (y := (⟨"java/lang/String", "checkIndex", "(II)V"⟩ : MethodName)) hown (mvT hZ (hw _ (List.mem_of_getElem? (i := 133) rfl))) (mvT hZ (hw _ (List.mem_of_getElem? (i := 120) rfl))) (mvT hZ (hw _ (List.mem_of_getElem? (i := 10) rfl))) (mvT hZ (hw _ (List.mem_of_getElem? (i := 121) rfl))) (by decide) (backOf (W := 0) (rm_sci l Z a0 hw [] (Int32.ofNat j) fm h0 n0 O0 rfm SF (own_inb (a := j) (z := 6) hj (by omega)).1 (own_inb (a := j) (z := 6) hj (by omega)).2) hZ (hw _ (List.mem_of_getElem? (i := 121) rfl)) (hw _ (List.mem_of_getElem? (i := 10) rfl)) (by decide) (by decide)) (g := (mkF m 3 #[.val (.ref t), .val (.int (Int32.ofNat j))] [(.int (6 : Int32)), (.int (Int32.ofNat j))])) rfl (by rw [hml]; rfl) (argsL := [(.int (Int32.ofNat j)), (.int (6 : Int32))]) (rest := []) (lenOf pd_11 rfl) rfl (by show 2 * 0 + _ ≤ _; exact Nat.le_of_eq rfl) (hb hby d29_3) (fun _ _ => ⟨rfl, e0, (by decide : 0 + 0 ≤ _), (by decide : 0 + 0 ≤ _)⟩)
  dsimp only [Pt.U, Pt.locs, Pt.cells, Pt.slots] at X268 l268 y268 z268 st268 hQ268
  subst l268 y268 z268
  obtain ⟨rfl, N268q, e268⟩ := hQ268
  have N268 := Fr.app N0 N268q
  refine own_go st268 ?_
  show own_Goes _ _ _ _ _ _ _ (T268.setTop (mkF m 6 #[.val (.ref t), .val (.int (Int32.ofNat j))] []))
  refine own_go (fun _ ww => XS.aloadN X268.here hx rfl (hb hby d29_6) rfl rfl ww) ?_
  show own_Goes _ _ _ _ _ _ _ (T268.setTop (mkF m 7 #[.val (.ref t), .val (.int (Int32.ofNat j))] [(.ref t)]))
  refine own_go (fun _ ww => XS.iloadN X268.here hx rfl (hb hby d29_7) rfl  ww) ?_
  show own_Goes _ _ _ _ _ _ _ (T268.setTop (mkF m 8 #[.val (.ref t), .val (.int (Int32.ofNat j))] [(.int (Int32.ofNat j)), (.ref t)]))
  obtain ⟨cl269, Ar269, -, S269, -, H269, -⟩ := id Kt
  have hin269 := inb_of (j := (Int32.ofNat j)) S269 (own_inb (a := j) (z := 6) hj (by omega))
  have hat269 : cl269.slots[((Int32.ofNat j)).toNatClampNeg]? = some (.int (StrChars.lo8 (cs.getD j 0))) := Has.at H269 hin269 (by rw [own_clampN (a := j) (by omega)]; exact StrChars.Road.low_at _ _ _ (by omega))
  refine own_go (fun _ ww => X268.baloadBytes hx (j := (Int32.ofNat j)) (v := (.int (StrChars.lo8 (cs.getD j 0)))) (by rw [e268]; exact Ar269.1) (State.isArrayOf_alike hZ.alike Ar269.2.1) Ar269.2.2 hin269 hat269 (g := (mkF m 8 #[.val (.ref t), .val (.int (Int32.ofNat j))] [(.int (Int32.ofNat j)), (.ref t)])) rfl rfl (hb hby d29_8) _ ww) ?_
  show own_Goes _ _ _ _ _ _ _ (T268.setTop (mkF m 9 #[.val (.ref t), .val (.int (Int32.ofNat j))] [(.int (StrChars.lo8 (cs.getD j 0)))]))
  refine own_go (fun _ ww => XS.sipush X268.here hx rfl (hb hby d29_9) ww) ?_
  show own_Goes _ _ _ _ _ _ _ (T268.setTop (mkF m 12 #[.val (.ref t), .val (.int (Int32.ofNat j))] [(.int (255 : Int32)), (.int (StrChars.lo8 (cs.getD j 0)))]))
  refine own_go (fun _ ww => XS.iand X268.here hx rfl (hb hby d29_12) rfl ww) ?_
  show own_Goes _ _ _ _ _ _ _ (T268.setTop (mkF m 13 #[.val (.ref t), .val (.int (Int32.ofNat j))] [(.int ((StrChars.lo8 (cs.getD j 0)) &&& (255 : Int32)))]))
  refine own_go (fun _ ww => XT.i2c X268.here hx rfl (hb hby d29_13) rfl ww) ?_
  show own_Goes _ _ _ _ _ _ _ (T268.setTop (mkF m 14 #[.val (.ref t), .val (.int (Int32.ofNat j))] [(.int (((StrChars.lo8 (cs.getD j 0)) &&& (255 : Int32)).toUInt32.toUInt16.toUInt32.toInt32))]))
  exact own_out X268 hlk (v := some (.int (((StrChars.lo8 (cs.getD j 0)) &&& (255 : Int32)).toUInt32.toUInt16.toUInt32.toInt32))) (fun h => by rw [hret] at h; cases h) (fun fs hr => retOut X268 hx (t := .char) hret (XT.narrow_c _) (Or.inl ⟨rfl, by simp, _, rfl⟩) (hb hby d29_14) hr) e268 ⟨congrArg (fun z => some (Value.int z)) (StrChars.chr8_lo8 (hbd _ (own_getD_mem (j := j) (by omega))).1 (hlat _ (own_getD_mem (j := j) (by omega)))), N268, rfl⟩ (by decide) (by decide)
theorem d21_0 : decode jdk_42_method_56_code 0 = .ok (.aload_n 0, 1) := by decide +kernel
theorem d21_1 : decode jdk_42_method_56_code 1 = .ok (.invokevirtual 492, 3) := by decide +kernel
theorem d21_4 : decode jdk_42_method_56_code 4 = .ok (.ifCond .eq 12, 3) := by decide +kernel
theorem d21_7 : decode jdk_42_method_56_code 7 = .ok (.aload_n 0, 1) := by decide +kernel
theorem d21_8 : decode jdk_42_method_56_code 8 = .ok (.getfield 9, 3) := by decide +kernel
theorem d21_11 : decode jdk_42_method_56_code 11 = .ok (.iload_n 1, 1) := by decide +kernel
theorem d21_12 : decode jdk_42_method_56_code 12 = .ok (.invokestatic 495, 3) := by decide +kernel
theorem d21_15 : decode jdk_42_method_56_code 15 = .ok (.ireturn, 1) := by decide +kernel
theorem d21_16 : decode jdk_42_method_56_code 16 = .ok (.aload_n 0, 1) := by decide +kernel
theorem d21_17 : decode jdk_42_method_56_code 17 = .ok (.getfield 9, 3) := by decide +kernel
theorem d21_20 : decode jdk_42_method_56_code 20 = .ok (.iload_n 1, 1) := by decide +kernel
theorem d21_21 : decode jdk_42_method_56_code 21 = .ok (.invokestatic 498, 3) := by decide +kernel
theorem d21_24 : decode jdk_42_method_56_code 24 = .ok (.ireturn, 1) := by decide +kernel
theorem ef_chat (m : MethodId) (x : Addr) (t : Addr) (kt : ClassId) (cd : Int32) (N2 : Int32) (vs : List Value) (cs : List Int32) (zc : Int32) (j : Nat) (fm : Value) : entryFrame m #[(.ref x), (.int (Int32.ofNat j))] 2 = mkF m 0 #[.val (.ref x), .val (.int (Int32.ofNat j))] [] := by
  first | (simp [entryFrame, mkF, argsToLocals, Value.category]; done) | rfl
def Q_chat (Z : State) (x : Addr) (t : Addr) (kt : ClassId) (cd : Int32) (N2 : Int32) (vs : List Value) (cs : List Int32) (zc : Int32) (j : Nat) (fm : Value) (h0 : Heap) (n0 : Nat) (v : Option Value) (h : Heap) (L : List Loc) : Prop := v = some (.int (cs.getD j 0)) ∧ Fr n0 L ∧ h = h0
set_option maxRecDepth 65536 in
set_option maxHeartbeats 40000000 in
theorem rm_chat (l : Launch) (Z : State) (a0 : Array Value) (hw : ∀ d ∈ tables_1, d.before a0 Z = true) (ws : List Jvm.Cond) (x : Addr) (t : Addr) (kt : ClassId) (cd : Int32) (N2 : Int32) (vs : List Value) (cs : List Int32) (zc : Int32) (j : Nat) (fm : Value) (h0 : Heap) (n0 : Nat) (O0 : Old Z n0 h0) (Ex : Exa Z h0 x "java/lang/String") (Fc : Fld Z h0 x "java/lang/String" "coder" "B" (.int cd)) (Fv : Fld Z h0 x "java/lang/String" "value" "[B" (.ref t)) (Kt : Arv Z h0 t kt .byte N2 vs (.int (0 : Int32))) (hcd : own_Cod cs cd N2 vs) (hl : cs.length = 6) (hbd : ∀ c ∈ cs, ¬ c < 0 ∧ ¬ (65535 : Int32) < c) (SC : Sta Z Z.heap "java/lang/String" "COMPACT_STRINGS" "Z" (.int zc)) (hzc : ¬ zc = 0) (hj : j < 6) (SA : Sta Z Z.heap "java/lang/StringUTF16" "$assertionsDisabled" "Z" (.int (1 : Int32))) (SH : Sta Z Z.heap "java/lang/StringUTF16" "HI_BYTE_SHIFT" "I" (.int (0 : Int32))) (SLo : Sta Z Z.heap "java/lang/StringUTF16" "LO_BYTE_SHIFT" "I" (.int (8 : Int32))) (rfm : fm.isRef = true) (SF : Sta Z Z.heap "jdk/internal/util/Preconditions" "SIOOBE_FORMATTER" "Ljava/util/function/BiFunction;" fm) :
    MetFree l (⟨"java/lang/String", "charAt", "(I)C"⟩ : MethodName) (head1 (Jvm.Cond.code (⟨"java/lang/String", "charAt", "(I)C"⟩ : MethodName) jdk_42_method_56_code 2 (some .char) :: ws) ({ frames := 4, cells := 0, slots := 0, locals := 53 } : Room)) (fun av_ U => av_ = #[(.ref x), (.int (Int32.ofNat j))] ∧ Z.Warmed39 U.vm ∧ U.heap = h0) (fun _ _ _ _ _ => True) (fun _ U o_ U' => ∃ v L, o_ = .returned v ∧ Q_chat Z x t kt cd N2 vs cs zc j fm h0 n0 v U'.heap L ∧ FrameEnd U o_ U' L ({ frames := 4, cells := 0, slots := 0, locals := 53 } : Room).cells ({ frames := 4, cells := 0, slots := 0, locals := 53 } : Room).slots) := by
  refine MetFree.of_bodySF (plainFor_of_name pn_2) hisR ?_
  intro p e s m args below meth c s₁ Bd hml0 hP hK
  obtain ⟨rfl, hZ, hh⟩ := hP
  have hx := Bd.exec
  have hby := Bd.bytes
  have hml : c.maxLocals = 2 := hml0
  have hown : s.vm.findClass "java/lang/String" = some m.cls := findClass_of_methodNamed Bd.named
  have hnm := (name_of_methodNamed Bd.named Bd.method).1
  have hlk := own_lk Bd
  have hret := Bd.returns
  have X0 : Stand p l e ({ frames := 4, cells := 0, slots := 0, locals := 53 } : Room) s m #[(.ref x), (.int (Int32.ofNat j))] below meth c s₁ [] 0 0 := Stand.of_body Bd
  have e0 : s₁.heap = h0 := by rw [← hh, Bd.state]; rfl
  have N0 := Fr.nil n0
  show own_Goes p e below s (Q_chat Z x t kt cd N2 vs cs zc j fm h0 n0) ({ frames := 4, cells := 0, slots := 0, locals := 53 } : Room).cells ({ frames := 4, cells := 0, slots := 0, locals := 53 } : Room).slots (s₁.setTop (entryFrame m #[(.ref x), (.int (Int32.ofNat j))] 2))
  refine own_go (fun _ ww => castTop (ef_chat m x t kt cd N2 vs cs zc j fm) ww) ?_
  show own_Goes _ _ _ _ _ _ _ (s₁.setTop (mkF m 0 #[.val (.ref x), .val (.int (Int32.ofNat j))] []))
  rcases hcd with ⟨rfl, rfl, rfl, hlat⟩ | ⟨rfl, rfl, rfl⟩
  ·
    show own_Goes _ _ _ _ _ _ _ (s₁.setTop (mkF m 0 #[.val (.ref x), .val (.int (Int32.ofNat j))] []))
    refine own_go (fun _ ww => XS.aloadN X0.here hx rfl (hb hby d21_0) rfl rfl ww) ?_
    show own_Goes _ _ _ _ _ _ _ (s₁.setTop (mkF m 1 #[.val (.ref x), .val (.int (Int32.ofNat j))] [(.ref x)]))
    obtain ⟨cq270, kq270, q270a, q270b, q270c⟩ := isOf hZ e0 Ex
    obtain ⟨_, _, ⟨T270, L270, k270, n270⟩, -, X270, ⟨Lc270, hQ270, l270, y270, z270⟩, st270⟩ := X0.virtualBack hx (y := (⟨"java/lang/String", "isLatin1", "()Z"⟩ : MethodName)) (z := (⟨"java/lang/String", "isLatin1", "()Z"⟩ : MethodName)) hown (mvT hZ (hw _ (List.mem_of_getElem? (i := 105) rfl))) (mvT hZ (hw _ (List.mem_of_getElem? (i := 106) rfl))) (notFace_of_selects (args := #[]) (mvT hZ (hw _ (List.mem_of_getElem? (i := 108) rfl)))) (mvT hZ (hw _ (List.mem_of_getElem? (i := 108) rfl))) (mvT hZ (hw _ (List.mem_of_getElem? (i := 107) rfl))) (by decide) (backOf (W := 0) (rm_isl0 l Z a0 hw [] x zc h0 n0 O0 Fc SC hzc) hZ (hw _ (List.mem_of_getElem? (i := 109) rfl)) (hw _ (List.mem_of_getElem? (i := 10) rfl)) (by decide) (by decide)) q270a q270c (g := (mkF m 1 #[.val (.ref x), .val (.int (Int32.ofNat j))] [(.ref x)])) rfl (by rw [hml]; rfl) (Steps.refl _) (argsL := []) (rest := []) (lenOf pd_13 rfl) rfl (by show 2 * 0 + _ ≤ _; exact Nat.le_of_eq rfl) (hb hby d21_1) (fun _ _ => ⟨rfl, e0, (by decide : 0 + 0 ≤ _), (by decide : 0 + 0 ≤ _)⟩)
    dsimp only [Pt.U, Pt.locs, Pt.cells, Pt.slots] at X270 l270 y270 z270 st270 hQ270
    subst l270 y270 z270
    obtain ⟨rfl, N270q, e270⟩ := hQ270
    have N270 := Fr.app N0 N270q
    refine own_go (fun _ ww => Steps.trans st270 ww) ?_
    show own_Goes _ _ _ _ _ _ _ (T270.setTop (mkF m 4 #[.val (.ref x), .val (.int (Int32.ofNat j))] [(.int (1 : Int32))]))
    refine own_go (fun _ ww => XS.ifNo X270.here hx rfl (hb hby d21_4) rfl (own_if .eq (feq (by decide : ¬ ((1 : Int32) = (0 : Int32)))).1) ww) ?_
    show own_Goes _ _ _ _ _ _ _ (T270.setTop (mkF m 7 #[.val (.ref x), .val (.int (Int32.ofNat j))] []))
    refine own_go (fun _ ww => XS.aloadN X270.here hx rfl (hb hby d21_7) rfl rfl ww) ?_
    show own_Goes _ _ _ _ _ _ _ (T270.setTop (mkF m 8 #[.val (.ref x), .val (.int (Int32.ofNat j))] [(.ref x)]))
    obtain ⟨T271, X271, e271, st271⟩ := getF X270 hx hZ hown (host := "") (Or.inl (hw _ (List.mem_of_getElem? (i := 35) rfl))) Via.refl e270 Fv (g := (mkF m 8 #[.val (.ref x), .val (.int (Int32.ofNat j))] [(.ref x)])) rfl rfl (hb hby d21_8)
    refine own_go st271 ?_
    show own_Goes _ _ _ _ _ _ _ (T271.setTop (mkF m 11 #[.val (.ref x), .val (.int (Int32.ofNat j))] [(.ref t)]))
    refine own_go (fun _ ww => XS.iloadN X271.here hx rfl (hb hby d21_11) rfl  ww) ?_
    show own_Goes _ _ _ _ _ _ _ (T271.setTop (mkF m 12 #[.val (.ref x), .val (.int (Int32.ofNat j))] [(.int (Int32.ofNat j)), (.ref t)]))
    obtain ⟨_, _, ⟨T272, L272, k272, n272⟩, -, X272, ⟨Lc272, hQ272, l272, y272, z272⟩, st272⟩ := Jvm.LawKit.callS X271 hx (y := (⟨"java/lang/StringLatin1", "charAt", "([BI)C"⟩ : MethodName)) hown (mvT hZ (hw _ (List.mem_of_getElem? (i := 129) rfl))) (mvT hZ (hw _ (List.mem_of_getElem? (i := 130) rfl))) (mvT hZ (hw _ (List.mem_of_getElem? (i := 131) rfl))) (mvT hZ (hw _ (List.mem_of_getElem? (i := 132) rfl))) (by decide) (backOf (W := 0) (rm_lch l Z a0 hw [] t kt cs j fm h0 n0 O0 Kt hl hj hbd hlat rfm SF) hZ (hw _ (List.mem_of_getElem? (i := 132) rfl)) (hw _ (List.mem_of_getElem? (i := 131) rfl)) (by decide) (by decide)) (g := (mkF m 12 #[.val (.ref x), .val (.int (Int32.ofNat j))] [(.int (Int32.ofNat j)), (.ref t)])) rfl (by rw [hml]; rfl) (argsL := [(.ref t), (.int (Int32.ofNat j))]) (rest := []) (lenOf pd_5 rfl) rfl (by show 2 * 0 + _ ≤ _; exact Nat.le_of_eq rfl) (hb hby d21_12) (fun _ _ => ⟨rfl, e271, (by decide : 0 + 0 ≤ _), (by decide : 0 + 0 ≤ _)⟩)
    dsimp only [Pt.U, Pt.locs, Pt.cells, Pt.slots] at X272 l272 y272 z272 st272 hQ272
    subst l272 y272 z272
    obtain ⟨rfl, N272q, e272⟩ := hQ272
    have N272 := Fr.app N270 N272q
    refine own_go st272 ?_
    show own_Goes _ _ _ _ _ _ _ (T272.setTop (mkF m 15 #[.val (.ref x), .val (.int (Int32.ofNat j))] [(.int (cs.getD j 0))]))
    exact own_out X272 hlk (v := some (.int (cs.getD j 0))) (fun h => by rw [hret] at h; cases h) (fun fs hr => retOut X272 hx (t := .char) hret (StrChars.narrow_ch (hbd _ (own_getD_mem (j := j) (by omega))).1 (hbd _ (own_getD_mem (j := j) (by omega))).2) (Or.inl ⟨rfl, by simp, _, rfl⟩) (hb hby d21_15) hr) e272 ⟨rfl, N272, rfl⟩ (by decide) (by decide)
  ·
    show own_Goes _ _ _ _ _ _ _ (s₁.setTop (mkF m 0 #[.val (.ref x), .val (.int (Int32.ofNat j))] []))
    refine own_go (fun _ ww => XS.aloadN X0.here hx rfl (hb hby d21_0) rfl rfl ww) ?_
    show own_Goes _ _ _ _ _ _ _ (s₁.setTop (mkF m 1 #[.val (.ref x), .val (.int (Int32.ofNat j))] [(.ref x)]))
    obtain ⟨cq273, kq273, q273a, q273b, q273c⟩ := isOf hZ e0 Ex
    obtain ⟨_, _, ⟨T273, L273, k273, n273⟩, -, X273, ⟨Lc273, hQ273, l273, y273, z273⟩, st273⟩ := X0.virtualBack hx (y := (⟨"java/lang/String", "isLatin1", "()Z"⟩ : MethodName)) (z := (⟨"java/lang/String", "isLatin1", "()Z"⟩ : MethodName)) hown (mvT hZ (hw _ (List.mem_of_getElem? (i := 105) rfl))) (mvT hZ (hw _ (List.mem_of_getElem? (i := 106) rfl))) (notFace_of_selects (args := #[]) (mvT hZ (hw _ (List.mem_of_getElem? (i := 108) rfl)))) (mvT hZ (hw _ (List.mem_of_getElem? (i := 108) rfl))) (mvT hZ (hw _ (List.mem_of_getElem? (i := 107) rfl))) (by decide) (backOf (W := 0) (rm_isl1 l Z a0 hw [] x zc h0 n0 O0 Fc SC hzc) hZ (hw _ (List.mem_of_getElem? (i := 109) rfl)) (hw _ (List.mem_of_getElem? (i := 10) rfl)) (by decide) (by decide)) q273a q273c (g := (mkF m 1 #[.val (.ref x), .val (.int (Int32.ofNat j))] [(.ref x)])) rfl (by rw [hml]; rfl) (Steps.refl _) (argsL := []) (rest := []) (lenOf pd_13 rfl) rfl (by show 2 * 0 + _ ≤ _; exact Nat.le_of_eq rfl) (hb hby d21_1) (fun _ _ => ⟨rfl, e0, (by decide : 0 + 0 ≤ _), (by decide : 0 + 0 ≤ _)⟩)
    dsimp only [Pt.U, Pt.locs, Pt.cells, Pt.slots] at X273 l273 y273 z273 st273 hQ273
    subst l273 y273 z273
    obtain ⟨rfl, N273q, e273⟩ := hQ273
    have N273 := Fr.app N0 N273q
    refine own_go (fun _ ww => Steps.trans st273 ww) ?_
    show own_Goes _ _ _ _ _ _ _ (T273.setTop (mkF m 4 #[.val (.ref x), .val (.int (Int32.ofNat j))] [(.int (0 : Int32))]))
    refine own_go (fun _ ww => XS.ifYes X273.here hx rfl (pc0 := 4) (pc' := 16) rfl (hb hby d21_4) rfl (own_if .eq (teq (by decide : (0 : Int32) = (0 : Int32))).1) (by decide) (by decide) ww) ?_
    show own_Goes _ _ _ _ _ _ _ (T273.setTop (mkF m 16 #[.val (.ref x), .val (.int (Int32.ofNat j))] []))
    refine own_go (fun _ ww => XS.aloadN X273.here hx rfl (hb hby d21_16) rfl rfl ww) ?_
    show own_Goes _ _ _ _ _ _ _ (T273.setTop (mkF m 17 #[.val (.ref x), .val (.int (Int32.ofNat j))] [(.ref x)]))
    obtain ⟨T274, X274, e274, st274⟩ := getF X273 hx hZ hown (host := "") (Or.inl (hw _ (List.mem_of_getElem? (i := 35) rfl))) Via.refl e273 Fv (g := (mkF m 17 #[.val (.ref x), .val (.int (Int32.ofNat j))] [(.ref x)])) rfl rfl (hb hby d21_17)
    refine own_go st274 ?_
    show own_Goes _ _ _ _ _ _ _ (T274.setTop (mkF m 20 #[.val (.ref x), .val (.int (Int32.ofNat j))] [(.ref t)]))
    refine own_go (fun _ ww => XS.iloadN X274.here hx rfl (hb hby d21_20) rfl  ww) ?_
    show own_Goes _ _ _ _ _ _ _ (T274.setTop (mkF m 21 #[.val (.ref x), .val (.int (Int32.ofNat j))] [(.int (Int32.ofNat j)), (.ref t)]))
    obtain ⟨_, _, ⟨T275, L275, k275, n275⟩, -, X275, ⟨Lc275, hQ275, l275, y275, z275⟩, st275⟩ := Jvm.LawKit.callS X274 hx (y := (⟨"java/lang/StringUTF16", "charAt", "([BI)C"⟩ : MethodName)) hown (mvT hZ (hw _ (List.mem_of_getElem? (i := 110) rfl))) (mvT hZ (hw _ (List.mem_of_getElem? (i := 111) rfl))) (mvT hZ (hw _ (List.mem_of_getElem? (i := 24) rfl))) (mvT hZ (hw _ (List.mem_of_getElem? (i := 112) rfl))) (by decide) (backOf (W := 0) (rm_uch l Z a0 hw [] t kt cs j fm h0 n0 O0 Kt hl hj hbd SA SH SLo rfm SF) hZ (hw _ (List.mem_of_getElem? (i := 112) rfl)) (hw _ (List.mem_of_getElem? (i := 24) rfl)) (by decide) (by decide)) (g := (mkF m 21 #[.val (.ref x), .val (.int (Int32.ofNat j))] [(.int (Int32.ofNat j)), (.ref t)])) rfl (by rw [hml]; rfl) (argsL := [(.ref t), (.int (Int32.ofNat j))]) (rest := []) (lenOf pd_5 rfl) rfl (by show 2 * 0 + _ ≤ _; exact Nat.le_of_eq rfl) (hb hby d21_21) (fun _ _ => ⟨rfl, e274, (by decide : 0 + 0 ≤ _), (by decide : 0 + 0 ≤ _)⟩)
    dsimp only [Pt.U, Pt.locs, Pt.cells, Pt.slots] at X275 l275 y275 z275 st275 hQ275
    subst l275 y275 z275
    obtain ⟨rfl, N275q, e275⟩ := hQ275
    have N275 := Fr.app N273 N275q
    refine own_go st275 ?_
    show own_Goes _ _ _ _ _ _ _ (T275.setTop (mkF m 24 #[.val (.ref x), .val (.int (Int32.ofNat j))] [(.int (cs.getD j 0))]))
    exact own_out X275 hlk (v := some (.int (cs.getD j 0))) (fun h => by rw [hret] at h; cases h) (fun fs hr => retOut X275 hx (t := .char) hret (StrChars.narrow_ch (hbd _ (own_getD_mem (j := j) (by omega))).1 (hbd _ (own_getD_mem (j := j) (by omega))).2) (Or.inl ⟨rfl, by simp, _, rfl⟩) (hb hby d21_24) hr) e275 ⟨rfl, N275, rfl⟩ (by decide) (by decide)
theorem d9_0 : decode jdk_30_method_1_code 0 = .ok (.aload_n 0, 1) := by decide +kernel
theorem d9_1 : decode jdk_30_method_1_code 1 = .ok (.invokespecial 1, 3) := by decide +kernel
theorem d9_4 : decode jdk_30_method_1_code 4 = .ok (.return_, 1) := by decide +kernel
theorem ef_recinit (m : MethodId) (a : Addr) : entryFrame m #[(.ref a)] 1 = mkF m 0 #[.val (.ref a)] [] := by
  first | (simp [entryFrame, mkF, argsToLocals, Value.category]; done) | rfl
def Q_recinit (Z : State) (a : Addr) (h0 : Heap) (n0 : Nat) (v : Option Value) (h : Heap) (L : List Loc) : Prop := v = none ∧ Fr n0 L ∧ h = h0
set_option maxRecDepth 65536 in
set_option maxHeartbeats 40000000 in
theorem rm_recinit (l : Launch) (Z : State) (a0 : Array Value) (hw : ∀ d ∈ tables_1, d.before a0 Z = true) (ws : List Jvm.Cond) (a : Addr) (h0 : Heap) (n0 : Nat) (O0 : Old Z n0 h0) :
    MetFree l (⟨"java/lang/Record", "<init>", "()V"⟩ : MethodName) (head1 (Jvm.Cond.code (⟨"java/lang/Record", "<init>", "()V"⟩ : MethodName) jdk_30_method_1_code 1 none :: ws) ({ frames := 1, cells := 0, slots := 0, locals := 12 } : Room)) (fun av_ U => av_ = #[(.ref a)] ∧ Z.Warmed39 U.vm ∧ U.heap = h0) (fun _ _ _ _ _ => True) (fun _ U o_ U' => ∃ v L, o_ = .returned v ∧ Q_recinit Z a h0 n0 v U'.heap L ∧ FrameEnd U o_ U' L ({ frames := 1, cells := 0, slots := 0, locals := 12 } : Room).cells ({ frames := 1, cells := 0, slots := 0, locals := 12 } : Room).slots) := by
  refine MetFree.of_bodySF (plainFor_of_name pn_5) hisR ?_
  intro p e s m args below meth c s₁ Bd hml0 hP hK
  obtain ⟨rfl, hZ, hh⟩ := hP
  have hx := Bd.exec
  have hby := Bd.bytes
  have hml : c.maxLocals = 1 := hml0
  have hown : s.vm.findClass "java/lang/Record" = some m.cls := findClass_of_methodNamed Bd.named
  have hnm := (name_of_methodNamed Bd.named Bd.method).1
  have hlk := own_lk Bd
  have hret := Bd.returns
  have X0 : Stand p l e ({ frames := 1, cells := 0, slots := 0, locals := 12 } : Room) s m #[(.ref a)] below meth c s₁ [] 0 0 := Stand.of_body Bd
  have e0 : s₁.heap = h0 := by rw [← hh, Bd.state]; rfl
  have N0 := Fr.nil n0
  show own_Goes p e below s (Q_recinit Z a h0 n0) ({ frames := 1, cells := 0, slots := 0, locals := 12 } : Room).cells ({ frames := 1, cells := 0, slots := 0, locals := 12 } : Room).slots (s₁.setTop (entryFrame m #[(.ref a)] 1))
  refine own_go (fun _ ww => castTop (ef_recinit m a) ww) ?_
  show own_Goes _ _ _ _ _ _ _ (s₁.setTop (mkF m 0 #[.val (.ref a)] []))
  refine own_go (fun _ ww => XS.aloadN X0.here hx rfl (hb hby d9_0) rfl rfl ww) ?_
  show own_Goes _ _ _ _ _ _ _ (s₁.setTop (mkF m 1 #[.val (.ref a)] [(.ref a)]))
  obtain ⟨T276, X276, e276, st276⟩ := initO X0 hx hZ hown (hw _ (List.mem_of_getElem? (i := 48) rfl)) (hw _ (List.mem_of_getElem? (i := 19) rfl)) (hw _ (List.mem_of_getElem? (i := 20) rfl)) e0 (g := (mkF m 1 #[.val (.ref a)] [(.ref a)])) rfl (by rw [hml]; rfl) rfl (hb hby d9_1) (by decide) (W := 0) (by show 2 * 0 + _ ≤ _; exact Nat.le_of_eq rfl) (by decide)
  refine own_go st276 ?_
  show own_Goes _ _ _ _ _ _ _ (T276.setTop (mkF m 4 #[.val (.ref a)] []))
  exact own_out X276 hlk (v := none) (fun _ => rfl) (fun fs hr => X276.returnOut hx hret (hb hby d9_4) hr) e276 ⟨rfl, N0, rfl⟩ (by decide) (by decide)
theorem d13_0 : decode jdk_41_method_12_code 0 = .ok (.iload_n 0, 1) := by decide +kernel
theorem d13_1 : decode jdk_41_method_12_code 1 = .ok (.ifCond .lt 13, 3) := by decide +kernel
theorem d13_4 : decode jdk_41_method_12_code 4 = .ok (.iload_n 0, 1) := by decide +kernel
theorem d13_5 : decode jdk_41_method_12_code 5 = .ok (.iload_n 1, 1) := by decide +kernel
theorem d13_6 : decode jdk_41_method_12_code 6 = .ok (.if_icmp .gt 8, 3) := by decide +kernel
theorem d13_9 : decode jdk_41_method_12_code 9 = .ok (.iload_n 1, 1) := by decide +kernel
theorem d13_10 : decode jdk_41_method_12_code 10 = .ok (.iload_n 2, 1) := by decide +kernel
theorem d13_11 : decode jdk_41_method_12_code 11 = .ok (.if_icmp .le 11, 3) := by decide +kernel
theorem d13_22 : decode jdk_41_method_12_code 22 = .ok (.iload_n 0, 1) := by decide +kernel
theorem d13_23 : decode jdk_41_method_12_code 23 = .ok (.ireturn, 1) := by decide +kernel
theorem ef_pft (m : MethodId) (f_ : Int32) (t_ : Int32) : entryFrame m #[(.int f_), (.int t_), (.int (6 : Int32)), .null] 4 = mkF m 0 #[.val (.int f_), .val (.int t_), .val (.int (6 : Int32)), .val .null] [] := by
  first | (simp [entryFrame, mkF, argsToLocals, Value.category]; done) | rfl
def Q_pft (Z : State) (f_ : Int32) (t_ : Int32) (h0 : Heap) (n0 : Nat) (v : Option Value) (h : Heap) (L : List Loc) : Prop := v = some (.int f_) ∧ Fr n0 L ∧ h = h0
set_option maxRecDepth 65536 in
set_option maxHeartbeats 40000000 in
theorem rm_pft (l : Launch) (Z : State) (a0 : Array Value) (hw : ∀ d ∈ tables_1, d.before a0 Z = true) (ws : List Jvm.Cond) (f_ : Int32) (t_ : Int32) (h0 : Heap) (n0 : Nat) (O0 : Old Z n0 h0) (h1 : ¬ f_ < 0) (h2 : ¬ t_ < f_) (h3 : ¬ (6 : Int32) < t_) :
    MetFree l (⟨"jdk/internal/util/Preconditions", "checkFromToIndex", "(IIILjava/util/function/BiFunction;)I"⟩ : MethodName) (head1 (Jvm.Cond.code (⟨"jdk/internal/util/Preconditions", "checkFromToIndex", "(IIILjava/util/function/BiFunction;)I"⟩ : MethodName) jdk_41_method_12_code 4 (some .int) :: ws) ({ frames := 0, cells := 0, slots := 0, locals := 0 } : Room)) (fun av_ U => av_ = #[(.int f_), (.int t_), (.int (6 : Int32)), .null] ∧ Z.Warmed39 U.vm ∧ U.heap = h0) (fun _ _ _ _ _ => True) (fun _ U o_ U' => ∃ v L, o_ = .returned v ∧ Q_pft Z f_ t_ h0 n0 v U'.heap L ∧ FrameEnd U o_ U' L ({ frames := 0, cells := 0, slots := 0, locals := 0 } : Room).cells ({ frames := 0, cells := 0, slots := 0, locals := 0 } : Room).slots) := by
  refine MetFree.of_bodySF (plainFor_of_name pn_3) hisR ?_
  intro p e s m args below meth c s₁ Bd hml0 hP hK
  obtain ⟨rfl, hZ, hh⟩ := hP
  have hx := Bd.exec
  have hby := Bd.bytes
  have hml : c.maxLocals = 4 := hml0
  have hown : s.vm.findClass "jdk/internal/util/Preconditions" = some m.cls := findClass_of_methodNamed Bd.named
  have hnm := (name_of_methodNamed Bd.named Bd.method).1
  have hlk := own_lk Bd
  have hret := Bd.returns
  have X0 : Stand p l e ({ frames := 0, cells := 0, slots := 0, locals := 0 } : Room) s m #[(.int f_), (.int t_), (.int (6 : Int32)), .null] below meth c s₁ [] 0 0 := Stand.of_body Bd
  have e0 : s₁.heap = h0 := by rw [← hh, Bd.state]; rfl
  have N0 := Fr.nil n0
  show own_Goes p e below s (Q_pft Z f_ t_ h0 n0) ({ frames := 0, cells := 0, slots := 0, locals := 0 } : Room).cells ({ frames := 0, cells := 0, slots := 0, locals := 0 } : Room).slots (s₁.setTop (entryFrame m #[(.int f_), (.int t_), (.int (6 : Int32)), .null] 4))
  refine own_go (fun _ ww => castTop (ef_pft m f_ t_) ww) ?_
  show own_Goes _ _ _ _ _ _ _ (s₁.setTop (mkF m 0 #[.val (.int f_), .val (.int t_), .val (.int (6 : Int32)), .val .null] []))
  refine own_go (fun _ ww => XS.iloadN X0.here hx rfl (hb hby d13_0) rfl  ww) ?_
  show own_Goes _ _ _ _ _ _ _ (s₁.setTop (mkF m 1 #[.val (.int f_), .val (.int t_), .val (.int (6 : Int32)), .val .null] [(.int f_)]))
  refine own_go (fun _ ww => XS.ifNo X0.here hx rfl (hb hby d13_1) rfl (own_if .lt (flt h1).1) ww) ?_
  show own_Goes _ _ _ _ _ _ _ (s₁.setTop (mkF m 4 #[.val (.int f_), .val (.int t_), .val (.int (6 : Int32)), .val .null] []))
  refine own_go (fun _ ww => XS.iloadN X0.here hx rfl (hb hby d13_4) rfl  ww) ?_
  show own_Goes _ _ _ _ _ _ _ (s₁.setTop (mkF m 5 #[.val (.int f_), .val (.int t_), .val (.int (6 : Int32)), .val .null] [(.int f_)]))
  refine own_go (fun _ ww => XS.iloadN X0.here hx rfl (hb hby d13_5) rfl  ww) ?_
  show own_Goes _ _ _ _ _ _ _ (s₁.setTop (mkF m 6 #[.val (.int f_), .val (.int t_), .val (.int (6 : Int32)), .val .null] [(.int t_), (.int f_)]))
  refine own_go (fun _ ww => XS.icmpNo X0.here hx rfl (hb hby d13_6) rfl (flt h2).2.2.1 ww) ?_
  show own_Goes _ _ _ _ _ _ _ (s₁.setTop (mkF m 9 #[.val (.int f_), .val (.int t_), .val (.int (6 : Int32)), .val .null] []))
  refine own_go (fun _ ww => XS.iloadN X0.here hx rfl (hb hby d13_9) rfl  ww) ?_
  show own_Goes _ _ _ _ _ _ _ (s₁.setTop (mkF m 10 #[.val (.int f_), .val (.int t_), .val (.int (6 : Int32)), .val .null] [(.int t_)]))
  refine own_go (fun _ ww => XS.iloadN X0.here hx rfl (hb hby d13_10) rfl  ww) ?_
  show own_Goes _ _ _ _ _ _ _ (s₁.setTop (mkF m 11 #[.val (.int f_), .val (.int t_), .val (.int (6 : Int32)), .val .null] [(.int (6 : Int32)), (.int t_)]))
  refine own_go (fun _ ww => XS.icmpYes X0.here hx rfl (pc0 := 11) (pc' := 22) rfl (hb hby d13_11) rfl (flt h3).2.2.2 (by decide) (by decide) ww) ?_
  show own_Goes _ _ _ _ _ _ _ (s₁.setTop (mkF m 22 #[.val (.int f_), .val (.int t_), .val (.int (6 : Int32)), .val .null] []))
  refine own_go (fun _ ww => XS.iloadN X0.here hx rfl (hb hby d13_22) rfl  ww) ?_
  show own_Goes _ _ _ _ _ _ _ (s₁.setTop (mkF m 23 #[.val (.int f_), .val (.int t_), .val (.int (6 : Int32)), .val .null] [(.int f_)]))
  exact own_out X0 hlk (v := some (.int f_)) (fun h => by rw [hret] at h; cases h) (fun fs hr => retOut X0 hx (t := .int) hret rfl (Or.inl ⟨rfl, by simp, _, rfl⟩) (hb hby d13_23) hr) e0 ⟨rfl, N0, rfl⟩ (by decide) (by decide)
theorem d12_0 : decode jdk_31_method_18_code 0 = .ok (.iload_n 0, 1) := by decide +kernel
theorem d12_1 : decode jdk_31_method_18_code 1 = .ok (.iload_n 1, 1) := by decide +kernel
theorem d12_2 : decode jdk_31_method_18_code 2 = .ok (.iload_n 2, 1) := by decide +kernel
theorem d12_3 : decode jdk_31_method_18_code 3 = .ok (.aconst_null, 1) := by decide +kernel
theorem d12_4 : decode jdk_31_method_18_code 4 = .ok (.invokestatic 111, 3) := by decide +kernel
theorem d12_7 : decode jdk_31_method_18_code 7 = .ok (.ireturn, 1) := by decide +kernel
theorem ef_oft (m : MethodId) (f_ : Int32) (t_ : Int32) : entryFrame m #[(.int f_), (.int t_), (.int (6 : Int32))] 3 = mkF m 0 #[.val (.int f_), .val (.int t_), .val (.int (6 : Int32))] [] := by
  first | (simp [entryFrame, mkF, argsToLocals, Value.category]; done) | rfl
def Q_oft (Z : State) (f_ : Int32) (t_ : Int32) (h0 : Heap) (n0 : Nat) (v : Option Value) (h : Heap) (L : List Loc) : Prop := v = some (.int f_) ∧ Fr n0 L ∧ h = h0
set_option maxRecDepth 65536 in
set_option maxHeartbeats 40000000 in
theorem rm_oft (l : Launch) (Z : State) (a0 : Array Value) (hw : ∀ d ∈ tables_1, d.before a0 Z = true) (ws : List Jvm.Cond) (f_ : Int32) (t_ : Int32) (h0 : Heap) (n0 : Nat) (O0 : Old Z n0 h0) (h1 : ¬ f_ < 0) (h2 : ¬ t_ < f_) (h3 : ¬ (6 : Int32) < t_) :
    MetFree l (⟨"java/util/Objects", "checkFromToIndex", "(III)I"⟩ : MethodName) (head1 (Jvm.Cond.code (⟨"java/util/Objects", "checkFromToIndex", "(III)I"⟩ : MethodName) jdk_31_method_18_code 3 (some .int) :: ws) ({ frames := 1, cells := 0, slots := 0, locals := 15 } : Room)) (fun av_ U => av_ = #[(.int f_), (.int t_), (.int (6 : Int32))] ∧ Z.Warmed39 U.vm ∧ U.heap = h0) (fun _ _ _ _ _ => True) (fun _ U o_ U' => ∃ v L, o_ = .returned v ∧ Q_oft Z f_ t_ h0 n0 v U'.heap L ∧ FrameEnd U o_ U' L ({ frames := 1, cells := 0, slots := 0, locals := 15 } : Room).cells ({ frames := 1, cells := 0, slots := 0, locals := 15 } : Room).slots) := by
  refine MetFree.of_bodySF (plainFor_of_name pn_6) hisR ?_
  intro p e s m args below meth c s₁ Bd hml0 hP hK
  obtain ⟨rfl, hZ, hh⟩ := hP
  have hx := Bd.exec
  have hby := Bd.bytes
  have hml : c.maxLocals = 3 := hml0
  have hown : s.vm.findClass "java/util/Objects" = some m.cls := findClass_of_methodNamed Bd.named
  have hnm := (name_of_methodNamed Bd.named Bd.method).1
  have hlk := own_lk Bd
  have hret := Bd.returns
  have X0 : Stand p l e ({ frames := 1, cells := 0, slots := 0, locals := 15 } : Room) s m #[(.int f_), (.int t_), (.int (6 : Int32))] below meth c s₁ [] 0 0 := Stand.of_body Bd
  have e0 : s₁.heap = h0 := by rw [← hh, Bd.state]; rfl
  have N0 := Fr.nil n0
  show own_Goes p e below s (Q_oft Z f_ t_ h0 n0) ({ frames := 1, cells := 0, slots := 0, locals := 15 } : Room).cells ({ frames := 1, cells := 0, slots := 0, locals := 15 } : Room).slots (s₁.setTop (entryFrame m #[(.int f_), (.int t_), (.int (6 : Int32))] 3))
  refine own_go (fun _ ww => castTop (ef_oft m f_ t_) ww) ?_
  show own_Goes _ _ _ _ _ _ _ (s₁.setTop (mkF m 0 #[.val (.int f_), .val (.int t_), .val (.int (6 : Int32))] []))
  refine own_go (fun _ ww => XS.iloadN X0.here hx rfl (hb hby d12_0) rfl  ww) ?_
  show own_Goes _ _ _ _ _ _ _ (s₁.setTop (mkF m 1 #[.val (.int f_), .val (.int t_), .val (.int (6 : Int32))] [(.int f_)]))
  refine own_go (fun _ ww => XS.iloadN X0.here hx rfl (hb hby d12_1) rfl  ww) ?_
  show own_Goes _ _ _ _ _ _ _ (s₁.setTop (mkF m 2 #[.val (.int f_), .val (.int t_), .val (.int (6 : Int32))] [(.int t_), (.int f_)]))
  refine own_go (fun _ ww => XS.iloadN X0.here hx rfl (hb hby d12_2) rfl  ww) ?_
  show own_Goes _ _ _ _ _ _ _ (s₁.setTop (mkF m 3 #[.val (.int f_), .val (.int t_), .val (.int (6 : Int32))] [(.int (6 : Int32)), (.int t_), (.int f_)]))
  refine own_go (fun _ ww => XS.aconstNull X0.here hx rfl (hb hby d12_3) ww) ?_
  show own_Goes _ _ _ _ _ _ _ (s₁.setTop (mkF m 4 #[.val (.int f_), .val (.int t_), .val (.int (6 : Int32))] [.null, (.int (6 : Int32)), (.int t_), (.int f_)]))
  obtain ⟨_, _, ⟨T277, L277, k277, n277⟩, -, X277, ⟨Lc277, hQ277, l277, y277, z277⟩, st277⟩ := Jvm.LawKit.callS X0 hx (y := (⟨"jdk/internal/util/Preconditions", "checkFromToIndex", "(IIILjava/util/function/BiFunction;)I"⟩ : MethodName)) hown (mvT hZ (hw _ (List.mem_of_getElem? (i := 63) rfl))) (mvT hZ (hw _ (List.mem_of_getElem? (i := 64) rfl))) (mvT hZ (hw _ (List.mem_of_getElem? (i := 65) rfl))) (mvT hZ (hw _ (List.mem_of_getElem? (i := 66) rfl))) (by decide) (backOf (W := 0) (rm_pft l Z a0 hw [] f_ t_ h0 n0 O0 h1 h2 h3) hZ (hw _ (List.mem_of_getElem? (i := 66) rfl)) (hw _ (List.mem_of_getElem? (i := 65) rfl)) (by decide) (by decide)) (g := (mkF m 4 #[.val (.int f_), .val (.int t_), .val (.int (6 : Int32))] [.null, (.int (6 : Int32)), (.int t_), (.int f_)])) rfl (by rw [hml]; rfl) (argsL := [(.int f_), (.int t_), (.int (6 : Int32)), .null]) (rest := []) (lenOf pd_14 rfl) rfl (by show 2 * 0 + _ ≤ _; exact Nat.le_of_eq rfl) (hb hby d12_4) (fun _ _ => ⟨rfl, e0, (by decide : 0 + 0 ≤ _), (by decide : 0 + 0 ≤ _)⟩)
  dsimp only [Pt.U, Pt.locs, Pt.cells, Pt.slots] at X277 l277 y277 z277 st277 hQ277
  subst l277 y277 z277
  obtain ⟨rfl, N277q, e277⟩ := hQ277
  have N277 := Fr.app N0 N277q
  refine own_go st277 ?_
  show own_Goes _ _ _ _ _ _ _ (T277.setTop (mkF m 7 #[.val (.int f_), .val (.int t_), .val (.int (6 : Int32))] [(.int f_)]))
  exact own_out X277 hlk (v := some (.int f_)) (fun h => by rw [hret] at h; cases h) (fun fs hr => retOut X277 hx (t := .int) hret rfl (Or.inl ⟨rfl, by simp, _, rfl⟩) (hb hby d12_7) hr) e277 ⟨rfl, N277, rfl⟩ (by decide) (by decide)
theorem d8_0 : decode prog_17_method_1_code 0 = .ok (.aload_n 0, 1) := by decide +kernel
theorem d8_1 : decode prog_17_method_1_code 1 = .ok (.invokespecial 1, 3) := by decide +kernel
theorem d8_4 : decode prog_17_method_1_code 4 = .ok (.iload_n 2, 1) := by decide +kernel
theorem d8_5 : decode prog_17_method_1_code 5 = .ok (.iload_n 3, 1) := by decide +kernel
theorem d8_6 : decode prog_17_method_1_code 6 = .ok (.aload_n 1, 1) := by decide +kernel
theorem d8_7 : decode prog_17_method_1_code 7 = .ok (.invokevirtual 7, 3) := by decide +kernel
theorem d8_10 : decode prog_17_method_1_code 10 = .ok (.invokestatic 13, 3) := by decide +kernel
theorem d8_13 : decode prog_17_method_1_code 13 = .ok (.pop, 1) := by decide +kernel
theorem d8_14 : decode prog_17_method_1_code 14 = .ok (.aload_n 0, 1) := by decide +kernel
theorem d8_15 : decode prog_17_method_1_code 15 = .ok (.aload_n 1, 1) := by decide +kernel
theorem d8_16 : decode prog_17_method_1_code 16 = .ok (.putfield 19, 3) := by decide +kernel
theorem d8_19 : decode prog_17_method_1_code 19 = .ok (.aload_n 0, 1) := by decide +kernel
theorem d8_20 : decode prog_17_method_1_code 20 = .ok (.iload_n 2, 1) := by decide +kernel
theorem d8_21 : decode prog_17_method_1_code 21 = .ok (.putfield 25, 3) := by decide +kernel
theorem d8_24 : decode prog_17_method_1_code 24 = .ok (.aload_n 0, 1) := by decide +kernel
theorem d8_25 : decode prog_17_method_1_code 25 = .ok (.iload_n 3, 1) := by decide +kernel
theorem d8_26 : decode prog_17_method_1_code 26 = .ok (.putfield 29, 3) := by decide +kernel
theorem d8_29 : decode prog_17_method_1_code 29 = .ok (.return_, 1) := by decide +kernel
theorem ef_spi (m : MethodId) (y : Addr) (x : Addr) (t : Addr) (kt : ClassId) (cd : Int32) (N2 : Int32) (vs : List Value) (cs : List Int32) (zc : Int32) (f_ : Int32) (t_ : Int32) : entryFrame m #[(.ref y), (.ref x), (.int f_), (.int t_)] 4 = mkF m 0 #[.val (.ref y), .val (.ref x), .val (.int f_), .val (.int t_)] [] := by
  first | (simp [entryFrame, mkF, argsToLocals, Value.category]; done) | rfl
def Q_spi (Z : State) (y : Addr) (x : Addr) (t : Addr) (kt : ClassId) (cd : Int32) (N2 : Int32) (vs : List Value) (cs : List Int32) (zc : Int32) (f_ : Int32) (t_ : Int32) (h0 : Heap) (n0 : Nat) (v : Option Value) (h : Heap) (L : List Loc) : Prop := v = none ∧ Fr n0 L ∧ Keep h0 h [y] ∧ Fld Z h y "org/graticule/read/Span" "text" "Ljava/lang/String;" (.ref x) ∧ Fld Z h y "org/graticule/read/Span" "from" "I" (.int f_) ∧ Fld Z h y "org/graticule/read/Span" "to" "I" (.int t_)
set_option maxRecDepth 65536 in
set_option maxHeartbeats 40000000 in
theorem rm_spi (l : Launch) (Z : State) (a0 : Array Value) (hw : ∀ d ∈ tables_1, d.before a0 Z = true) (ws : List Jvm.Cond) (y : Addr) (x : Addr) (t : Addr) (kt : ClassId) (cd : Int32) (N2 : Int32) (vs : List Value) (cs : List Int32) (zc : Int32) (f_ : Int32) (t_ : Int32) (h0 : Heap) (n0 : Nat) (O0 : Old Z n0 h0) (Ex : Exa Z h0 x "java/lang/String") (Fc : Fld Z h0 x "java/lang/String" "coder" "B" (.int cd)) (Fv : Fld Z h0 x "java/lang/String" "value" "[B" (.ref t)) (Kt : Arv Z h0 t kt .byte N2 vs (.int (0 : Int32))) (hcd : own_Cod cs cd N2 vs) (hl : cs.length = 6) (hbd : ∀ c ∈ cs, ¬ c < 0 ∧ ¬ (65535 : Int32) < c) (SC : Sta Z Z.heap "java/lang/String" "COMPACT_STRINGS" "Z" (.int zc)) (hzc : ¬ zc = 0) (h1 : ¬ f_ < 0) (h2 : ¬ t_ < f_) (h3 : ¬ (6 : Int32) < t_) (G0 : Fld Z h0 y "org/graticule/read/Span" "text" "Ljava/lang/String;" .null) (G1 : Fld Z h0 y "org/graticule/read/Span" "from" "I" (.int (0 : Int32))) (G2 : Fld Z h0 y "org/graticule/read/Span" "to" "I" (.int (0 : Int32))) (Ey : Exa Z h0 y "org/graticule/read/Span") (g_y : n0 ≤ y) (nxy : x ≠ y) (nty : t ≠ y) :
    MetFree l (⟨"org/graticule/read/Span", "<init>", "(Ljava/lang/String;II)V"⟩ : MethodName) (head1 (Jvm.Cond.code (⟨"org/graticule/read/Span", "<init>", "(Ljava/lang/String;II)V"⟩ : MethodName) prog_17_method_1_code 4 none :: ws) ({ frames := 2, cells := 0, slots := 0, locals := 29 } : Room)) (fun av_ U => av_ = #[(.ref y), (.ref x), (.int f_), (.int t_)] ∧ Z.Warmed39 U.vm ∧ U.heap = h0) (fun _ _ _ _ _ => True) (fun _ U o_ U' => ∃ v L, o_ = .returned v ∧ Q_spi Z y x t kt cd N2 vs cs zc f_ t_ h0 n0 v U'.heap L ∧ FrameEnd U o_ U' L ({ frames := 2, cells := 0, slots := 0, locals := 29 } : Room).cells ({ frames := 2, cells := 0, slots := 0, locals := 29 } : Room).slots) := by
  refine MetFree.of_bodySF (plainFor_of_name pn_7) hisR ?_
  intro p e s m args below meth c s₁ Bd hml0 hP hK
  obtain ⟨rfl, hZ, hh⟩ := hP
  have hx := Bd.exec
  have hby := Bd.bytes
  have hml : c.maxLocals = 4 := hml0
  have hown : s.vm.findClass "org/graticule/read/Span" = some m.cls := findClass_of_methodNamed Bd.named
  have hnm := (name_of_methodNamed Bd.named Bd.method).1
  have hlk := own_lk Bd
  have hret := Bd.returns
  have X0 : Stand p l e ({ frames := 2, cells := 0, slots := 0, locals := 29 } : Room) s m #[(.ref y), (.ref x), (.int f_), (.int t_)] below meth c s₁ [] 0 0 := Stand.of_body Bd
  have e0 : s₁.heap = h0 := by rw [← hh, Bd.state]; rfl
  have N0 := Fr.nil n0
  show own_Goes p e below s (Q_spi Z y x t kt cd N2 vs cs zc f_ t_ h0 n0) ({ frames := 2, cells := 0, slots := 0, locals := 29 } : Room).cells ({ frames := 2, cells := 0, slots := 0, locals := 29 } : Room).slots (s₁.setTop (entryFrame m #[(.ref y), (.ref x), (.int f_), (.int t_)] 4))
  refine own_go (fun _ ww => castTop (ef_spi m y x t kt cd N2 vs cs zc f_ t_) ww) ?_
  show own_Goes _ _ _ _ _ _ _ (s₁.setTop (mkF m 0 #[.val (.ref y), .val (.ref x), .val (.int f_), .val (.int t_)] []))
  refine own_go (fun _ ww => XS.aloadN X0.here hx rfl (hb hby d8_0) rfl rfl ww) ?_
  show own_Goes _ _ _ _ _ _ _ (s₁.setTop (mkF m 1 #[.val (.ref y), .val (.ref x), .val (.int f_), .val (.int t_)] [(.ref y)]))
  obtain ⟨_, _, ⟨T278, L278, k278, n278⟩, -, X278, ⟨Lc278, hQ278, l278, y278, z278⟩, st278⟩ := X0.specialBack hx (y := (⟨"java/lang/Record", "<init>", "()V"⟩ : MethodName)) rfl hown (mvT hZ (hw _ (List.mem_of_getElem? (i := 43) rfl))) (mvT hZ (hw _ (List.mem_of_getElem? (i := 44) rfl))) (mvT hZ (hw _ (List.mem_of_getElem? (i := 47) rfl))) (by decide) (backOf (W := 0) (rm_recinit l Z a0 hw [] y h0 n0 O0 ) hZ (hw _ (List.mem_of_getElem? (i := 47) rfl)) (hw _ (List.mem_of_getElem? (i := 46) rfl)) (by decide) (by decide)) (g := (mkF m 1 #[.val (.ref y), .val (.ref x), .val (.int f_), .val (.int t_)] [(.ref y)])) rfl (by rw [hml]; rfl) (Steps.refl _) (a := y) (argsL := []) (rest := []) (lenOf pd_15 rfl) rfl (by show 2 * 0 + _ ≤ _; exact Nat.le_of_eq rfl) (hb hby d8_1) (fun _ _ => ⟨rfl, e0, (by decide : 0 + 0 ≤ _), (by decide : 0 + 0 ≤ _)⟩)
  dsimp only [Pt.U, Pt.locs, Pt.cells, Pt.slots] at X278 l278 y278 z278 st278 hQ278
  subst l278 y278 z278
  obtain ⟨rfl, N278q, e278⟩ := hQ278
  have N278 := Fr.app N0 N278q
  refine own_go (fun _ ww => Steps.trans st278 ww) ?_
  show own_Goes _ _ _ _ _ _ _ (T278.setTop (mkF m 4 #[.val (.ref y), .val (.ref x), .val (.int f_), .val (.int t_)] []))
  refine own_go (fun _ ww => XS.iloadN X278.here hx rfl (hb hby d8_4) rfl  ww) ?_
  show own_Goes _ _ _ _ _ _ _ (T278.setTop (mkF m 5 #[.val (.ref y), .val (.ref x), .val (.int f_), .val (.int t_)] [(.int f_)]))
  refine own_go (fun _ ww => XS.iloadN X278.here hx rfl (hb hby d8_5) rfl  ww) ?_
  show own_Goes _ _ _ _ _ _ _ (T278.setTop (mkF m 6 #[.val (.ref y), .val (.ref x), .val (.int f_), .val (.int t_)] [(.int t_), (.int f_)]))
  refine own_go (fun _ ww => XS.aloadN X278.here hx rfl (hb hby d8_6) rfl rfl ww) ?_
  show own_Goes _ _ _ _ _ _ _ (T278.setTop (mkF m 7 #[.val (.ref y), .val (.ref x), .val (.int f_), .val (.int t_)] [(.ref x), (.int t_), (.int f_)]))
  obtain ⟨cq279, kq279, q279a, q279b, q279c⟩ := isOf hZ e278 Ex
  obtain ⟨_, _, ⟨T279, L279, k279, n279⟩, -, X279, ⟨Lc279, hQ279, l279, y279, z279⟩, st279⟩ := X278.virtualBack hx (y := (⟨"java/lang/String", "length", "()I"⟩ : MethodName)) (z := (⟨"java/lang/String", "length", "()I"⟩ : MethodName)) hown (mvT hZ (hw _ (List.mem_of_getElem? (i := 49) rfl))) (mvT hZ (hw _ (List.mem_of_getElem? (i := 50) rfl))) (notFace_of_selects (args := #[]) (mvT hZ (hw _ (List.mem_of_getElem? (i := 52) rfl)))) (mvT hZ (hw _ (List.mem_of_getElem? (i := 52) rfl))) (mvT hZ (hw _ (List.mem_of_getElem? (i := 51) rfl))) (by decide) (backOf (W := 2) (rm_len l Z a0 hw [] x t kt cd N2 vs cs zc h0 n0 O0 Ex Fc Fv Kt hcd hl hbd SC hzc) hZ (hw _ (List.mem_of_getElem? (i := 53) rfl)) (hw _ (List.mem_of_getElem? (i := 10) rfl)) (by decide) (by decide)) q279a q279c (g := (mkF m 7 #[.val (.ref y), .val (.ref x), .val (.int f_), .val (.int t_)] [(.ref x), (.int t_), (.int f_)])) rfl (by rw [hml]; rfl) (Steps.refl _) (argsL := []) (rest := [(.int t_), (.int f_)]) (lenOf pd_16 rfl) rfl (by show 2 * 0 + _ ≤ _; exact Nat.le_of_eq rfl) (hb hby d8_7) (fun _ _ => ⟨rfl, e278, (by decide : 0 + 0 ≤ _), (by decide : 0 + 0 ≤ _)⟩)
  dsimp only [Pt.U, Pt.locs, Pt.cells, Pt.slots] at X279 l279 y279 z279 st279 hQ279
  subst l279 y279 z279
  obtain ⟨rfl, N279q, e279⟩ := hQ279
  have N279 := Fr.app N278 N279q
  refine own_go (fun _ ww => Steps.trans st279 ww) ?_
  show own_Goes _ _ _ _ _ _ _ (T279.setTop (mkF m 10 #[.val (.ref y), .val (.ref x), .val (.int f_), .val (.int t_)] [(.int (6 : Int32)), (.int t_), (.int f_)]))
  obtain ⟨_, _, ⟨T280, L280, k280, n280⟩, -, X280, ⟨Lc280, hQ280, l280, y280, z280⟩, st280⟩ := Jvm.LawKit.callS X279 hx (y := (⟨"java/util/Objects", "checkFromToIndex", "(III)I"⟩ : MethodName)) hown (mvT hZ (hw _ (List.mem_of_getElem? (i := 59) rfl))) (mvT hZ (hw _ (List.mem_of_getElem? (i := 60) rfl))) (mvT hZ (hw _ (List.mem_of_getElem? (i := 61) rfl))) (mvT hZ (hw _ (List.mem_of_getElem? (i := 62) rfl))) (by decide) (backOf (W := 0) (rm_oft l Z a0 hw [] f_ t_ h0 n0 O0 h1 h2 h3) hZ (hw _ (List.mem_of_getElem? (i := 62) rfl)) (hw _ (List.mem_of_getElem? (i := 61) rfl)) (by decide) (by decide)) (g := (mkF m 10 #[.val (.ref y), .val (.ref x), .val (.int f_), .val (.int t_)] [(.int (6 : Int32)), (.int t_), (.int f_)])) rfl (by rw [hml]; rfl) (argsL := [(.int f_), (.int t_), (.int (6 : Int32))]) (rest := []) (lenOf pd_17 rfl) rfl (by show 2 * 0 + _ ≤ _; exact Nat.le_of_eq rfl) (hb hby d8_10) (fun _ _ => ⟨rfl, e279, (by decide : 0 + 0 ≤ _), (by decide : 0 + 0 ≤ _)⟩)
  dsimp only [Pt.U, Pt.locs, Pt.cells, Pt.slots] at X280 l280 y280 z280 st280 hQ280
  subst l280 y280 z280
  obtain ⟨rfl, N280q, e280⟩ := hQ280
  have N280 := Fr.app N279 N280q
  refine own_go st280 ?_
  show own_Goes _ _ _ _ _ _ _ (T280.setTop (mkF m 13 #[.val (.ref y), .val (.ref x), .val (.int f_), .val (.int t_)] [(.int f_)]))
  refine own_go (fun _ ww => XT.pop X280.here hx rfl (hb hby d8_13) rfl rfl ww) ?_
  show own_Goes _ _ _ _ _ _ _ (T280.setTop (mkF m 14 #[.val (.ref y), .val (.ref x), .val (.int f_), .val (.int t_)] []))
  refine own_go (fun _ ww => XS.aloadN X280.here hx rfl (hb hby d8_14) rfl rfl ww) ?_
  show own_Goes _ _ _ _ _ _ _ (T280.setTop (mkF m 15 #[.val (.ref y), .val (.ref x), .val (.int f_), .val (.int t_)] [(.ref y)]))
  refine own_go (fun _ ww => XS.aloadN X280.here hx rfl (hb hby d8_15) rfl rfl ww) ?_
  show own_Goes _ _ _ _ _ _ _ (T280.setTop (mkF m 16 #[.val (.ref y), .val (.ref x), .val (.int f_), .val (.int t_)] [(.ref x), (.ref y)]))
  obtain ⟨T281, h281, X281, e281, W281, st281⟩ := putF X280 hx hZ hown (host := "") (Or.inl (hw _ (List.mem_of_getElem? (i := 67) rfl))) Via.refl e280 G0 Ey (Or.inr ⟨(hw _ (List.mem_of_getElem? (i := 68) rfl)), rfl, hnm⟩) (hw _ (List.mem_of_getElem? (i := 38) rfl)) (ty := (.object "java/lang/String")) (by decide) rfl rfl (g := (mkF m 16 #[.val (.ref y), .val (.ref x), .val (.int f_), .val (.int t_)] [(.ref x), (.ref y)])) rfl rfl (hb hby d8_16)
  have f282 : Exa Z h281 x "java/lang/String" := (Ex.wr W281)
  have f283 : Fld Z h281 x "java/lang/String" "coder" "B" (.int cd) := (Fc.other W281 (Or.inl nxy))
  have f284 : Fld Z h281 x "java/lang/String" "value" "[B" (.ref t) := (Fv.other W281 (Or.inl nxy))
  have f285 : Arv Z h281 t kt .byte N2 vs (.int (0 : Int32)) := (Kt.other W281 nty)
  have f286 : Fld Z h281 y "org/graticule/read/Span" "text" "Ljava/lang/String;" (.ref x) := (G0.same W281)
  have f287 : Fld Z h281 y "org/graticule/read/Span" "from" "I" (.int (0 : Int32)) := (G1.other W281 (Or.inr (slot_ne (Or.inr (hw _ (List.mem_of_getElem? (i := 70) rfl))) (Or.inr (hw _ (List.mem_of_getElem? (i := 68) rfl))) (by decide) (t := .int) (t' := (.object "java/lang/String")) (by decide) (by decide))))
  have f288 : Fld Z h281 y "org/graticule/read/Span" "to" "I" (.int (0 : Int32)) := (G2.other W281 (Or.inr (slot_ne (Or.inr (hw _ (List.mem_of_getElem? (i := 72) rfl))) (Or.inr (hw _ (List.mem_of_getElem? (i := 68) rfl))) (by decide) (t := .int) (t' := (.object "java/lang/String")) (by decide) (by decide))))
  have f289 : Exa Z h281 y "org/graticule/read/Span" := (Ey.wr W281)
  have N281 := Fr.snoc X281 N280 g_y
  have O281 := O0.wr W281 g_y
  have K281 := (Keep.refl h0 [y]).wr W281 (Or.inl (List.mem_of_getElem? (i := 0) rfl))
  refine own_go st281 ?_
  show own_Goes _ _ _ _ _ _ _ (T281.setTop (mkF m 19 #[.val (.ref y), .val (.ref x), .val (.int f_), .val (.int t_)] []))
  refine own_go (fun _ ww => XS.aloadN X281.here hx rfl (hb hby d8_19) rfl rfl ww) ?_
  show own_Goes _ _ _ _ _ _ _ (T281.setTop (mkF m 20 #[.val (.ref y), .val (.ref x), .val (.int f_), .val (.int t_)] [(.ref y)]))
  refine own_go (fun _ ww => XS.iloadN X281.here hx rfl (hb hby d8_20) rfl  ww) ?_
  show own_Goes _ _ _ _ _ _ _ (T281.setTop (mkF m 21 #[.val (.ref y), .val (.ref x), .val (.int f_), .val (.int t_)] [(.int f_), (.ref y)]))
  obtain ⟨T290, h290, X290, e290, W290, st290⟩ := putF X281 hx hZ hown (host := "") (Or.inl (hw _ (List.mem_of_getElem? (i := 69) rfl))) Via.refl e281 f287 f289 (Or.inr ⟨(hw _ (List.mem_of_getElem? (i := 70) rfl)), rfl, hnm⟩) (hw _ (List.mem_of_getElem? (i := 38) rfl)) (ty := .int) (by decide) rfl rfl (g := (mkF m 21 #[.val (.ref y), .val (.ref x), .val (.int f_), .val (.int t_)] [(.int f_), (.ref y)])) rfl rfl (hb hby d8_21)
  have f291 : Exa Z h290 x "java/lang/String" := (f282.wr W290)
  have f292 : Fld Z h290 x "java/lang/String" "coder" "B" (.int cd) := (f283.other W290 (Or.inl nxy))
  have f293 : Fld Z h290 x "java/lang/String" "value" "[B" (.ref t) := (f284.other W290 (Or.inl nxy))
  have f294 : Arv Z h290 t kt .byte N2 vs (.int (0 : Int32)) := (f285.other W290 nty)
  have f295 : Fld Z h290 y "org/graticule/read/Span" "text" "Ljava/lang/String;" (.ref x) := (f286.other W290 (Or.inr (slot_ne (Or.inr (hw _ (List.mem_of_getElem? (i := 68) rfl))) (Or.inr (hw _ (List.mem_of_getElem? (i := 70) rfl))) (by decide) (t := (.object "java/lang/String")) (t' := .int) (by decide) (by decide))))
  have f296 : Fld Z h290 y "org/graticule/read/Span" "from" "I" (.int f_) := (f287.same W290)
  have f297 : Fld Z h290 y "org/graticule/read/Span" "to" "I" (.int (0 : Int32)) := (f288.other W290 (Or.inr (slot_ne (Or.inr (hw _ (List.mem_of_getElem? (i := 72) rfl))) (Or.inr (hw _ (List.mem_of_getElem? (i := 70) rfl))) (by decide) (t := .int) (t' := .int) (by decide) (by decide))))
  have f298 : Exa Z h290 y "org/graticule/read/Span" := (f289.wr W290)
  have N290 := Fr.snoc X290 N281 g_y
  have O290 := O281.wr W290 g_y
  have K290 := K281.wr W290 (Or.inl (List.mem_of_getElem? (i := 0) rfl))
  refine own_go st290 ?_
  show own_Goes _ _ _ _ _ _ _ (T290.setTop (mkF m 24 #[.val (.ref y), .val (.ref x), .val (.int f_), .val (.int t_)] []))
  refine own_go (fun _ ww => XS.aloadN X290.here hx rfl (hb hby d8_24) rfl rfl ww) ?_
  show own_Goes _ _ _ _ _ _ _ (T290.setTop (mkF m 25 #[.val (.ref y), .val (.ref x), .val (.int f_), .val (.int t_)] [(.ref y)]))
  refine own_go (fun _ ww => XS.iloadN X290.here hx rfl (hb hby d8_25) rfl  ww) ?_
  show own_Goes _ _ _ _ _ _ _ (T290.setTop (mkF m 26 #[.val (.ref y), .val (.ref x), .val (.int f_), .val (.int t_)] [(.int t_), (.ref y)]))
  obtain ⟨T299, h299, X299, e299, W299, st299⟩ := putF X290 hx hZ hown (host := "") (Or.inl (hw _ (List.mem_of_getElem? (i := 71) rfl))) Via.refl e290 f297 f298 (Or.inr ⟨(hw _ (List.mem_of_getElem? (i := 72) rfl)), rfl, hnm⟩) (hw _ (List.mem_of_getElem? (i := 38) rfl)) (ty := .int) (by decide) rfl rfl (g := (mkF m 26 #[.val (.ref y), .val (.ref x), .val (.int f_), .val (.int t_)] [(.int t_), (.ref y)])) rfl rfl (hb hby d8_26)
  have f300 : Exa Z h299 x "java/lang/String" := (f291.wr W299)
  have f301 : Fld Z h299 x "java/lang/String" "coder" "B" (.int cd) := (f292.other W299 (Or.inl nxy))
  have f302 : Fld Z h299 x "java/lang/String" "value" "[B" (.ref t) := (f293.other W299 (Or.inl nxy))
  have f303 : Arv Z h299 t kt .byte N2 vs (.int (0 : Int32)) := (f294.other W299 nty)
  have f304 : Fld Z h299 y "org/graticule/read/Span" "text" "Ljava/lang/String;" (.ref x) := (f295.other W299 (Or.inr (slot_ne (Or.inr (hw _ (List.mem_of_getElem? (i := 68) rfl))) (Or.inr (hw _ (List.mem_of_getElem? (i := 72) rfl))) (by decide) (t := (.object "java/lang/String")) (t' := .int) (by decide) (by decide))))
  have f305 : Fld Z h299 y "org/graticule/read/Span" "from" "I" (.int f_) := (f296.other W299 (Or.inr (slot_ne (Or.inr (hw _ (List.mem_of_getElem? (i := 70) rfl))) (Or.inr (hw _ (List.mem_of_getElem? (i := 72) rfl))) (by decide) (t := .int) (t' := .int) (by decide) (by decide))))
  have f306 : Fld Z h299 y "org/graticule/read/Span" "to" "I" (.int t_) := (f297.same W299)
  have f307 : Exa Z h299 y "org/graticule/read/Span" := (f298.wr W299)
  have N299 := Fr.snoc X299 N290 g_y
  have O299 := O290.wr W299 g_y
  have K299 := K290.wr W299 (Or.inl (List.mem_of_getElem? (i := 0) rfl))
  refine own_go st299 ?_
  show own_Goes _ _ _ _ _ _ _ (T299.setTop (mkF m 29 #[.val (.ref y), .val (.ref x), .val (.int f_), .val (.int t_)] []))
  exact own_out X299 hlk (v := none) (fun _ => rfl) (fun fs hr => X299.returnOut hx hret (hb hby d8_29) hr) e299 ⟨rfl, N299, K299, f304, f305, f306⟩ (by decide) (by decide)
theorem d14_0 : decode prog_17_method_11_code 0 = .ok (.aload_n 0, 1) := by decide +kernel
theorem d14_1 : decode prog_17_method_11_code 1 = .ok (.getfield 25, 3) := by decide +kernel
theorem d14_4 : decode prog_17_method_11_code 4 = .ok (.iload_n 1, 1) := by decide +kernel
theorem d14_5 : decode prog_17_method_11_code 5 = .ok (.iadd, 1) := by decide +kernel
theorem d14_6 : decode prog_17_method_11_code 6 = .ok (.istore_n 2, 1) := by decide +kernel
theorem d14_7 : decode prog_17_method_11_code 7 = .ok (.iload_n 2, 1) := by decide +kernel
theorem d14_8 : decode prog_17_method_11_code 8 = .ok (.aload_n 0, 1) := by decide +kernel
theorem d14_9 : decode prog_17_method_11_code 9 = .ok (.getfield 29, 3) := by decide +kernel
theorem d14_12 : decode prog_17_method_11_code 12 = .ok (.if_icmp .ge 35, 3) := by decide +kernel
theorem d14_47 : decode prog_17_method_11_code 47 = .ok (.iload_n 2, 1) := by decide +kernel
theorem d14_48 : decode prog_17_method_11_code 48 = .ok (.aload_n 0, 1) := by decide +kernel
theorem d14_49 : decode prog_17_method_11_code 49 = .ok (.getfield 25, 3) := by decide +kernel
theorem d14_52 : decode prog_17_method_11_code 52 = .ok (.isub, 1) := by decide +kernel
theorem d14_53 : decode prog_17_method_11_code 53 = .ok (.ireturn, 1) := by decide +kernel
theorem d14_15 : decode prog_17_method_11_code 15 = .ok (.aload_n 0, 1) := by decide +kernel
theorem d14_16 : decode prog_17_method_11_code 16 = .ok (.getfield 19, 3) := by decide +kernel
theorem d14_19 : decode prog_17_method_11_code 19 = .ok (.iload_n 2, 1) := by decide +kernel
theorem d14_20 : decode prog_17_method_11_code 20 = .ok (.invokevirtual 40, 3) := by decide +kernel
theorem d14_23 : decode prog_17_method_11_code 23 = .ok (.bipush 48, 2) := by decide +kernel
theorem d14_25 : decode prog_17_method_11_code 25 = .ok (.if_icmp .lt 22, 3) := by decide +kernel
theorem d14_28 : decode prog_17_method_11_code 28 = .ok (.aload_n 0, 1) := by decide +kernel
theorem d14_29 : decode prog_17_method_11_code 29 = .ok (.getfield 19, 3) := by decide +kernel
theorem d14_32 : decode prog_17_method_11_code 32 = .ok (.iload_n 2, 1) := by decide +kernel
theorem d14_33 : decode prog_17_method_11_code 33 = .ok (.invokevirtual 40, 3) := by decide +kernel
theorem d14_36 : decode prog_17_method_11_code 36 = .ok (.bipush 57, 2) := by decide +kernel
theorem d14_38 : decode prog_17_method_11_code 38 = .ok (.if_icmp .gt 9, 3) := by decide +kernel
theorem d14_41 : decode prog_17_method_11_code 41 = .ok (.iinc 2 1, 3) := by decide +kernel
theorem d14_44 : decode prog_17_method_11_code 44 = .ok (.goto (-37), 3) := by decide +kernel
theorem ef_dend (m : MethodId) (y : Addr) (x : Addr) (t : Addr) (kt : ClassId) (cd : Int32) (N2 : Int32) (vs : List Value) (cs : List Int32) (zc : Int32) (nf : Nat) (nt : Nat) (nk : Nat) (fm : Value) : entryFrame m #[(.ref y), (.int (Int32.ofNat nk))] 3 = mkF m 0 #[.val (.ref y), .val (.int (Int32.ofNat nk)), .unset] [] := by
  first | (simp [entryFrame, mkF, argsToLocals, Value.category]; done) | rfl
def Q_dend (Z : State) (y : Addr) (x : Addr) (t : Addr) (kt : ClassId) (cd : Int32) (N2 : Int32) (vs : List Value) (cs : List Int32) (zc : Int32) (nf : Nat) (nt : Nat) (nk : Nat) (fm : Value) (h0 : Heap) (n0 : Nat) (v : Option Value) (h : Heap) (L : List Loc) : Prop := ∃ nr : Nat, v = some (.int (Int32.ofNat nr)) ∧ Fr n0 L ∧ h = h0 ∧ nk ≤ nr ∧ nf + nr ≤ nt ∧ (∀ j, nk ≤ j → j < nr → own_dig (cs.getD (nf + j) 0)) ∧ (nf + nr = nt ∨ ¬ own_dig (cs.getD (nf + nr) 0))
set_option maxRecDepth 65536 in
set_option maxHeartbeats 40000000 in
theorem rm_dend (l : Launch) (Z : State) (a0 : Array Value) (hw : ∀ d ∈ tables_1, d.before a0 Z = true) (ws : List Jvm.Cond) (y : Addr) (x : Addr) (t : Addr) (kt : ClassId) (cd : Int32) (N2 : Int32) (vs : List Value) (cs : List Int32) (zc : Int32) (nf : Nat) (nt : Nat) (nk : Nat) (fm : Value) (h0 : Heap) (n0 : Nat) (O0 : Old Z n0 h0) (Ex : Exa Z h0 x "java/lang/String") (Fc : Fld Z h0 x "java/lang/String" "coder" "B" (.int cd)) (Fv : Fld Z h0 x "java/lang/String" "value" "[B" (.ref t)) (Kt : Arv Z h0 t kt .byte N2 vs (.int (0 : Int32))) (hcd : own_Cod cs cd N2 vs) (hl : cs.length = 6) (hbd : ∀ c ∈ cs, ¬ c < 0 ∧ ¬ (65535 : Int32) < c) (SC : Sta Z Z.heap "java/lang/String" "COMPACT_STRINGS" "Z" (.int zc)) (hzc : ¬ zc = 0) (SA : Sta Z Z.heap "java/lang/StringUTF16" "$assertionsDisabled" "Z" (.int (1 : Int32))) (SH : Sta Z Z.heap "java/lang/StringUTF16" "HI_BYTE_SHIFT" "I" (.int (0 : Int32))) (SLo : Sta Z Z.heap "java/lang/StringUTF16" "LO_BYTE_SHIFT" "I" (.int (8 : Int32))) (rfm : fm.isRef = true) (SF : Sta Z Z.heap "jdk/internal/util/Preconditions" "SIOOBE_FORMATTER" "Ljava/util/function/BiFunction;" fm) (G0 : Fld Z h0 y "org/graticule/read/Span" "text" "Ljava/lang/String;" (.ref x)) (G1 : Fld Z h0 y "org/graticule/read/Span" "from" "I" (.int (Int32.ofNat nf))) (G2 : Fld Z h0 y "org/graticule/read/Span" "to" "I" (.int (Int32.ofNat nt))) (h1 : nf + nk ≤ nt) (h2 : nt ≤ 6) :
    MetFree l (⟨"org/graticule/read/Span", "digitsEnd", "(I)I"⟩ : MethodName) (head1 (Jvm.Cond.code (⟨"org/graticule/read/Span", "digitsEnd", "(I)I"⟩ : MethodName) prog_17_method_11_code 3 (some .int) :: ws) ({ frames := 5, cells := 0, slots := 0, locals := 66 } : Room)) (fun av_ U => av_ = #[(.ref y), (.int (Int32.ofNat nk))] ∧ Z.Warmed39 U.vm ∧ U.heap = h0) (fun _ _ _ _ _ => True) (fun _ U o_ U' => ∃ v L, o_ = .returned v ∧ Q_dend Z y x t kt cd N2 vs cs zc nf nt nk fm h0 n0 v U'.heap L ∧ FrameEnd U o_ U' L ({ frames := 5, cells := 0, slots := 0, locals := 66 } : Room).cells ({ frames := 5, cells := 0, slots := 0, locals := 66 } : Room).slots) := by
  refine MetFree.of_bodySF (plainFor_of_name pn_7) hisR ?_
  intro p e s m args below meth c s₁ Bd hml0 hP hK
  obtain ⟨rfl, hZ, hh⟩ := hP
  have hx := Bd.exec
  have hby := Bd.bytes
  have hml : c.maxLocals = 3 := hml0
  have hown : s.vm.findClass "org/graticule/read/Span" = some m.cls := findClass_of_methodNamed Bd.named
  have hnm := (name_of_methodNamed Bd.named Bd.method).1
  have hlk := own_lk Bd
  have hret := Bd.returns
  have X0 : Stand p l e ({ frames := 5, cells := 0, slots := 0, locals := 66 } : Room) s m #[(.ref y), (.int (Int32.ofNat nk))] below meth c s₁ [] 0 0 := Stand.of_body Bd
  have e0 : s₁.heap = h0 := by rw [← hh, Bd.state]; rfl
  have N0 := Fr.nil n0
  show own_Goes p e below s (Q_dend Z y x t kt cd N2 vs cs zc nf nt nk fm h0 n0) ({ frames := 5, cells := 0, slots := 0, locals := 66 } : Room).cells ({ frames := 5, cells := 0, slots := 0, locals := 66 } : Room).slots (s₁.setTop (entryFrame m #[(.ref y), (.int (Int32.ofNat nk))] 3))
  refine own_go (fun _ ww => castTop (ef_dend m y x t kt cd N2 vs cs zc nf nt nk fm) ww) ?_
  show own_Goes _ _ _ _ _ _ _ (s₁.setTop (mkF m 0 #[.val (.ref y), .val (.int (Int32.ofNat nk)), .unset] []))
  refine own_go (fun _ ww => XS.aloadN X0.here hx rfl (hb hby d14_0) rfl rfl ww) ?_
  show own_Goes _ _ _ _ _ _ _ (s₁.setTop (mkF m 1 #[.val (.ref y), .val (.int (Int32.ofNat nk)), .unset] [(.ref y)]))
  obtain ⟨T308, X308, e308, st308⟩ := getF X0 hx hZ hown (host := "") (Or.inl (hw _ (List.mem_of_getElem? (i := 69) rfl))) Via.refl e0 G1 (g := (mkF m 1 #[.val (.ref y), .val (.int (Int32.ofNat nk)), .unset] [(.ref y)])) rfl rfl (hb hby d14_1)
  refine own_go st308 ?_
  show own_Goes _ _ _ _ _ _ _ (T308.setTop (mkF m 4 #[.val (.ref y), .val (.int (Int32.ofNat nk)), .unset] [(.int (Int32.ofNat nf))]))
  refine own_go (fun _ ww => XS.iloadN X308.here hx rfl (hb hby d14_4) rfl  ww) ?_
  show own_Goes _ _ _ _ _ _ _ (T308.setTop (mkF m 5 #[.val (.ref y), .val (.int (Int32.ofNat nk)), .unset] [(.int (Int32.ofNat nk)), (.int (Int32.ofNat nf))]))
  refine own_go (fun _ ww => XS.iadd X308.here hx rfl (hb hby d14_5) rfl ww) ?_
  show own_Goes _ _ _ _ _ _ _ (T308.setTop (mkF m 6 #[.val (.ref y), .val (.int (Int32.ofNat nk)), .unset] [(.int ((Int32.ofNat nf) + (Int32.ofNat nk)))]))
  rw [own_addN]
  show own_Goes _ _ _ _ _ _ _ (T308.setTop (mkF m 6 #[.val (.ref y), .val (.int (Int32.ofNat nk)), .unset] [(.int (Int32.ofNat (nf + nk)))]))
  refine own_go (fun _ ww => XS.istoreN X308.here hx rfl (hb hby d14_6) rfl (l' := #[.val (.ref y), .val (.int (Int32.ofNat nk)), .val (.int (Int32.ofNat (nf + nk)))]) rfl ww) ?_
  show own_Goes _ _ _ _ _ _ _ (T308.setTop (mkF m 7 #[.val (.ref y), .val (.int (Int32.ofNat nk)), .val (.int (Int32.ofNat (nf + nk)))] []))
  have loop : ∀ (n e_ : Nat) (T7 : State) (L7 : List Loc) (N7 : Fr n0 L7) (X7 : Stand p l e ({ frames := 5, cells := 0, slots := 0, locals := 66 } : Room) s m #[.ref y, .int (Int32.ofNat nk)] below meth c T7 L7 0 0) (e7 : T7.heap = h0) (hn : nt - e_ = n) (hge : nf + nk ≤ e_) (hle : e_ ≤ nt) (hdg : ∀ j, nf + nk ≤ j → j < e_ → own_dig (cs.getD j 0)), own_Goes p e below s (Q_dend Z y x t kt cd N2 vs cs zc nf nt nk fm h0 n0) ({ frames := 5, cells := 0, slots := 0, locals := 66 } : Room).cells ({ frames := 5, cells := 0, slots := 0, locals := 66 } : Room).slots (T7.setTop (mkF m 7 #[.val (.ref y), .val (.int (Int32.ofNat nk)), .val (.int (Int32.ofNat e_))] [])) := by
    intro n
    induction n with
    | zero =>
      intro e_ T7 L7 N7 X7 e7 hn hge hle hdg
      show own_Goes _ _ _ _ _ _ _ (T7.setTop (mkF m 7 #[.val (.ref y), .val (.int (Int32.ofNat nk)), .val (.int (Int32.ofNat e_))] []))
      refine own_go (fun _ ww => XS.iloadN X7.here hx rfl (hb hby d14_7) rfl  ww) ?_
      show own_Goes _ _ _ _ _ _ _ (T7.setTop (mkF m 8 #[.val (.ref y), .val (.int (Int32.ofNat nk)), .val (.int (Int32.ofNat e_))] [(.int (Int32.ofNat e_))]))
      refine own_go (fun _ ww => XS.aloadN X7.here hx rfl (hb hby d14_8) rfl rfl ww) ?_
      show own_Goes _ _ _ _ _ _ _ (T7.setTop (mkF m 9 #[.val (.ref y), .val (.int (Int32.ofNat nk)), .val (.int (Int32.ofNat e_))] [(.ref y), (.int (Int32.ofNat e_))]))
      obtain ⟨T309, X309, e309, st309⟩ := getF X7 hx hZ hown (host := "") (Or.inl (hw _ (List.mem_of_getElem? (i := 71) rfl))) Via.refl e7 G2 (g := (mkF m 9 #[.val (.ref y), .val (.int (Int32.ofNat nk)), .val (.int (Int32.ofNat e_))] [(.ref y), (.int (Int32.ofNat e_))])) rfl rfl (hb hby d14_9)
      refine own_go st309 ?_
      show own_Goes _ _ _ _ _ _ _ (T309.setTop (mkF m 12 #[.val (.ref y), .val (.int (Int32.ofNat nk)), .val (.int (Int32.ofNat e_))] [(.int (Int32.ofNat nt)), (.int (Int32.ofNat e_))]))
      refine own_go (fun _ ww => XS.icmpYes X309.here hx rfl (pc0 := 12) (pc' := 47) rfl (hb hby d14_12) rfl (flt (fun q => absurd ((own_ltN (a := e_) (b := nt) (by omega) (by omega)).mp q) (by omega))).2.1 (by decide) (by decide) ww) ?_
      show own_Goes _ _ _ _ _ _ _ (T309.setTop (mkF m 47 #[.val (.ref y), .val (.int (Int32.ofNat nk)), .val (.int (Int32.ofNat e_))] []))
      refine own_go (fun _ ww => XS.iloadN X309.here hx rfl (hb hby d14_47) rfl  ww) ?_
      show own_Goes _ _ _ _ _ _ _ (T309.setTop (mkF m 48 #[.val (.ref y), .val (.int (Int32.ofNat nk)), .val (.int (Int32.ofNat e_))] [(.int (Int32.ofNat e_))]))
      refine own_go (fun _ ww => XS.aloadN X309.here hx rfl (hb hby d14_48) rfl rfl ww) ?_
      show own_Goes _ _ _ _ _ _ _ (T309.setTop (mkF m 49 #[.val (.ref y), .val (.int (Int32.ofNat nk)), .val (.int (Int32.ofNat e_))] [(.ref y), (.int (Int32.ofNat e_))]))
      obtain ⟨T310, X310, e310, st310⟩ := getF X309 hx hZ hown (host := "") (Or.inl (hw _ (List.mem_of_getElem? (i := 69) rfl))) Via.refl e309 G1 (g := (mkF m 49 #[.val (.ref y), .val (.int (Int32.ofNat nk)), .val (.int (Int32.ofNat e_))] [(.ref y), (.int (Int32.ofNat e_))])) rfl rfl (hb hby d14_49)
      refine own_go st310 ?_
      show own_Goes _ _ _ _ _ _ _ (T310.setTop (mkF m 52 #[.val (.ref y), .val (.int (Int32.ofNat nk)), .val (.int (Int32.ofNat e_))] [(.int (Int32.ofNat nf)), (.int (Int32.ofNat e_))]))
      refine own_go (fun _ ww => XS.isub X310.here hx rfl (hb hby d14_52) rfl ww) ?_
      show own_Goes _ _ _ _ _ _ _ (T310.setTop (mkF m 53 #[.val (.ref y), .val (.int (Int32.ofNat nk)), .val (.int (Int32.ofNat e_))] [(.int ((Int32.ofNat e_) - (Int32.ofNat nf)))]))
      rw [own_subN (a := e_) (b := nf) (by omega)]
      show own_Goes _ _ _ _ _ _ _ (T310.setTop (mkF m 53 #[.val (.ref y), .val (.int (Int32.ofNat nk)), .val (.int (Int32.ofNat e_))] [(.int (Int32.ofNat (e_ - nf)))]))
      exact own_out X310 hlk (v := some (.int (Int32.ofNat (e_ - nf)))) (fun h => by rw [hret] at h; cases h) (fun fs hr => retOut X310 hx (t := .int) hret rfl (Or.inl ⟨rfl, by simp, _, rfl⟩) (hb hby d14_53) hr) e310 ⟨e_ - nf, rfl, N7, rfl, (by omega), (by omega), (fun j a b => hdg (nf + j) (by omega) (by omega)), Or.inl (by omega)⟩ (by decide) (by decide)
    | succ n ih =>
      intro e_ T7 L7 N7 X7 e7 hn hge hle hdg
      show own_Goes _ _ _ _ _ _ _ (T7.setTop (mkF m 7 #[.val (.ref y), .val (.int (Int32.ofNat nk)), .val (.int (Int32.ofNat e_))] []))
      refine own_go (fun _ ww => XS.iloadN X7.here hx rfl (hb hby d14_7) rfl  ww) ?_
      show own_Goes _ _ _ _ _ _ _ (T7.setTop (mkF m 8 #[.val (.ref y), .val (.int (Int32.ofNat nk)), .val (.int (Int32.ofNat e_))] [(.int (Int32.ofNat e_))]))
      refine own_go (fun _ ww => XS.aloadN X7.here hx rfl (hb hby d14_8) rfl rfl ww) ?_
      show own_Goes _ _ _ _ _ _ _ (T7.setTop (mkF m 9 #[.val (.ref y), .val (.int (Int32.ofNat nk)), .val (.int (Int32.ofNat e_))] [(.ref y), (.int (Int32.ofNat e_))]))
      obtain ⟨T311, X311, e311, st311⟩ := getF X7 hx hZ hown (host := "") (Or.inl (hw _ (List.mem_of_getElem? (i := 71) rfl))) Via.refl e7 G2 (g := (mkF m 9 #[.val (.ref y), .val (.int (Int32.ofNat nk)), .val (.int (Int32.ofNat e_))] [(.ref y), (.int (Int32.ofNat e_))])) rfl rfl (hb hby d14_9)
      refine own_go st311 ?_
      show own_Goes _ _ _ _ _ _ _ (T311.setTop (mkF m 12 #[.val (.ref y), .val (.int (Int32.ofNat nk)), .val (.int (Int32.ofNat e_))] [(.int (Int32.ofNat nt)), (.int (Int32.ofNat e_))]))
      refine own_go (fun _ ww => XS.icmpNo X311.here hx rfl (hb hby d14_12) rfl (tlt ((own_ltN (a := e_) (b := nt) (by omega) (by omega)).mpr (by omega))).2.1 ww) ?_
      show own_Goes _ _ _ _ _ _ _ (T311.setTop (mkF m 15 #[.val (.ref y), .val (.int (Int32.ofNat nk)), .val (.int (Int32.ofNat e_))] []))
      refine own_go (fun _ ww => XS.aloadN X311.here hx rfl (hb hby d14_15) rfl rfl ww) ?_
      show own_Goes _ _ _ _ _ _ _ (T311.setTop (mkF m 16 #[.val (.ref y), .val (.int (Int32.ofNat nk)), .val (.int (Int32.ofNat e_))] [(.ref y)]))
      obtain ⟨T312, X312, e312, st312⟩ := getF X311 hx hZ hown (host := "") (Or.inl (hw _ (List.mem_of_getElem? (i := 67) rfl))) Via.refl e311 G0 (g := (mkF m 16 #[.val (.ref y), .val (.int (Int32.ofNat nk)), .val (.int (Int32.ofNat e_))] [(.ref y)])) rfl rfl (hb hby d14_16)
      refine own_go st312 ?_
      show own_Goes _ _ _ _ _ _ _ (T312.setTop (mkF m 19 #[.val (.ref y), .val (.int (Int32.ofNat nk)), .val (.int (Int32.ofNat e_))] [(.ref x)]))
      refine own_go (fun _ ww => XS.iloadN X312.here hx rfl (hb hby d14_19) rfl  ww) ?_
      show own_Goes _ _ _ _ _ _ _ (T312.setTop (mkF m 20 #[.val (.ref y), .val (.int (Int32.ofNat nk)), .val (.int (Int32.ofNat e_))] [(.int (Int32.ofNat e_)), (.ref x)]))
      obtain ⟨cq313, kq313, q313a, q313b, q313c⟩ := isOf hZ e312 Ex
      obtain ⟨_, _, ⟨T313, L313, k313, n313⟩, -, X313, ⟨Lc313, hQ313, l313, y313, z313⟩, st313⟩ := X312.virtualBack hx (y := (⟨"java/lang/String", "charAt", "(I)C"⟩ : MethodName)) (z := (⟨"java/lang/String", "charAt", "(I)C"⟩ : MethodName)) hown (mvT hZ (hw _ (List.mem_of_getElem? (i := 100) rfl))) (mvT hZ (hw _ (List.mem_of_getElem? (i := 101) rfl))) (notFace_of_selects (args := #[]) (mvT hZ (hw _ (List.mem_of_getElem? (i := 103) rfl)))) (mvT hZ (hw _ (List.mem_of_getElem? (i := 103) rfl))) (mvT hZ (hw _ (List.mem_of_getElem? (i := 102) rfl))) (by decide) (backOf (W := 0) (rm_chat l Z a0 hw [] x t kt cd N2 vs cs zc e_ fm h0 n0 O0 Ex Fc Fv Kt hcd hl hbd SC hzc (by omega) SA SH SLo rfm SF) hZ (hw _ (List.mem_of_getElem? (i := 104) rfl)) (hw _ (List.mem_of_getElem? (i := 10) rfl)) (by decide) (by decide)) q313a q313c (g := (mkF m 20 #[.val (.ref y), .val (.int (Int32.ofNat nk)), .val (.int (Int32.ofNat e_))] [(.int (Int32.ofNat e_)), (.ref x)])) rfl (by rw [hml]; rfl) (Steps.refl _) (argsL := [(.int (Int32.ofNat e_))]) (rest := []) (lenOf pd_18 rfl) rfl (by show 2 * 0 + _ ≤ _; exact Nat.le_of_eq rfl) (hb hby d14_20) (fun _ _ => ⟨rfl, e312, (by decide : 0 + 0 ≤ _), (by decide : 0 + 0 ≤ _)⟩)
      dsimp only [Pt.U, Pt.locs, Pt.cells, Pt.slots] at X313 l313 y313 z313 st313 hQ313
      subst l313 y313 z313
      obtain ⟨rfl, N313q, e313⟩ := hQ313
      have N313 := Fr.app N7 N313q
      refine own_go (fun _ ww => Steps.trans st313 ww) ?_
      show own_Goes _ _ _ _ _ _ _ (T313.setTop (mkF m 23 #[.val (.ref y), .val (.int (Int32.ofNat nk)), .val (.int (Int32.ofNat e_))] [(.int (cs.getD e_ 0))]))
      refine own_go (fun _ ww => XS.bipush X313.here hx rfl (hb hby d14_23) ww) ?_
      show own_Goes _ _ _ _ _ _ _ (T313.setTop (mkF m 25 #[.val (.ref y), .val (.int (Int32.ofNat nk)), .val (.int (Int32.ofNat e_))] [(.int (48 : Int32)), (.int (cs.getD e_ 0))]))
      by_cases hc314 : (cs.getD e_ 0) < (48 : Int32)
      ·
        refine own_go (fun _ ww => XS.icmpYes X313.here hx rfl (pc0 := 25) (pc' := 47) rfl (hb hby d14_25) rfl (tlt hc314).1 (by decide) (by decide) ww) ?_
        show own_Goes _ _ _ _ _ _ _ (T313.setTop (mkF m 47 #[.val (.ref y), .val (.int (Int32.ofNat nk)), .val (.int (Int32.ofNat e_))] []))
        refine own_go (fun _ ww => XS.iloadN X313.here hx rfl (hb hby d14_47) rfl  ww) ?_
        show own_Goes _ _ _ _ _ _ _ (T313.setTop (mkF m 48 #[.val (.ref y), .val (.int (Int32.ofNat nk)), .val (.int (Int32.ofNat e_))] [(.int (Int32.ofNat e_))]))
        refine own_go (fun _ ww => XS.aloadN X313.here hx rfl (hb hby d14_48) rfl rfl ww) ?_
        show own_Goes _ _ _ _ _ _ _ (T313.setTop (mkF m 49 #[.val (.ref y), .val (.int (Int32.ofNat nk)), .val (.int (Int32.ofNat e_))] [(.ref y), (.int (Int32.ofNat e_))]))
        obtain ⟨T315, X315, e315, st315⟩ := getF X313 hx hZ hown (host := "") (Or.inl (hw _ (List.mem_of_getElem? (i := 69) rfl))) Via.refl e313 G1 (g := (mkF m 49 #[.val (.ref y), .val (.int (Int32.ofNat nk)), .val (.int (Int32.ofNat e_))] [(.ref y), (.int (Int32.ofNat e_))])) rfl rfl (hb hby d14_49)
        refine own_go st315 ?_
        show own_Goes _ _ _ _ _ _ _ (T315.setTop (mkF m 52 #[.val (.ref y), .val (.int (Int32.ofNat nk)), .val (.int (Int32.ofNat e_))] [(.int (Int32.ofNat nf)), (.int (Int32.ofNat e_))]))
        refine own_go (fun _ ww => XS.isub X315.here hx rfl (hb hby d14_52) rfl ww) ?_
        show own_Goes _ _ _ _ _ _ _ (T315.setTop (mkF m 53 #[.val (.ref y), .val (.int (Int32.ofNat nk)), .val (.int (Int32.ofNat e_))] [(.int ((Int32.ofNat e_) - (Int32.ofNat nf)))]))
        rw [own_subN (a := e_) (b := nf) (by omega)]
        show own_Goes _ _ _ _ _ _ _ (T315.setTop (mkF m 53 #[.val (.ref y), .val (.int (Int32.ofNat nk)), .val (.int (Int32.ofNat e_))] [(.int (Int32.ofNat (e_ - nf)))]))
        exact own_out X315 hlk (v := some (.int (Int32.ofNat (e_ - nf)))) (fun h => by rw [hret] at h; cases h) (fun fs hr => retOut X315 hx (t := .int) hret rfl (Or.inl ⟨rfl, by simp, _, rfl⟩) (hb hby d14_53) hr) e315 ⟨e_ - nf, rfl, N313, rfl, (by omega), (by omega), (fun j a b => hdg (nf + j) (by omega) (by omega)), Or.inr (by rw [show nf + (e_ - nf) = e_ by omega]; exact fun q => q.1 hc314)⟩ (by decide) (by decide)
      ·
        refine own_go (fun _ ww => XS.icmpNo X313.here hx rfl (hb hby d14_25) rfl (flt hc314).1 ww) ?_
        show own_Goes _ _ _ _ _ _ _ (T313.setTop (mkF m 28 #[.val (.ref y), .val (.int (Int32.ofNat nk)), .val (.int (Int32.ofNat e_))] []))
        refine own_go (fun _ ww => XS.aloadN X313.here hx rfl (hb hby d14_28) rfl rfl ww) ?_
        show own_Goes _ _ _ _ _ _ _ (T313.setTop (mkF m 29 #[.val (.ref y), .val (.int (Int32.ofNat nk)), .val (.int (Int32.ofNat e_))] [(.ref y)]))
        obtain ⟨T316, X316, e316, st316⟩ := getF X313 hx hZ hown (host := "") (Or.inl (hw _ (List.mem_of_getElem? (i := 67) rfl))) Via.refl e313 G0 (g := (mkF m 29 #[.val (.ref y), .val (.int (Int32.ofNat nk)), .val (.int (Int32.ofNat e_))] [(.ref y)])) rfl rfl (hb hby d14_29)
        refine own_go st316 ?_
        show own_Goes _ _ _ _ _ _ _ (T316.setTop (mkF m 32 #[.val (.ref y), .val (.int (Int32.ofNat nk)), .val (.int (Int32.ofNat e_))] [(.ref x)]))
        refine own_go (fun _ ww => XS.iloadN X316.here hx rfl (hb hby d14_32) rfl  ww) ?_
        show own_Goes _ _ _ _ _ _ _ (T316.setTop (mkF m 33 #[.val (.ref y), .val (.int (Int32.ofNat nk)), .val (.int (Int32.ofNat e_))] [(.int (Int32.ofNat e_)), (.ref x)]))
        obtain ⟨cq317, kq317, q317a, q317b, q317c⟩ := isOf hZ e316 Ex
        obtain ⟨_, _, ⟨T317, L317, k317, n317⟩, -, X317, ⟨Lc317, hQ317, l317, y317, z317⟩, st317⟩ := X316.virtualBack hx (y := (⟨"java/lang/String", "charAt", "(I)C"⟩ : MethodName)) (z := (⟨"java/lang/String", "charAt", "(I)C"⟩ : MethodName)) hown (mvT hZ (hw _ (List.mem_of_getElem? (i := 100) rfl))) (mvT hZ (hw _ (List.mem_of_getElem? (i := 101) rfl))) (notFace_of_selects (args := #[]) (mvT hZ (hw _ (List.mem_of_getElem? (i := 103) rfl)))) (mvT hZ (hw _ (List.mem_of_getElem? (i := 103) rfl))) (mvT hZ (hw _ (List.mem_of_getElem? (i := 102) rfl))) (by decide) (backOf (W := 0) (rm_chat l Z a0 hw [] x t kt cd N2 vs cs zc e_ fm h0 n0 O0 Ex Fc Fv Kt hcd hl hbd SC hzc (by omega) SA SH SLo rfm SF) hZ (hw _ (List.mem_of_getElem? (i := 104) rfl)) (hw _ (List.mem_of_getElem? (i := 10) rfl)) (by decide) (by decide)) q317a q317c (g := (mkF m 33 #[.val (.ref y), .val (.int (Int32.ofNat nk)), .val (.int (Int32.ofNat e_))] [(.int (Int32.ofNat e_)), (.ref x)])) rfl (by rw [hml]; rfl) (Steps.refl _) (argsL := [(.int (Int32.ofNat e_))]) (rest := []) (lenOf pd_18 rfl) rfl (by show 2 * 0 + _ ≤ _; exact Nat.le_of_eq rfl) (hb hby d14_33) (fun _ _ => ⟨rfl, e316, (by decide : 0 + 0 ≤ _), (by decide : 0 + 0 ≤ _)⟩)
        dsimp only [Pt.U, Pt.locs, Pt.cells, Pt.slots] at X317 l317 y317 z317 st317 hQ317
        subst l317 y317 z317
        obtain ⟨rfl, N317q, e317⟩ := hQ317
        have N317 := Fr.app N313 N317q
        refine own_go (fun _ ww => Steps.trans st317 ww) ?_
        show own_Goes _ _ _ _ _ _ _ (T317.setTop (mkF m 36 #[.val (.ref y), .val (.int (Int32.ofNat nk)), .val (.int (Int32.ofNat e_))] [(.int (cs.getD e_ 0))]))
        refine own_go (fun _ ww => XS.bipush X317.here hx rfl (hb hby d14_36) ww) ?_
        show own_Goes _ _ _ _ _ _ _ (T317.setTop (mkF m 38 #[.val (.ref y), .val (.int (Int32.ofNat nk)), .val (.int (Int32.ofNat e_))] [(.int (57 : Int32)), (.int (cs.getD e_ 0))]))
        by_cases hc318 : (57 : Int32) < (cs.getD e_ 0)
        ·
          refine own_go (fun _ ww => XS.icmpYes X317.here hx rfl (pc0 := 38) (pc' := 47) rfl (hb hby d14_38) rfl (tlt hc318).2.2.1 (by decide) (by decide) ww) ?_
          show own_Goes _ _ _ _ _ _ _ (T317.setTop (mkF m 47 #[.val (.ref y), .val (.int (Int32.ofNat nk)), .val (.int (Int32.ofNat e_))] []))
          refine own_go (fun _ ww => XS.iloadN X317.here hx rfl (hb hby d14_47) rfl  ww) ?_
          show own_Goes _ _ _ _ _ _ _ (T317.setTop (mkF m 48 #[.val (.ref y), .val (.int (Int32.ofNat nk)), .val (.int (Int32.ofNat e_))] [(.int (Int32.ofNat e_))]))
          refine own_go (fun _ ww => XS.aloadN X317.here hx rfl (hb hby d14_48) rfl rfl ww) ?_
          show own_Goes _ _ _ _ _ _ _ (T317.setTop (mkF m 49 #[.val (.ref y), .val (.int (Int32.ofNat nk)), .val (.int (Int32.ofNat e_))] [(.ref y), (.int (Int32.ofNat e_))]))
          obtain ⟨T319, X319, e319, st319⟩ := getF X317 hx hZ hown (host := "") (Or.inl (hw _ (List.mem_of_getElem? (i := 69) rfl))) Via.refl e317 G1 (g := (mkF m 49 #[.val (.ref y), .val (.int (Int32.ofNat nk)), .val (.int (Int32.ofNat e_))] [(.ref y), (.int (Int32.ofNat e_))])) rfl rfl (hb hby d14_49)
          refine own_go st319 ?_
          show own_Goes _ _ _ _ _ _ _ (T319.setTop (mkF m 52 #[.val (.ref y), .val (.int (Int32.ofNat nk)), .val (.int (Int32.ofNat e_))] [(.int (Int32.ofNat nf)), (.int (Int32.ofNat e_))]))
          refine own_go (fun _ ww => XS.isub X319.here hx rfl (hb hby d14_52) rfl ww) ?_
          show own_Goes _ _ _ _ _ _ _ (T319.setTop (mkF m 53 #[.val (.ref y), .val (.int (Int32.ofNat nk)), .val (.int (Int32.ofNat e_))] [(.int ((Int32.ofNat e_) - (Int32.ofNat nf)))]))
          rw [own_subN (a := e_) (b := nf) (by omega)]
          show own_Goes _ _ _ _ _ _ _ (T319.setTop (mkF m 53 #[.val (.ref y), .val (.int (Int32.ofNat nk)), .val (.int (Int32.ofNat e_))] [(.int (Int32.ofNat (e_ - nf)))]))
          exact own_out X319 hlk (v := some (.int (Int32.ofNat (e_ - nf)))) (fun h => by rw [hret] at h; cases h) (fun fs hr => retOut X319 hx (t := .int) hret rfl (Or.inl ⟨rfl, by simp, _, rfl⟩) (hb hby d14_53) hr) e319 ⟨e_ - nf, rfl, N317, rfl, (by omega), (by omega), (fun j a b => hdg (nf + j) (by omega) (by omega)), Or.inr (by rw [show nf + (e_ - nf) = e_ by omega]; exact fun q => q.2 hc318)⟩ (by decide) (by decide)
        ·
          refine own_go (fun _ ww => XS.icmpNo X317.here hx rfl (hb hby d14_38) rfl (flt hc318).2.2.1 ww) ?_
          show own_Goes _ _ _ _ _ _ _ (T317.setTop (mkF m 41 #[.val (.ref y), .val (.int (Int32.ofNat nk)), .val (.int (Int32.ofNat e_))] []))
          refine own_go (fun _ ww => XS.iinc X317.here hx rfl (hb hby d14_41) rfl (l' := #[.val (.ref y), .val (.int (Int32.ofNat nk)), .val (.int ((Int32.ofNat e_) + (1 : Int32)))]) rfl ww) ?_
          show own_Goes _ _ _ _ _ _ _ (T317.setTop (mkF m 44 #[.val (.ref y), .val (.int (Int32.ofNat nk)), .val (.int ((Int32.ofNat e_) + (1 : Int32)))] []))
          rw [show Int32.ofNat e_ + (1 : Int32) = Int32.ofNat (e_ + 1) from own_addN e_ 1]
          show own_Goes _ _ _ _ _ _ _ (T317.setTop (mkF m 44 #[.val (.ref y), .val (.int (Int32.ofNat nk)), .val (.int (Int32.ofNat (e_ + 1)))] []))
          refine own_go (fun _ ww => XS.goto X317.here hx rfl (pc0 := 44) (pc' := 7) rfl (hb hby d14_44) (by decide) (by decide) ww) ?_
          show own_Goes _ _ _ _ _ _ _ (T317.setTop (mkF m 7 #[.val (.ref y), .val (.int (Int32.ofNat nk)), .val (.int (Int32.ofNat (e_ + 1)))] []))
          exact ih (e_ + 1) _ _ N317 X317 e317 (by omega) (by omega) (by omega) (fun j a b => (Nat.lt_succ_iff_lt_or_eq.mp b).elim (fun q => hdg j a q) (fun q => by subst q; exact ⟨hc314, hc318⟩))
  exact loop _ (nf + nk) _ _ N0 X308 e308 rfl (Nat.le_refl _) (by omega) (fun j a b => absurd b (by omega))
theorem d28_0 : decode method_3_code 0 = .ok (.iload_n 0, 1) := by decide +kernel
theorem d28_1 : decode method_3_code 1 = .ok (.bipush 48, 2) := by decide +kernel
theorem d28_3 : decode method_3_code 3 = .ok (.if_icmp .lt 13, 3) := by decide +kernel
theorem d28_16 : decode method_3_code 16 = .ok (.iconst 0, 1) := by decide +kernel
theorem d28_17 : decode method_3_code 17 = .ok (.ireturn, 1) := by decide +kernel
theorem d28_6 : decode method_3_code 6 = .ok (.iload_n 0, 1) := by decide +kernel
theorem d28_7 : decode method_3_code 7 = .ok (.bipush 57, 2) := by decide +kernel
theorem d28_9 : decode method_3_code 9 = .ok (.if_icmp .gt 7, 3) := by decide +kernel
theorem d28_12 : decode method_3_code 12 = .ok (.iconst 1, 1) := by decide +kernel
theorem d28_13 : decode method_3_code 13 = .ok (.goto 4, 3) := by decide +kernel
theorem ef_isd (m : MethodId) (c_ : Int32) (r : Int32) : entryFrame m #[(.int c_)] 1 = mkF m 0 #[.val (.int c_)] [] := by
  first | (simp [entryFrame, mkF, argsToLocals, Value.category]; done) | rfl
def Q_isd (Z : State) (c_ : Int32) (r : Int32) (h0 : Heap) (n0 : Nat) (v : Option Value) (h : Heap) (L : List Loc) : Prop := v = some (.int r) ∧ Fr n0 L ∧ h = h0
set_option maxRecDepth 65536 in
set_option maxHeartbeats 40000000 in
theorem rm_isd (l : Launch) (Z : State) (a0 : Array Value) (hw : ∀ d ∈ tables_1, d.before a0 Z = true) (ws : List Jvm.Cond) (c_ : Int32) (r : Int32) (h0 : Heap) (n0 : Nat) (O0 : Old Z n0 h0) (hr1 : ¬ c_ < 48 → ¬ (57 : Int32) < c_ → r = 1) (hr0 : c_ < 48 → r = 0) (hr2 : (57 : Int32) < c_ → r = 0) :
    MetFree l (⟨"org/graticule/read/SpanDigitsEndPinLaw", "isAsciiDigit", "(C)Z"⟩ : MethodName) (head1 (Jvm.Cond.code (⟨"org/graticule/read/SpanDigitsEndPinLaw", "isAsciiDigit", "(C)Z"⟩ : MethodName) method_3_code 1 (some .boolean) :: ws) ({ frames := 0, cells := 0, slots := 0, locals := 0 } : Room)) (fun av_ U => av_ = #[(.int c_)] ∧ Z.Warmed39 U.vm ∧ U.heap = h0) (fun _ _ _ _ _ => True) (fun _ U o_ U' => ∃ v L, o_ = .returned v ∧ Q_isd Z c_ r h0 n0 v U'.heap L ∧ FrameEnd U o_ U' L ({ frames := 0, cells := 0, slots := 0, locals := 0 } : Room).cells ({ frames := 0, cells := 0, slots := 0, locals := 0 } : Room).slots) := by
  refine MetFree.of_bodySF (plainFor_of_name pn_0) hisR ?_
  intro p e s m args below meth c s₁ Bd hml0 hP hK
  obtain ⟨rfl, hZ, hh⟩ := hP
  have hx := Bd.exec
  have hby := Bd.bytes
  have hml : c.maxLocals = 1 := hml0
  have hown : s.vm.findClass "org/graticule/read/SpanDigitsEndPinLaw" = some m.cls := findClass_of_methodNamed Bd.named
  have hnm := (name_of_methodNamed Bd.named Bd.method).1
  have hlk := own_lk Bd
  have hret := Bd.returns
  have X0 : Stand p l e ({ frames := 0, cells := 0, slots := 0, locals := 0 } : Room) s m #[(.int c_)] below meth c s₁ [] 0 0 := Stand.of_body Bd
  have e0 : s₁.heap = h0 := by rw [← hh, Bd.state]; rfl
  have N0 := Fr.nil n0
  show own_Goes p e below s (Q_isd Z c_ r h0 n0) ({ frames := 0, cells := 0, slots := 0, locals := 0 } : Room).cells ({ frames := 0, cells := 0, slots := 0, locals := 0 } : Room).slots (s₁.setTop (entryFrame m #[(.int c_)] 1))
  refine own_go (fun _ ww => castTop (ef_isd m c_ r) ww) ?_
  show own_Goes _ _ _ _ _ _ _ (s₁.setTop (mkF m 0 #[.val (.int c_)] []))
  refine own_go (fun _ ww => XS.iloadN X0.here hx rfl (hb hby d28_0) rfl  ww) ?_
  show own_Goes _ _ _ _ _ _ _ (s₁.setTop (mkF m 1 #[.val (.int c_)] [(.int c_)]))
  refine own_go (fun _ ww => XS.bipush X0.here hx rfl (hb hby d28_1) ww) ?_
  show own_Goes _ _ _ _ _ _ _ (s₁.setTop (mkF m 3 #[.val (.int c_)] [(.int (48 : Int32)), (.int c_)]))
  by_cases hc320 : c_ < (48 : Int32)
  ·
    refine own_go (fun _ ww => XS.icmpYes X0.here hx rfl (pc0 := 3) (pc' := 16) rfl (hb hby d28_3) rfl (tlt hc320).1 (by decide) (by decide) ww) ?_
    show own_Goes _ _ _ _ _ _ _ (s₁.setTop (mkF m 16 #[.val (.int c_)] []))
    refine own_go (fun _ ww => XS.iconst X0.here hx rfl (hb hby d28_16) ww) ?_
    show own_Goes _ _ _ _ _ _ _ (s₁.setTop (mkF m 17 #[.val (.int c_)] [(.int (0 : Int32))]))
    exact own_out X0 hlk (v := some (.int (0 : Int32))) (fun h => by rw [hret] at h; cases h) (fun fs hr => retOut X0 hx (t := .boolean) hret (by decide) (Or.inl ⟨rfl, by simp, _, rfl⟩) (hb hby d28_17) hr) e0 ⟨by rw [hr0 hc320], N0, rfl⟩ (by decide) (by decide)
  ·
    refine own_go (fun _ ww => XS.icmpNo X0.here hx rfl (hb hby d28_3) rfl (flt hc320).1 ww) ?_
    show own_Goes _ _ _ _ _ _ _ (s₁.setTop (mkF m 6 #[.val (.int c_)] []))
    refine own_go (fun _ ww => XS.iloadN X0.here hx rfl (hb hby d28_6) rfl  ww) ?_
    show own_Goes _ _ _ _ _ _ _ (s₁.setTop (mkF m 7 #[.val (.int c_)] [(.int c_)]))
    refine own_go (fun _ ww => XS.bipush X0.here hx rfl (hb hby d28_7) ww) ?_
    show own_Goes _ _ _ _ _ _ _ (s₁.setTop (mkF m 9 #[.val (.int c_)] [(.int (57 : Int32)), (.int c_)]))
    by_cases hc321 : (57 : Int32) < c_
    ·
      refine own_go (fun _ ww => XS.icmpYes X0.here hx rfl (pc0 := 9) (pc' := 16) rfl (hb hby d28_9) rfl (tlt hc321).2.2.1 (by decide) (by decide) ww) ?_
      show own_Goes _ _ _ _ _ _ _ (s₁.setTop (mkF m 16 #[.val (.int c_)] []))
      refine own_go (fun _ ww => XS.iconst X0.here hx rfl (hb hby d28_16) ww) ?_
      show own_Goes _ _ _ _ _ _ _ (s₁.setTop (mkF m 17 #[.val (.int c_)] [(.int (0 : Int32))]))
      exact own_out X0 hlk (v := some (.int (0 : Int32))) (fun h => by rw [hret] at h; cases h) (fun fs hr => retOut X0 hx (t := .boolean) hret (by decide) (Or.inl ⟨rfl, by simp, _, rfl⟩) (hb hby d28_17) hr) e0 ⟨by rw [hr2 hc321], N0, rfl⟩ (by decide) (by decide)
    ·
      refine own_go (fun _ ww => XS.icmpNo X0.here hx rfl (hb hby d28_9) rfl (flt hc321).2.2.1 ww) ?_
      show own_Goes _ _ _ _ _ _ _ (s₁.setTop (mkF m 12 #[.val (.int c_)] []))
      refine own_go (fun _ ww => XS.iconst X0.here hx rfl (hb hby d28_12) ww) ?_
      show own_Goes _ _ _ _ _ _ _ (s₁.setTop (mkF m 13 #[.val (.int c_)] [(.int (1 : Int32))]))
      refine own_go (fun _ ww => XS.goto X0.here hx rfl (pc0 := 13) (pc' := 17) rfl (hb hby d28_13) (by decide) (by decide) ww) ?_
      show own_Goes _ _ _ _ _ _ _ (s₁.setTop (mkF m 17 #[.val (.int c_)] [(.int (1 : Int32))]))
      exact own_out X0 hlk (v := some (.int (1 : Int32))) (fun h => by rw [hret] at h; cases h) (fun fs hr => retOut X0 hx (t := .boolean) hret (by decide) (Or.inl ⟨rfl, by simp, _, rfl⟩) (hb hby d28_17) hr) e0 ⟨by rw [hr1 hc320 hc321], N0, rfl⟩ (by decide) (by decide)
theorem d15_0 : decode method_4_code 0 = .ok (.iload_n 2, 1) := by decide +kernel
theorem d15_1 : decode method_4_code 1 = .ok (.iload_n 0, 1) := by decide +kernel
theorem d15_2 : decode method_4_code 2 = .ok (.if_icmp .gt 18, 3) := by decide +kernel
theorem d15_20 : decode method_4_code 20 = .ok (.iconst 1, 1) := by decide +kernel
theorem d15_21 : decode method_4_code 21 = .ok (.ireturn, 1) := by decide +kernel
theorem d15_5 : decode method_4_code 5 = .ok (.iload_n 0, 1) := by decide +kernel
theorem d15_6 : decode method_4_code 6 = .ok (.iload_n 1, 1) := by decide +kernel
theorem d15_7 : decode method_4_code 7 = .ok (.if_icmp .ge 13, 3) := by decide +kernel
theorem d15_10 : decode method_4_code 10 = .ok (.aload 4, 2) := by decide +kernel
theorem d15_12 : decode method_4_code 12 = .ok (.iload_n 3, 1) := by decide +kernel
theorem d15_13 : decode method_4_code 13 = .ok (.iload_n 0, 1) := by decide +kernel
theorem d15_14 : decode method_4_code 14 = .ok (.iadd, 1) := by decide +kernel
theorem d15_15 : decode method_4_code 15 = .ok (.caload, 1) := by decide +kernel
theorem d15_16 : decode method_4_code 16 = .ok (.invokestatic 13, 3) := by decide +kernel
theorem d15_19 : decode method_4_code 19 = .ok (.ireturn, 1) := by decide +kernel
theorem ef_okc (m : MethodId) (jn : Nat) (nr : Nat) (nk : Nat) (nf : Nat) (b : Addr) (kb : ClassId) (c0 : Int32) (c1 : Int32) (c2 : Int32) (c3 : Int32) (c4 : Int32) (c5 : Int32) : entryFrame m #[(.int (Int32.ofNat jn)), (.int (Int32.ofNat nr)), (.int (Int32.ofNat nk)), (.int (Int32.ofNat nf)), (.ref b)] 5 = mkF m 0 #[.val (.int (Int32.ofNat jn)), .val (.int (Int32.ofNat nr)), .val (.int (Int32.ofNat nk)), .val (.int (Int32.ofNat nf)), .val (.ref b)] [] := by
  first | (simp [entryFrame, mkF, argsToLocals, Value.category]; done) | rfl
def Q_okc (Z : State) (jn : Nat) (nr : Nat) (nk : Nat) (nf : Nat) (b : Addr) (kb : ClassId) (c0 : Int32) (c1 : Int32) (c2 : Int32) (c3 : Int32) (c4 : Int32) (c5 : Int32) (h0 : Heap) (n0 : Nat) (v : Option Value) (h : Heap) (L : List Loc) : Prop := v = some (.int (1 : Int32)) ∧ Fr n0 L ∧ h = h0
set_option maxRecDepth 65536 in
set_option maxHeartbeats 40000000 in
theorem rm_okc (l : Launch) (Z : State) (a0 : Array Value) (hw : ∀ d ∈ tables_1, d.before a0 Z = true) (ws : List Jvm.Cond) (jn : Nat) (nr : Nat) (nk : Nat) (nf : Nat) (b : Addr) (kb : ClassId) (c0 : Int32) (c1 : Int32) (c2 : Int32) (c3 : Int32) (c4 : Int32) (c5 : Int32) (h0 : Heap) (n0 : Nat) (O0 : Old Z n0 h0) (Vb : Arv Z h0 b kb .char (6 : Int32) [(.int c0), (.int c1), (.int c2), (.int c3), (.int c4), (.int c5)] (.int (0 : Int32))) (hd : ∀ j, nk ≤ j → j < nr → own_dig (([c0, c1, c2, c3, c4, c5] : List Int32).getD (nf + j) 0)) (hfr : nf + nr ≤ 6) (hjn : jn < 10) (hnk : nk < 10) :
    MetFree l (⟨"org/graticule/read/SpanDigitsEndPinLaw", "ok", "(IIII[C)Z"⟩ : MethodName) (head1 (Jvm.Cond.code (⟨"org/graticule/read/SpanDigitsEndPinLaw", "ok", "(IIII[C)Z"⟩ : MethodName) method_4_code 5 (some .boolean) :: ws) ({ frames := 1, cells := 0, slots := 0, locals := 12 } : Room)) (fun av_ U => av_ = #[(.int (Int32.ofNat jn)), (.int (Int32.ofNat nr)), (.int (Int32.ofNat nk)), (.int (Int32.ofNat nf)), (.ref b)] ∧ Z.Warmed39 U.vm ∧ U.heap = h0) (fun _ _ _ _ _ => True) (fun _ U o_ U' => ∃ v L, o_ = .returned v ∧ Q_okc Z jn nr nk nf b kb c0 c1 c2 c3 c4 c5 h0 n0 v U'.heap L ∧ FrameEnd U o_ U' L ({ frames := 1, cells := 0, slots := 0, locals := 12 } : Room).cells ({ frames := 1, cells := 0, slots := 0, locals := 12 } : Room).slots) := by
  refine MetFree.of_bodySF (plainFor_of_name pn_0) hisR ?_
  intro p e s m args below meth c s₁ Bd hml0 hP hK
  obtain ⟨rfl, hZ, hh⟩ := hP
  have hx := Bd.exec
  have hby := Bd.bytes
  have hml : c.maxLocals = 5 := hml0
  have hown : s.vm.findClass "org/graticule/read/SpanDigitsEndPinLaw" = some m.cls := findClass_of_methodNamed Bd.named
  have hnm := (name_of_methodNamed Bd.named Bd.method).1
  have hlk := own_lk Bd
  have hret := Bd.returns
  have X0 : Stand p l e ({ frames := 1, cells := 0, slots := 0, locals := 12 } : Room) s m #[(.int (Int32.ofNat jn)), (.int (Int32.ofNat nr)), (.int (Int32.ofNat nk)), (.int (Int32.ofNat nf)), (.ref b)] below meth c s₁ [] 0 0 := Stand.of_body Bd
  have e0 : s₁.heap = h0 := by rw [← hh, Bd.state]; rfl
  have N0 := Fr.nil n0
  show own_Goes p e below s (Q_okc Z jn nr nk nf b kb c0 c1 c2 c3 c4 c5 h0 n0) ({ frames := 1, cells := 0, slots := 0, locals := 12 } : Room).cells ({ frames := 1, cells := 0, slots := 0, locals := 12 } : Room).slots (s₁.setTop (entryFrame m #[(.int (Int32.ofNat jn)), (.int (Int32.ofNat nr)), (.int (Int32.ofNat nk)), (.int (Int32.ofNat nf)), (.ref b)] 5))
  refine own_go (fun _ ww => castTop (ef_okc m jn nr nk nf b kb c0 c1 c2 c3 c4 c5) ww) ?_
  show own_Goes _ _ _ _ _ _ _ (s₁.setTop (mkF m 0 #[.val (.int (Int32.ofNat jn)), .val (.int (Int32.ofNat nr)), .val (.int (Int32.ofNat nk)), .val (.int (Int32.ofNat nf)), .val (.ref b)] []))
  refine own_go (fun _ ww => XS.iloadN X0.here hx rfl (hb hby d15_0) rfl  ww) ?_
  show own_Goes _ _ _ _ _ _ _ (s₁.setTop (mkF m 1 #[.val (.int (Int32.ofNat jn)), .val (.int (Int32.ofNat nr)), .val (.int (Int32.ofNat nk)), .val (.int (Int32.ofNat nf)), .val (.ref b)] [(.int (Int32.ofNat nk))]))
  refine own_go (fun _ ww => XS.iloadN X0.here hx rfl (hb hby d15_1) rfl  ww) ?_
  show own_Goes _ _ _ _ _ _ _ (s₁.setTop (mkF m 2 #[.val (.int (Int32.ofNat jn)), .val (.int (Int32.ofNat nr)), .val (.int (Int32.ofNat nk)), .val (.int (Int32.ofNat nf)), .val (.ref b)] [(.int (Int32.ofNat jn)), (.int (Int32.ofNat nk))]))
  by_cases hc322 : (Int32.ofNat jn) < (Int32.ofNat nk)
  ·
    refine own_go (fun _ ww => XS.icmpYes X0.here hx rfl (pc0 := 2) (pc' := 20) rfl (hb hby d15_2) rfl (tlt hc322).2.2.1 (by decide) (by decide) ww) ?_
    show own_Goes _ _ _ _ _ _ _ (s₁.setTop (mkF m 20 #[.val (.int (Int32.ofNat jn)), .val (.int (Int32.ofNat nr)), .val (.int (Int32.ofNat nk)), .val (.int (Int32.ofNat nf)), .val (.ref b)] []))
    refine own_go (fun _ ww => XS.iconst X0.here hx rfl (hb hby d15_20) ww) ?_
    show own_Goes _ _ _ _ _ _ _ (s₁.setTop (mkF m 21 #[.val (.int (Int32.ofNat jn)), .val (.int (Int32.ofNat nr)), .val (.int (Int32.ofNat nk)), .val (.int (Int32.ofNat nf)), .val (.ref b)] [(.int (1 : Int32))]))
    exact own_out X0 hlk (v := some (.int (1 : Int32))) (fun h => by rw [hret] at h; cases h) (fun fs hr => retOut X0 hx (t := .boolean) hret (by decide) (Or.inl ⟨rfl, by simp, _, rfl⟩) (hb hby d15_21) hr) e0 ⟨rfl, N0, rfl⟩ (by decide) (by decide)
  ·
    refine own_go (fun _ ww => XS.icmpNo X0.here hx rfl (hb hby d15_2) rfl (flt hc322).2.2.1 ww) ?_
    show own_Goes _ _ _ _ _ _ _ (s₁.setTop (mkF m 5 #[.val (.int (Int32.ofNat jn)), .val (.int (Int32.ofNat nr)), .val (.int (Int32.ofNat nk)), .val (.int (Int32.ofNat nf)), .val (.ref b)] []))
    refine own_go (fun _ ww => XS.iloadN X0.here hx rfl (hb hby d15_5) rfl  ww) ?_
    show own_Goes _ _ _ _ _ _ _ (s₁.setTop (mkF m 6 #[.val (.int (Int32.ofNat jn)), .val (.int (Int32.ofNat nr)), .val (.int (Int32.ofNat nk)), .val (.int (Int32.ofNat nf)), .val (.ref b)] [(.int (Int32.ofNat jn))]))
    refine own_go (fun _ ww => XS.iloadN X0.here hx rfl (hb hby d15_6) rfl  ww) ?_
    show own_Goes _ _ _ _ _ _ _ (s₁.setTop (mkF m 7 #[.val (.int (Int32.ofNat jn)), .val (.int (Int32.ofNat nr)), .val (.int (Int32.ofNat nk)), .val (.int (Int32.ofNat nf)), .val (.ref b)] [(.int (Int32.ofNat nr)), (.int (Int32.ofNat jn))]))
    by_cases hc323 : (Int32.ofNat jn) < (Int32.ofNat nr)
    ·
      refine own_go (fun _ ww => XS.icmpNo X0.here hx rfl (hb hby d15_7) rfl (tlt hc323).2.1 ww) ?_
      show own_Goes _ _ _ _ _ _ _ (s₁.setTop (mkF m 10 #[.val (.int (Int32.ofNat jn)), .val (.int (Int32.ofNat nr)), .val (.int (Int32.ofNat nk)), .val (.int (Int32.ofNat nf)), .val (.ref b)] []))
      refine own_go (fun _ ww => XS.aload X0.here hx rfl (hb hby d15_10) rfl rfl ww) ?_
      show own_Goes _ _ _ _ _ _ _ (s₁.setTop (mkF m 12 #[.val (.int (Int32.ofNat jn)), .val (.int (Int32.ofNat nr)), .val (.int (Int32.ofNat nk)), .val (.int (Int32.ofNat nf)), .val (.ref b)] [(.ref b)]))
      refine own_go (fun _ ww => XS.iloadN X0.here hx rfl (hb hby d15_12) rfl  ww) ?_
      show own_Goes _ _ _ _ _ _ _ (s₁.setTop (mkF m 13 #[.val (.int (Int32.ofNat jn)), .val (.int (Int32.ofNat nr)), .val (.int (Int32.ofNat nk)), .val (.int (Int32.ofNat nf)), .val (.ref b)] [(.int (Int32.ofNat nf)), (.ref b)]))
      refine own_go (fun _ ww => XS.iloadN X0.here hx rfl (hb hby d15_13) rfl  ww) ?_
      show own_Goes _ _ _ _ _ _ _ (s₁.setTop (mkF m 14 #[.val (.int (Int32.ofNat jn)), .val (.int (Int32.ofNat nr)), .val (.int (Int32.ofNat nk)), .val (.int (Int32.ofNat nf)), .val (.ref b)] [(.int (Int32.ofNat jn)), (.int (Int32.ofNat nf)), (.ref b)]))
      refine own_go (fun _ ww => XS.iadd X0.here hx rfl (hb hby d15_14) rfl ww) ?_
      show own_Goes _ _ _ _ _ _ _ (s₁.setTop (mkF m 15 #[.val (.int (Int32.ofNat jn)), .val (.int (Int32.ofNat nr)), .val (.int (Int32.ofNat nk)), .val (.int (Int32.ofNat nf)), .val (.ref b)] [(.int ((Int32.ofNat nf) + (Int32.ofNat jn))), (.ref b)]))
      rw [own_addN]
      have hjr := (own_ltN (a := jn) (b := nr) (by omega) (by omega)).mp hc323
      have hjk : ¬ jn < nk := fun q => hc322 ((own_ltN (by omega) (by omega)).mpr q)
      have hdd := hd jn (by omega) hjr
      show own_Goes _ _ _ _ _ _ _ (s₁.setTop (mkF m 15 #[.val (.int (Int32.ofNat jn)), .val (.int (Int32.ofNat nr)), .val (.int (Int32.ofNat nk)), .val (.int (Int32.ofNat nf)), .val (.ref b)] [(.int (Int32.ofNat (nf + jn))), (.ref b)]))
      obtain ⟨cl324, Ar324, -, S324, -, H324, -⟩ := id Vb
      have hin324 := inb_of (j := (Int32.ofNat (nf + jn))) S324 (own_inb (a := nf + jn) (z := 6) (by omega) (by omega))
      have hat324 : cl324.slots[((Int32.ofNat (nf + jn))).toNatClampNeg]? = some (.int (([c0, c1, c2, c3, c4, c5] : List Int32).getD (nf + jn) 0)) := Has.at H324 hin324 (by rw [own_clampN (a := nf + jn) (by omega)]; exact own_gd _ _ _ _ _ _ _)
      refine own_go (fun _ ww => X0.caload hx (j := (Int32.ofNat (nf + jn))) (v := (.int (([c0, c1, c2, c3, c4, c5] : List Int32).getD (nf + jn) 0))) (by rw [e0]; exact Ar324.1) (State.isArrayOf_alike hZ.alike Ar324.2.1) Ar324.2.2 hin324 hat324 (g := (mkF m 15 #[.val (.int (Int32.ofNat jn)), .val (.int (Int32.ofNat nr)), .val (.int (Int32.ofNat nk)), .val (.int (Int32.ofNat nf)), .val (.ref b)] [(.int (Int32.ofNat (nf + jn))), (.ref b)])) rfl rfl (hb hby d15_15) _ ww) ?_
      show own_Goes _ _ _ _ _ _ _ (s₁.setTop (mkF m 16 #[.val (.int (Int32.ofNat jn)), .val (.int (Int32.ofNat nr)), .val (.int (Int32.ofNat nk)), .val (.int (Int32.ofNat nf)), .val (.ref b)] [(.int (([c0, c1, c2, c3, c4, c5] : List Int32).getD (nf + jn) 0))]))
      obtain ⟨_, _, ⟨T325, L325, k325, n325⟩, -, X325, ⟨Lc325, hQ325, l325, y325, z325⟩, st325⟩ := Jvm.LawKit.callS X0 hx (y := (⟨"org/graticule/read/SpanDigitsEndPinLaw", "isAsciiDigit", "(C)Z"⟩ : MethodName)) hown (mvT hZ (hw _ (List.mem_of_getElem? (i := 126) rfl))) (mvT hZ (hw _ (List.mem_of_getElem? (i := 127) rfl))) (mvT hZ (hw _ (List.mem_of_getElem? (i := 3) rfl))) (mvT hZ (hw _ (List.mem_of_getElem? (i := 128) rfl))) (by decide) (backOf (W := 0) (rm_isd l Z a0 hw [] (([c0, c1, c2, c3, c4, c5] : List Int32).getD (nf + jn) 0) (1 : Int32) h0 n0 O0 (fun _ _ => rfl) (fun q => absurd q hdd.1) (fun q => absurd q hdd.2)) hZ (hw _ (List.mem_of_getElem? (i := 128) rfl)) (hw _ (List.mem_of_getElem? (i := 3) rfl)) (by decide) (by decide)) (g := (mkF m 16 #[.val (.int (Int32.ofNat jn)), .val (.int (Int32.ofNat nr)), .val (.int (Int32.ofNat nk)), .val (.int (Int32.ofNat nf)), .val (.ref b)] [(.int (([c0, c1, c2, c3, c4, c5] : List Int32).getD (nf + jn) 0))])) rfl (by rw [hml]; rfl) (argsL := [(.int (([c0, c1, c2, c3, c4, c5] : List Int32).getD (nf + jn) 0))]) (rest := []) (lenOf pd_19 rfl) rfl (by show 2 * 0 + _ ≤ _; exact Nat.le_of_eq rfl) (hb hby d15_16) (fun _ _ => ⟨rfl, e0, (by decide : 0 + 0 ≤ _), (by decide : 0 + 0 ≤ _)⟩)
      dsimp only [Pt.U, Pt.locs, Pt.cells, Pt.slots] at X325 l325 y325 z325 st325 hQ325
      subst l325 y325 z325
      obtain ⟨rfl, N325q, e325⟩ := hQ325
      have N325 := Fr.app N0 N325q
      refine own_go st325 ?_
      show own_Goes _ _ _ _ _ _ _ (T325.setTop (mkF m 19 #[.val (.int (Int32.ofNat jn)), .val (.int (Int32.ofNat nr)), .val (.int (Int32.ofNat nk)), .val (.int (Int32.ofNat nf)), .val (.ref b)] [(.int (1 : Int32))]))
      exact own_out X325 hlk (v := some (.int (1 : Int32))) (fun h => by rw [hret] at h; cases h) (fun fs hr => retOut X325 hx (t := .boolean) hret (by decide) (Or.inl ⟨rfl, by simp, _, rfl⟩) (hb hby d15_19) hr) e325 ⟨rfl, N325, rfl⟩ (by decide) (by decide)
    ·
      refine own_go (fun _ ww => XS.icmpYes X0.here hx rfl (pc0 := 7) (pc' := 20) rfl (hb hby d15_7) rfl (flt hc323).2.1 (by decide) (by decide) ww) ?_
      show own_Goes _ _ _ _ _ _ _ (s₁.setTop (mkF m 20 #[.val (.int (Int32.ofNat jn)), .val (.int (Int32.ofNat nr)), .val (.int (Int32.ofNat nk)), .val (.int (Int32.ofNat nf)), .val (.ref b)] []))
      refine own_go (fun _ ww => XS.iconst X0.here hx rfl (hb hby d15_20) ww) ?_
      show own_Goes _ _ _ _ _ _ _ (s₁.setTop (mkF m 21 #[.val (.int (Int32.ofNat jn)), .val (.int (Int32.ofNat nr)), .val (.int (Int32.ofNat nk)), .val (.int (Int32.ofNat nf)), .val (.ref b)] [(.int (1 : Int32))]))
      exact own_out X0 hlk (v := some (.int (1 : Int32))) (fun h => by rw [hret] at h; cases h) (fun fs hr => retOut X0 hx (t := .boolean) hret (by decide) (Or.inl ⟨rfl, by simp, _, rfl⟩) (hb hby d15_21) hr) e0 ⟨rfl, N0, rfl⟩ (by decide) (by decide)
theorem ef_law (m : MethodId) (x0 : Int64) (x2 : Int64) (x4 : Int32) (zc : Int32) (fm : Value) : entryFrame m #[(.long x0), (.long x2), (.int x4)] maxLocals = mkF m 0 #[.val (.long x0), .second, .val (.long x2), .second, .val (.int x4), .unset, .unset, .unset, .unset, .unset, .unset, .unset, .unset, .unset] [] := by
  first | (simp [entryFrame, mkF, argsToLocals, Value.category, maxLocals]; done) | rfl
def Q_law (Z : State) (x0 : Int64) (x2 : Int64) (x4 : Int32) (zc : Int32) (fm : Value) (h0 : Heap) (n0 : Nat) (v : Option Value) (h : Heap) (L : List Loc) : Prop := v = some (.int 1) ∧ Fr n0 L
set_option maxRecDepth 65536 in
set_option maxHeartbeats 40000000 in
theorem rm_law (l : Launch) (Z : State) (a0 : Array Value) (hw : ∀ d ∈ tables_1, d.before a0 Z = true) (ws : List Jvm.Cond) (x0 : Int64) (x2 : Int64) (x4 : Int32) (zc : Int32) (fm : Value) (h0 : Heap) (n0 : Nat) (O0 : Old Z n0 h0) (SC : Sta Z Z.heap "java/lang/String" "COMPACT_STRINGS" "Z" (.int zc)) (hzc : ¬ zc = 0) (SA : Sta Z Z.heap "java/lang/StringUTF16" "$assertionsDisabled" "Z" (.int (1 : Int32))) (SH : Sta Z Z.heap "java/lang/StringUTF16" "HI_BYTE_SHIFT" "I" (.int (0 : Int32))) (SLo : Sta Z Z.heap "java/lang/StringUTF16" "LO_BYTE_SHIFT" "I" (.int (8 : Int32))) (rfm : fm.isRef = true) (SF : Sta Z Z.heap "jdk/internal/util/Preconditions" "SIOOBE_FORMATTER" "Ljava/util/function/BiFunction;" fm) :
    MetFree l x (head1 (Jvm.Cond.code x code maxLocals ret :: ws) room_1) (fun av_ U => av_ = #[(.long x0), (.long x2), (.int x4)] ∧ Z.Warmed39 U.vm ∧ U.heap = h0) (fun _ _ _ _ _ => True) (fun _ U o_ U' => ∃ v L, o_ = .returned v ∧ Q_law Z x0 x2 x4 zc fm h0 n0 v U'.heap L ∧ FrameEnd U o_ U' L room_1.cells room_1.slots) := by
  refine MetFree.of_bodySF (plainFor_of_name pn_0) hisR ?_
  intro p e s m args below meth c s₁ Bd hml0 hP hK
  obtain ⟨rfl, hZ, hh⟩ := hP
  have hx := Bd.exec
  have hby := Bd.bytes
  have hml : c.maxLocals = 14 := hml0
  have hown : s.vm.findClass "org/graticule/read/SpanDigitsEndPinLaw" = some m.cls := findClass_of_methodNamed Bd.named
  have hnm := (name_of_methodNamed Bd.named Bd.method).1
  have hlk := own_lk Bd
  have hret := Bd.returns
  have X0 : Stand p l e room_1 s m #[(.long x0), (.long x2), (.int x4)] below meth c s₁ [] 0 0 := Stand.of_body Bd
  have e0 : s₁.heap = h0 := by rw [← hh, Bd.state]; rfl
  have N0 := Fr.nil n0
  show own_Goes p e below s (Q_law Z x0 x2 x4 zc fm h0 n0) room_1.cells room_1.slots (s₁.setTop (entryFrame m #[(.long x0), (.long x2), (.int x4)] maxLocals))
  refine own_go (fun _ ww => castTop (ef_law m x0 x2 x4 zc fm) ww) ?_
  show own_Goes _ _ _ _ _ _ _ (s₁.setTop (mkF m 0 #[.val (.long x0), .second, .val (.long x2), .second, .val (.int x4), .unset, .unset, .unset, .unset, .unset, .unset, .unset, .unset, .unset] []))
  refine own_go (fun _ ww => XS.bipush X0.here hx rfl (hb hby at_0) ww) ?_
  show own_Goes _ _ _ _ _ _ _ (s₁.setTop (mkF m 2 #[.val (.long x0), .second, .val (.long x2), .second, .val (.int x4), .unset, .unset, .unset, .unset, .unset, .unset, .unset, .unset, .unset] [(.int (6 : Int32))]))
  obtain ⟨T326, h326, k326, X326, e326, E326, A326, st326⟩ := newP X0 hx hZ (hw _ (List.mem_of_getElem? (i := 0) rfl)) e0 (g := (mkF m 2 #[.val (.long x0), .second, .val (.long x2), .second, .val (.int x4), .unset, .unset, .unset, .unset, .unset, .unset, .unset, .unset, .unset] [(.int (6 : Int32))])) rfl (hb hby at_2) rfl (by decide) (cap := 6) (by decide) (by decide) (by decide) (by decide)
  obtain ⟨b326, g326⟩ : ∃ z, z = h0.size := ⟨_, rfl⟩
  rw [← g326] at A326 st326
  have g_b326 : n0 ≤ b326 := Nat.le_trans (O0.1 ▸ O0.2.1) (Nat.le_of_eq g326.symm)
  have O326 := O0.ext E326
  have V326 : Arv Z h326 b326 k326 .char (6 : Int32) [(.int (0 : Int32)), (.int (0 : Int32)), (.int (0 : Int32)), (.int (0 : Int32)), (.int (0 : Int32)), (.int (0 : Int32))] (.int (0 : Int32)) := (Arv.new A326 (by decide)).pad (pad_rep [] (.int (0 : Int32)) 6)
  refine own_go st326 ?_
  show own_Goes _ _ _ _ _ _ _ (T326.setTop (mkF m 4 #[.val (.long x0), .second, .val (.long x2), .second, .val (.int x4), .unset, .unset, .unset, .unset, .unset, .unset, .unset, .unset, .unset] [(.ref b326)]))
  refine own_go (fun _ ww => XS.astore X326.here hx rfl (hb hby at_4) rfl rfl (l' := #[.val (.long x0), .second, .val (.long x2), .second, .val (.int x4), .val (.ref b326), .unset, .unset, .unset, .unset, .unset, .unset, .unset, .unset]) rfl ww) ?_
  show own_Goes _ _ _ _ _ _ _ (T326.setTop (mkF m 6 #[.val (.long x0), .second, .val (.long x2), .second, .val (.int x4), .val (.ref b326), .unset, .unset, .unset, .unset, .unset, .unset, .unset, .unset] []))
  refine own_go (fun _ ww => XS.aload X326.here hx rfl (hb hby at_6) rfl rfl ww) ?_
  show own_Goes _ _ _ _ _ _ _ (T326.setTop (mkF m 8 #[.val (.long x0), .second, .val (.long x2), .second, .val (.int x4), .val (.ref b326), .unset, .unset, .unset, .unset, .unset, .unset, .unset, .unset] [(.ref b326)]))
  refine own_go (fun _ ww => XS.iconst X326.here hx rfl (hb hby at_8) ww) ?_
  show own_Goes _ _ _ _ _ _ _ (T326.setTop (mkF m 9 #[.val (.long x0), .second, .val (.long x2), .second, .val (.int x4), .val (.ref b326), .unset, .unset, .unset, .unset, .unset, .unset, .unset, .unset] [(.int (0 : Int32)), (.ref b326)]))
  refine own_go (fun _ ww => XT.lloadN X326.here hx rfl (hb hby at_9) rfl  ww) ?_
  show own_Goes _ _ _ _ _ _ _ (T326.setTop (mkF m 10 #[.val (.long x0), .second, .val (.long x2), .second, .val (.int x4), .val (.ref b326), .unset, .unset, .unset, .unset, .unset, .unset, .unset, .unset] [(.long x0), (.int (0 : Int32)), (.ref b326)]))
  refine own_go (fun _ ww => XS.iconst X326.here hx rfl (hb hby at_10) ww) ?_
  show own_Goes _ _ _ _ _ _ _ (T326.setTop (mkF m 11 #[.val (.long x0), .second, .val (.long x2), .second, .val (.int x4), .val (.ref b326), .unset, .unset, .unset, .unset, .unset, .unset, .unset, .unset] [(.int (0 : Int32)), (.long x0), (.int (0 : Int32)), (.ref b326)]))
  obtain ⟨_, _, ⟨T327, L327, k327, n327⟩, -, X327, ⟨Lc327, hQ327, l327, y327, z327⟩, st327⟩ := Jvm.LawKit.callS X326 hx (y := (⟨"org/graticule/read/SpanDigitsEndPinLaw", "ch", "(JI)C"⟩ : MethodName)) hown (mvT hZ (hw _ (List.mem_of_getElem? (i := 1) rfl))) (mvT hZ (hw _ (List.mem_of_getElem? (i := 2) rfl))) (mvT hZ (hw _ (List.mem_of_getElem? (i := 3) rfl))) (mvT hZ (hw _ (List.mem_of_getElem? (i := 4) rfl))) (by decide) (backOf (W := 2) (rm_ch l Z a0 hw [] x0 (0 : Int32) h326 n0 O326 ) hZ (hw _ (List.mem_of_getElem? (i := 4) rfl)) (hw _ (List.mem_of_getElem? (i := 3) rfl)) (by decide) (by decide)) (g := (mkF m 11 #[.val (.long x0), .second, .val (.long x2), .second, .val (.int x4), .val (.ref b326), .unset, .unset, .unset, .unset, .unset, .unset, .unset, .unset] [(.int (0 : Int32)), (.long x0), (.int (0 : Int32)), (.ref b326)])) rfl (by rw [hml]; rfl) (argsL := [(.long x0), (.int (0 : Int32))]) (rest := [(.int (0 : Int32)), (.ref b326)]) (lenOf pd_20 rfl) rfl (by show 2 * 0 + _ ≤ _; exact Nat.le_of_eq rfl) (hb hby at_11) (fun _ _ => ⟨rfl, e326, (by decide : 1 + 0 ≤ _), (by decide : 6 + 0 ≤ _)⟩)
  dsimp only [Pt.U, Pt.locs, Pt.cells, Pt.slots] at X327 l327 y327 z327 st327 hQ327
  subst l327 y327 z327
  obtain ⟨r327, rfl, N327q, e327, b_r327⟩ := hQ327
  have N327 := Fr.app N0 N327q
  refine own_go st327 ?_
  show own_Goes _ _ _ _ _ _ _ (T327.setTop (mkF m 14 #[.val (.long x0), .second, .val (.long x2), .second, .val (.int x4), .val (.ref b326), .unset, .unset, .unset, .unset, .unset, .unset, .unset, .unset] [(.int r327), (.int (0 : Int32)), (.ref b326)]))
  obtain ⟨cl328, Ar328, q328, S328, M328, H328, U328⟩ := id V326
  obtain ⟨T328, h328, X328, e328, W328, st328⟩ := stC X327 hx hZ e327 Ar328 (j := (0 : Int32)) (inb_of S328 ⟨by decide, by decide⟩) (g := (mkF m 14 #[.val (.long x0), .second, .val (.long x2), .second, .val (.int x4), .val (.ref b326), .unset, .unset, .unset, .unset, .unset, .unset, .unset, .unset] [(.int r327), (.int (0 : Int32)), (.ref b326)])) rfl rfl (hb hby at_14)
  have nr328 : nar .char r327 = r327 := (own_n16 b_r327)
  rw [nr328] at W328
  have ft328 : fits .char (.int r327) = true := by have q := fits_nar_char r327; rw [nr328] at q; exact q
  have f329 : Arv Z h328 b326 k326 .char (6 : Int32) [(.int r327), (.int (0 : Int32)), (.int (0 : Int32)), (.int (0 : Int32)), (.int (0 : Int32)), (.int (0 : Int32))] (.int (0 : Int32)) := (Arv.set Ar328 q328 S328 M328 H328 U328 ft328 W328 0 rfl (Nat.le_of_ble_eq_true rfl))
  have N328 := Fr.snoc X328 N327 g_b326
  have O328 := O326.wr W328 g_b326
  refine own_go st328 ?_
  show own_Goes _ _ _ _ _ _ _ (T328.setTop (mkF m 15 #[.val (.long x0), .second, .val (.long x2), .second, .val (.int x4), .val (.ref b326), .unset, .unset, .unset, .unset, .unset, .unset, .unset, .unset] []))
  refine own_go (fun _ ww => XS.aload X328.here hx rfl (hb hby at_15) rfl rfl ww) ?_
  show own_Goes _ _ _ _ _ _ _ (T328.setTop (mkF m 17 #[.val (.long x0), .second, .val (.long x2), .second, .val (.int x4), .val (.ref b326), .unset, .unset, .unset, .unset, .unset, .unset, .unset, .unset] [(.ref b326)]))
  refine own_go (fun _ ww => XS.iconst X328.here hx rfl (hb hby at_17) ww) ?_
  show own_Goes _ _ _ _ _ _ _ (T328.setTop (mkF m 18 #[.val (.long x0), .second, .val (.long x2), .second, .val (.int x4), .val (.ref b326), .unset, .unset, .unset, .unset, .unset, .unset, .unset, .unset] [(.int (1 : Int32)), (.ref b326)]))
  refine own_go (fun _ ww => XT.lloadN X328.here hx rfl (hb hby at_18) rfl  ww) ?_
  show own_Goes _ _ _ _ _ _ _ (T328.setTop (mkF m 19 #[.val (.long x0), .second, .val (.long x2), .second, .val (.int x4), .val (.ref b326), .unset, .unset, .unset, .unset, .unset, .unset, .unset, .unset] [(.long x0), (.int (1 : Int32)), (.ref b326)]))
  refine own_go (fun _ ww => XS.iconst X328.here hx rfl (hb hby at_19) ww) ?_
  show own_Goes _ _ _ _ _ _ _ (T328.setTop (mkF m 20 #[.val (.long x0), .second, .val (.long x2), .second, .val (.int x4), .val (.ref b326), .unset, .unset, .unset, .unset, .unset, .unset, .unset, .unset] [(.int (1 : Int32)), (.long x0), (.int (1 : Int32)), (.ref b326)]))
  obtain ⟨_, _, ⟨T330, L330, k330, n330⟩, -, X330, ⟨Lc330, hQ330, l330, y330, z330⟩, st330⟩ := Jvm.LawKit.callS X328 hx (y := (⟨"org/graticule/read/SpanDigitsEndPinLaw", "ch", "(JI)C"⟩ : MethodName)) hown (mvT hZ (hw _ (List.mem_of_getElem? (i := 1) rfl))) (mvT hZ (hw _ (List.mem_of_getElem? (i := 2) rfl))) (mvT hZ (hw _ (List.mem_of_getElem? (i := 3) rfl))) (mvT hZ (hw _ (List.mem_of_getElem? (i := 4) rfl))) (by decide) (backOf (W := 2) (rm_ch l Z a0 hw [] x0 (1 : Int32) h328 n0 O328 ) hZ (hw _ (List.mem_of_getElem? (i := 4) rfl)) (hw _ (List.mem_of_getElem? (i := 3) rfl)) (by decide) (by decide)) (g := (mkF m 20 #[.val (.long x0), .second, .val (.long x2), .second, .val (.int x4), .val (.ref b326), .unset, .unset, .unset, .unset, .unset, .unset, .unset, .unset] [(.int (1 : Int32)), (.long x0), (.int (1 : Int32)), (.ref b326)])) rfl (by rw [hml]; rfl) (argsL := [(.long x0), (.int (1 : Int32))]) (rest := [(.int (1 : Int32)), (.ref b326)]) (lenOf pd_20 rfl) rfl (by show 2 * 0 + _ ≤ _; exact Nat.le_of_eq rfl) (hb hby at_20) (fun _ _ => ⟨rfl, e328, (by decide : 1 + 0 ≤ _), (by decide : 6 + 0 ≤ _)⟩)
  dsimp only [Pt.U, Pt.locs, Pt.cells, Pt.slots] at X330 l330 y330 z330 st330 hQ330
  subst l330 y330 z330
  obtain ⟨r330, rfl, N330q, e330, b_r330⟩ := hQ330
  have N330 := Fr.app N328 N330q
  refine own_go st330 ?_
  show own_Goes _ _ _ _ _ _ _ (T330.setTop (mkF m 23 #[.val (.long x0), .second, .val (.long x2), .second, .val (.int x4), .val (.ref b326), .unset, .unset, .unset, .unset, .unset, .unset, .unset, .unset] [(.int r330), (.int (1 : Int32)), (.ref b326)]))
  obtain ⟨cl331, Ar331, q331, S331, M331, H331, U331⟩ := id f329
  obtain ⟨T331, h331, X331, e331, W331, st331⟩ := stC X330 hx hZ e330 Ar331 (j := (1 : Int32)) (inb_of S331 ⟨by decide, by decide⟩) (g := (mkF m 23 #[.val (.long x0), .second, .val (.long x2), .second, .val (.int x4), .val (.ref b326), .unset, .unset, .unset, .unset, .unset, .unset, .unset, .unset] [(.int r330), (.int (1 : Int32)), (.ref b326)])) rfl rfl (hb hby at_23)
  have nr331 : nar .char r330 = r330 := (own_n16 b_r330)
  rw [nr331] at W331
  have ft331 : fits .char (.int r330) = true := by have q := fits_nar_char r330; rw [nr331] at q; exact q
  have f332 : Arv Z h331 b326 k326 .char (6 : Int32) [(.int r327), (.int r330), (.int (0 : Int32)), (.int (0 : Int32)), (.int (0 : Int32)), (.int (0 : Int32))] (.int (0 : Int32)) := (Arv.set Ar331 q331 S331 M331 H331 U331 ft331 W331 1 rfl (Nat.le_of_ble_eq_true rfl))
  have N331 := Fr.snoc X331 N330 g_b326
  have O331 := O328.wr W331 g_b326
  refine own_go st331 ?_
  show own_Goes _ _ _ _ _ _ _ (T331.setTop (mkF m 24 #[.val (.long x0), .second, .val (.long x2), .second, .val (.int x4), .val (.ref b326), .unset, .unset, .unset, .unset, .unset, .unset, .unset, .unset] []))
  refine own_go (fun _ ww => XS.aload X331.here hx rfl (hb hby at_24) rfl rfl ww) ?_
  show own_Goes _ _ _ _ _ _ _ (T331.setTop (mkF m 26 #[.val (.long x0), .second, .val (.long x2), .second, .val (.int x4), .val (.ref b326), .unset, .unset, .unset, .unset, .unset, .unset, .unset, .unset] [(.ref b326)]))
  refine own_go (fun _ ww => XS.iconst X331.here hx rfl (hb hby at_26) ww) ?_
  show own_Goes _ _ _ _ _ _ _ (T331.setTop (mkF m 27 #[.val (.long x0), .second, .val (.long x2), .second, .val (.int x4), .val (.ref b326), .unset, .unset, .unset, .unset, .unset, .unset, .unset, .unset] [(.int (2 : Int32)), (.ref b326)]))
  refine own_go (fun _ ww => XT.lloadN X331.here hx rfl (hb hby at_27) rfl  ww) ?_
  show own_Goes _ _ _ _ _ _ _ (T331.setTop (mkF m 28 #[.val (.long x0), .second, .val (.long x2), .second, .val (.int x4), .val (.ref b326), .unset, .unset, .unset, .unset, .unset, .unset, .unset, .unset] [(.long x0), (.int (2 : Int32)), (.ref b326)]))
  refine own_go (fun _ ww => XS.iconst X331.here hx rfl (hb hby at_28) ww) ?_
  show own_Goes _ _ _ _ _ _ _ (T331.setTop (mkF m 29 #[.val (.long x0), .second, .val (.long x2), .second, .val (.int x4), .val (.ref b326), .unset, .unset, .unset, .unset, .unset, .unset, .unset, .unset] [(.int (2 : Int32)), (.long x0), (.int (2 : Int32)), (.ref b326)]))
  obtain ⟨_, _, ⟨T333, L333, k333, n333⟩, -, X333, ⟨Lc333, hQ333, l333, y333, z333⟩, st333⟩ := Jvm.LawKit.callS X331 hx (y := (⟨"org/graticule/read/SpanDigitsEndPinLaw", "ch", "(JI)C"⟩ : MethodName)) hown (mvT hZ (hw _ (List.mem_of_getElem? (i := 1) rfl))) (mvT hZ (hw _ (List.mem_of_getElem? (i := 2) rfl))) (mvT hZ (hw _ (List.mem_of_getElem? (i := 3) rfl))) (mvT hZ (hw _ (List.mem_of_getElem? (i := 4) rfl))) (by decide) (backOf (W := 2) (rm_ch l Z a0 hw [] x0 (2 : Int32) h331 n0 O331 ) hZ (hw _ (List.mem_of_getElem? (i := 4) rfl)) (hw _ (List.mem_of_getElem? (i := 3) rfl)) (by decide) (by decide)) (g := (mkF m 29 #[.val (.long x0), .second, .val (.long x2), .second, .val (.int x4), .val (.ref b326), .unset, .unset, .unset, .unset, .unset, .unset, .unset, .unset] [(.int (2 : Int32)), (.long x0), (.int (2 : Int32)), (.ref b326)])) rfl (by rw [hml]; rfl) (argsL := [(.long x0), (.int (2 : Int32))]) (rest := [(.int (2 : Int32)), (.ref b326)]) (lenOf pd_20 rfl) rfl (by show 2 * 0 + _ ≤ _; exact Nat.le_of_eq rfl) (hb hby at_29) (fun _ _ => ⟨rfl, e331, (by decide : 1 + 0 ≤ _), (by decide : 6 + 0 ≤ _)⟩)
  dsimp only [Pt.U, Pt.locs, Pt.cells, Pt.slots] at X333 l333 y333 z333 st333 hQ333
  subst l333 y333 z333
  obtain ⟨r333, rfl, N333q, e333, b_r333⟩ := hQ333
  have N333 := Fr.app N331 N333q
  refine own_go st333 ?_
  show own_Goes _ _ _ _ _ _ _ (T333.setTop (mkF m 32 #[.val (.long x0), .second, .val (.long x2), .second, .val (.int x4), .val (.ref b326), .unset, .unset, .unset, .unset, .unset, .unset, .unset, .unset] [(.int r333), (.int (2 : Int32)), (.ref b326)]))
  obtain ⟨cl334, Ar334, q334, S334, M334, H334, U334⟩ := id f332
  obtain ⟨T334, h334, X334, e334, W334, st334⟩ := stC X333 hx hZ e333 Ar334 (j := (2 : Int32)) (inb_of S334 ⟨by decide, by decide⟩) (g := (mkF m 32 #[.val (.long x0), .second, .val (.long x2), .second, .val (.int x4), .val (.ref b326), .unset, .unset, .unset, .unset, .unset, .unset, .unset, .unset] [(.int r333), (.int (2 : Int32)), (.ref b326)])) rfl rfl (hb hby at_32)
  have nr334 : nar .char r333 = r333 := (own_n16 b_r333)
  rw [nr334] at W334
  have ft334 : fits .char (.int r333) = true := by have q := fits_nar_char r333; rw [nr334] at q; exact q
  have f335 : Arv Z h334 b326 k326 .char (6 : Int32) [(.int r327), (.int r330), (.int r333), (.int (0 : Int32)), (.int (0 : Int32)), (.int (0 : Int32))] (.int (0 : Int32)) := (Arv.set Ar334 q334 S334 M334 H334 U334 ft334 W334 2 rfl (Nat.le_of_ble_eq_true rfl))
  have N334 := Fr.snoc X334 N333 g_b326
  have O334 := O331.wr W334 g_b326
  refine own_go st334 ?_
  show own_Goes _ _ _ _ _ _ _ (T334.setTop (mkF m 33 #[.val (.long x0), .second, .val (.long x2), .second, .val (.int x4), .val (.ref b326), .unset, .unset, .unset, .unset, .unset, .unset, .unset, .unset] []))
  refine own_go (fun _ ww => XS.aload X334.here hx rfl (hb hby at_33) rfl rfl ww) ?_
  show own_Goes _ _ _ _ _ _ _ (T334.setTop (mkF m 35 #[.val (.long x0), .second, .val (.long x2), .second, .val (.int x4), .val (.ref b326), .unset, .unset, .unset, .unset, .unset, .unset, .unset, .unset] [(.ref b326)]))
  refine own_go (fun _ ww => XS.iconst X334.here hx rfl (hb hby at_35) ww) ?_
  show own_Goes _ _ _ _ _ _ _ (T334.setTop (mkF m 36 #[.val (.long x0), .second, .val (.long x2), .second, .val (.int x4), .val (.ref b326), .unset, .unset, .unset, .unset, .unset, .unset, .unset, .unset] [(.int (3 : Int32)), (.ref b326)]))
  refine own_go (fun _ ww => XT.lloadN X334.here hx rfl (hb hby at_36) rfl  ww) ?_
  show own_Goes _ _ _ _ _ _ _ (T334.setTop (mkF m 37 #[.val (.long x0), .second, .val (.long x2), .second, .val (.int x4), .val (.ref b326), .unset, .unset, .unset, .unset, .unset, .unset, .unset, .unset] [(.long x2), (.int (3 : Int32)), (.ref b326)]))
  refine own_go (fun _ ww => XS.iconst X334.here hx rfl (hb hby at_37) ww) ?_
  show own_Goes _ _ _ _ _ _ _ (T334.setTop (mkF m 38 #[.val (.long x0), .second, .val (.long x2), .second, .val (.int x4), .val (.ref b326), .unset, .unset, .unset, .unset, .unset, .unset, .unset, .unset] [(.int (0 : Int32)), (.long x2), (.int (3 : Int32)), (.ref b326)]))
  obtain ⟨_, _, ⟨T336, L336, k336, n336⟩, -, X336, ⟨Lc336, hQ336, l336, y336, z336⟩, st336⟩ := Jvm.LawKit.callS X334 hx (y := (⟨"org/graticule/read/SpanDigitsEndPinLaw", "ch", "(JI)C"⟩ : MethodName)) hown (mvT hZ (hw _ (List.mem_of_getElem? (i := 1) rfl))) (mvT hZ (hw _ (List.mem_of_getElem? (i := 2) rfl))) (mvT hZ (hw _ (List.mem_of_getElem? (i := 3) rfl))) (mvT hZ (hw _ (List.mem_of_getElem? (i := 4) rfl))) (by decide) (backOf (W := 2) (rm_ch l Z a0 hw [] x2 (0 : Int32) h334 n0 O334 ) hZ (hw _ (List.mem_of_getElem? (i := 4) rfl)) (hw _ (List.mem_of_getElem? (i := 3) rfl)) (by decide) (by decide)) (g := (mkF m 38 #[.val (.long x0), .second, .val (.long x2), .second, .val (.int x4), .val (.ref b326), .unset, .unset, .unset, .unset, .unset, .unset, .unset, .unset] [(.int (0 : Int32)), (.long x2), (.int (3 : Int32)), (.ref b326)])) rfl (by rw [hml]; rfl) (argsL := [(.long x2), (.int (0 : Int32))]) (rest := [(.int (3 : Int32)), (.ref b326)]) (lenOf pd_20 rfl) rfl (by show 2 * 0 + _ ≤ _; exact Nat.le_of_eq rfl) (hb hby at_38) (fun _ _ => ⟨rfl, e334, (by decide : 1 + 0 ≤ _), (by decide : 6 + 0 ≤ _)⟩)
  dsimp only [Pt.U, Pt.locs, Pt.cells, Pt.slots] at X336 l336 y336 z336 st336 hQ336
  subst l336 y336 z336
  obtain ⟨r336, rfl, N336q, e336, b_r336⟩ := hQ336
  have N336 := Fr.app N334 N336q
  refine own_go st336 ?_
  show own_Goes _ _ _ _ _ _ _ (T336.setTop (mkF m 41 #[.val (.long x0), .second, .val (.long x2), .second, .val (.int x4), .val (.ref b326), .unset, .unset, .unset, .unset, .unset, .unset, .unset, .unset] [(.int r336), (.int (3 : Int32)), (.ref b326)]))
  obtain ⟨cl337, Ar337, q337, S337, M337, H337, U337⟩ := id f335
  obtain ⟨T337, h337, X337, e337, W337, st337⟩ := stC X336 hx hZ e336 Ar337 (j := (3 : Int32)) (inb_of S337 ⟨by decide, by decide⟩) (g := (mkF m 41 #[.val (.long x0), .second, .val (.long x2), .second, .val (.int x4), .val (.ref b326), .unset, .unset, .unset, .unset, .unset, .unset, .unset, .unset] [(.int r336), (.int (3 : Int32)), (.ref b326)])) rfl rfl (hb hby at_41)
  have nr337 : nar .char r336 = r336 := (own_n16 b_r336)
  rw [nr337] at W337
  have ft337 : fits .char (.int r336) = true := by have q := fits_nar_char r336; rw [nr337] at q; exact q
  have f338 : Arv Z h337 b326 k326 .char (6 : Int32) [(.int r327), (.int r330), (.int r333), (.int r336), (.int (0 : Int32)), (.int (0 : Int32))] (.int (0 : Int32)) := (Arv.set Ar337 q337 S337 M337 H337 U337 ft337 W337 3 rfl (Nat.le_of_ble_eq_true rfl))
  have N337 := Fr.snoc X337 N336 g_b326
  have O337 := O334.wr W337 g_b326
  refine own_go st337 ?_
  show own_Goes _ _ _ _ _ _ _ (T337.setTop (mkF m 42 #[.val (.long x0), .second, .val (.long x2), .second, .val (.int x4), .val (.ref b326), .unset, .unset, .unset, .unset, .unset, .unset, .unset, .unset] []))
  refine own_go (fun _ ww => XS.aload X337.here hx rfl (hb hby at_42) rfl rfl ww) ?_
  show own_Goes _ _ _ _ _ _ _ (T337.setTop (mkF m 44 #[.val (.long x0), .second, .val (.long x2), .second, .val (.int x4), .val (.ref b326), .unset, .unset, .unset, .unset, .unset, .unset, .unset, .unset] [(.ref b326)]))
  refine own_go (fun _ ww => XS.iconst X337.here hx rfl (hb hby at_44) ww) ?_
  show own_Goes _ _ _ _ _ _ _ (T337.setTop (mkF m 45 #[.val (.long x0), .second, .val (.long x2), .second, .val (.int x4), .val (.ref b326), .unset, .unset, .unset, .unset, .unset, .unset, .unset, .unset] [(.int (4 : Int32)), (.ref b326)]))
  refine own_go (fun _ ww => XT.lloadN X337.here hx rfl (hb hby at_45) rfl  ww) ?_
  show own_Goes _ _ _ _ _ _ _ (T337.setTop (mkF m 46 #[.val (.long x0), .second, .val (.long x2), .second, .val (.int x4), .val (.ref b326), .unset, .unset, .unset, .unset, .unset, .unset, .unset, .unset] [(.long x2), (.int (4 : Int32)), (.ref b326)]))
  refine own_go (fun _ ww => XS.iconst X337.here hx rfl (hb hby at_46) ww) ?_
  show own_Goes _ _ _ _ _ _ _ (T337.setTop (mkF m 47 #[.val (.long x0), .second, .val (.long x2), .second, .val (.int x4), .val (.ref b326), .unset, .unset, .unset, .unset, .unset, .unset, .unset, .unset] [(.int (1 : Int32)), (.long x2), (.int (4 : Int32)), (.ref b326)]))
  obtain ⟨_, _, ⟨T339, L339, k339, n339⟩, -, X339, ⟨Lc339, hQ339, l339, y339, z339⟩, st339⟩ := Jvm.LawKit.callS X337 hx (y := (⟨"org/graticule/read/SpanDigitsEndPinLaw", "ch", "(JI)C"⟩ : MethodName)) hown (mvT hZ (hw _ (List.mem_of_getElem? (i := 1) rfl))) (mvT hZ (hw _ (List.mem_of_getElem? (i := 2) rfl))) (mvT hZ (hw _ (List.mem_of_getElem? (i := 3) rfl))) (mvT hZ (hw _ (List.mem_of_getElem? (i := 4) rfl))) (by decide) (backOf (W := 2) (rm_ch l Z a0 hw [] x2 (1 : Int32) h337 n0 O337 ) hZ (hw _ (List.mem_of_getElem? (i := 4) rfl)) (hw _ (List.mem_of_getElem? (i := 3) rfl)) (by decide) (by decide)) (g := (mkF m 47 #[.val (.long x0), .second, .val (.long x2), .second, .val (.int x4), .val (.ref b326), .unset, .unset, .unset, .unset, .unset, .unset, .unset, .unset] [(.int (1 : Int32)), (.long x2), (.int (4 : Int32)), (.ref b326)])) rfl (by rw [hml]; rfl) (argsL := [(.long x2), (.int (1 : Int32))]) (rest := [(.int (4 : Int32)), (.ref b326)]) (lenOf pd_20 rfl) rfl (by show 2 * 0 + _ ≤ _; exact Nat.le_of_eq rfl) (hb hby at_47) (fun _ _ => ⟨rfl, e337, (by decide : 1 + 0 ≤ _), (by decide : 6 + 0 ≤ _)⟩)
  dsimp only [Pt.U, Pt.locs, Pt.cells, Pt.slots] at X339 l339 y339 z339 st339 hQ339
  subst l339 y339 z339
  obtain ⟨r339, rfl, N339q, e339, b_r339⟩ := hQ339
  have N339 := Fr.app N337 N339q
  refine own_go st339 ?_
  show own_Goes _ _ _ _ _ _ _ (T339.setTop (mkF m 50 #[.val (.long x0), .second, .val (.long x2), .second, .val (.int x4), .val (.ref b326), .unset, .unset, .unset, .unset, .unset, .unset, .unset, .unset] [(.int r339), (.int (4 : Int32)), (.ref b326)]))
  obtain ⟨cl340, Ar340, q340, S340, M340, H340, U340⟩ := id f338
  obtain ⟨T340, h340, X340, e340, W340, st340⟩ := stC X339 hx hZ e339 Ar340 (j := (4 : Int32)) (inb_of S340 ⟨by decide, by decide⟩) (g := (mkF m 50 #[.val (.long x0), .second, .val (.long x2), .second, .val (.int x4), .val (.ref b326), .unset, .unset, .unset, .unset, .unset, .unset, .unset, .unset] [(.int r339), (.int (4 : Int32)), (.ref b326)])) rfl rfl (hb hby at_50)
  have nr340 : nar .char r339 = r339 := (own_n16 b_r339)
  rw [nr340] at W340
  have ft340 : fits .char (.int r339) = true := by have q := fits_nar_char r339; rw [nr340] at q; exact q
  have f341 : Arv Z h340 b326 k326 .char (6 : Int32) [(.int r327), (.int r330), (.int r333), (.int r336), (.int r339), (.int (0 : Int32))] (.int (0 : Int32)) := (Arv.set Ar340 q340 S340 M340 H340 U340 ft340 W340 4 rfl (Nat.le_of_ble_eq_true rfl))
  have N340 := Fr.snoc X340 N339 g_b326
  have O340 := O337.wr W340 g_b326
  refine own_go st340 ?_
  show own_Goes _ _ _ _ _ _ _ (T340.setTop (mkF m 51 #[.val (.long x0), .second, .val (.long x2), .second, .val (.int x4), .val (.ref b326), .unset, .unset, .unset, .unset, .unset, .unset, .unset, .unset] []))
  refine own_go (fun _ ww => XS.aload X340.here hx rfl (hb hby at_51) rfl rfl ww) ?_
  show own_Goes _ _ _ _ _ _ _ (T340.setTop (mkF m 53 #[.val (.long x0), .second, .val (.long x2), .second, .val (.int x4), .val (.ref b326), .unset, .unset, .unset, .unset, .unset, .unset, .unset, .unset] [(.ref b326)]))
  refine own_go (fun _ ww => XS.iconst X340.here hx rfl (hb hby at_53) ww) ?_
  show own_Goes _ _ _ _ _ _ _ (T340.setTop (mkF m 54 #[.val (.long x0), .second, .val (.long x2), .second, .val (.int x4), .val (.ref b326), .unset, .unset, .unset, .unset, .unset, .unset, .unset, .unset] [(.int (5 : Int32)), (.ref b326)]))
  refine own_go (fun _ ww => XT.lloadN X340.here hx rfl (hb hby at_54) rfl  ww) ?_
  show own_Goes _ _ _ _ _ _ _ (T340.setTop (mkF m 55 #[.val (.long x0), .second, .val (.long x2), .second, .val (.int x4), .val (.ref b326), .unset, .unset, .unset, .unset, .unset, .unset, .unset, .unset] [(.long x2), (.int (5 : Int32)), (.ref b326)]))
  refine own_go (fun _ ww => XS.iconst X340.here hx rfl (hb hby at_55) ww) ?_
  show own_Goes _ _ _ _ _ _ _ (T340.setTop (mkF m 56 #[.val (.long x0), .second, .val (.long x2), .second, .val (.int x4), .val (.ref b326), .unset, .unset, .unset, .unset, .unset, .unset, .unset, .unset] [(.int (2 : Int32)), (.long x2), (.int (5 : Int32)), (.ref b326)]))
  obtain ⟨_, _, ⟨T342, L342, k342, n342⟩, -, X342, ⟨Lc342, hQ342, l342, y342, z342⟩, st342⟩ := Jvm.LawKit.callS X340 hx (y := (⟨"org/graticule/read/SpanDigitsEndPinLaw", "ch", "(JI)C"⟩ : MethodName)) hown (mvT hZ (hw _ (List.mem_of_getElem? (i := 1) rfl))) (mvT hZ (hw _ (List.mem_of_getElem? (i := 2) rfl))) (mvT hZ (hw _ (List.mem_of_getElem? (i := 3) rfl))) (mvT hZ (hw _ (List.mem_of_getElem? (i := 4) rfl))) (by decide) (backOf (W := 2) (rm_ch l Z a0 hw [] x2 (2 : Int32) h340 n0 O340 ) hZ (hw _ (List.mem_of_getElem? (i := 4) rfl)) (hw _ (List.mem_of_getElem? (i := 3) rfl)) (by decide) (by decide)) (g := (mkF m 56 #[.val (.long x0), .second, .val (.long x2), .second, .val (.int x4), .val (.ref b326), .unset, .unset, .unset, .unset, .unset, .unset, .unset, .unset] [(.int (2 : Int32)), (.long x2), (.int (5 : Int32)), (.ref b326)])) rfl (by rw [hml]; rfl) (argsL := [(.long x2), (.int (2 : Int32))]) (rest := [(.int (5 : Int32)), (.ref b326)]) (lenOf pd_20 rfl) rfl (by show 2 * 0 + _ ≤ _; exact Nat.le_of_eq rfl) (hb hby at_56) (fun _ _ => ⟨rfl, e340, (by decide : 1 + 0 ≤ _), (by decide : 6 + 0 ≤ _)⟩)
  dsimp only [Pt.U, Pt.locs, Pt.cells, Pt.slots] at X342 l342 y342 z342 st342 hQ342
  subst l342 y342 z342
  obtain ⟨r342, rfl, N342q, e342, b_r342⟩ := hQ342
  have N342 := Fr.app N340 N342q
  refine own_go st342 ?_
  show own_Goes _ _ _ _ _ _ _ (T342.setTop (mkF m 59 #[.val (.long x0), .second, .val (.long x2), .second, .val (.int x4), .val (.ref b326), .unset, .unset, .unset, .unset, .unset, .unset, .unset, .unset] [(.int r342), (.int (5 : Int32)), (.ref b326)]))
  obtain ⟨cl343, Ar343, q343, S343, M343, H343, U343⟩ := id f341
  obtain ⟨T343, h343, X343, e343, W343, st343⟩ := stC X342 hx hZ e342 Ar343 (j := (5 : Int32)) (inb_of S343 ⟨by decide, by decide⟩) (g := (mkF m 59 #[.val (.long x0), .second, .val (.long x2), .second, .val (.int x4), .val (.ref b326), .unset, .unset, .unset, .unset, .unset, .unset, .unset, .unset] [(.int r342), (.int (5 : Int32)), (.ref b326)])) rfl rfl (hb hby at_59)
  have nr343 : nar .char r342 = r342 := (own_n16 b_r342)
  rw [nr343] at W343
  have ft343 : fits .char (.int r342) = true := by have q := fits_nar_char r342; rw [nr343] at q; exact q
  have f344 : Arv Z h343 b326 k326 .char (6 : Int32) [(.int r327), (.int r330), (.int r333), (.int r336), (.int r339), (.int r342)] (.int (0 : Int32)) := (Arv.set Ar343 q343 S343 M343 H343 U343 ft343 W343 5 rfl (Nat.le_of_ble_eq_true rfl))
  have N343 := Fr.snoc X343 N342 g_b326
  have O343 := O340.wr W343 g_b326
  refine own_go st343 ?_
  show own_Goes _ _ _ _ _ _ _ (T343.setTop (mkF m 60 #[.val (.long x0), .second, .val (.long x2), .second, .val (.int x4), .val (.ref b326), .unset, .unset, .unset, .unset, .unset, .unset, .unset, .unset] []))
  obtain ⟨T345, h345, X345, e345, E345, A345, D345, -, st345⟩ := newO X343 hx hZ hown (hw _ (List.mem_of_getElem? (i := 8) rfl)) (hw _ (List.mem_of_getElem? (i := 9) rfl)) (hw _ (List.mem_of_getElem? (i := 10) rfl)) e343 (g := (mkF m 60 #[.val (.long x0), .second, .val (.long x2), .second, .val (.int x4), .val (.ref b326), .unset, .unset, .unset, .unset, .unset, .unset, .unset, .unset] [])) rfl (hb hby at_60) (by decide) (by decide)
  obtain ⟨b345, g345⟩ : ∃ z, z = h343.size := ⟨_, rfl⟩
  rw [← g345] at A345 D345 st345
  have ne_b326_b345 : b326 ≠ b345 := Nat.ne_of_lt (Nat.lt_of_lt_of_le f344.lt (Nat.le_of_eq g345.symm))
  have g_b345 : n0 ≤ b345 := Nat.le_trans (O343.1 ▸ O343.2.1) (Nat.le_of_eq g345.symm)
  have f346 : Arv Z h345 b326 k326 .char (6 : Int32) [(.int r327), (.int r330), (.int r333), (.int r336), (.int r339), (.int r342)] (.int (0 : Int32)) := (Arv.ext f344 E345)
  have O345 := O343.ext E345
  have f347 : Fld Z h345 b345 "java/lang/String" "coder" "B" (.int (0 : Int32)) := D345 (Or.inr (hw _ (List.mem_of_getElem? (i := 34) rfl))) (ty := .byte) (by decide)
  have f348 : Fld Z h345 b345 "java/lang/String" "value" "[B" .null := D345 (Or.inr (hw _ (List.mem_of_getElem? (i := 36) rfl))) (ty := (.array .byte)) (by decide)
  refine own_go st345 ?_
  show own_Goes _ _ _ _ _ _ _ (T345.setTop (mkF m 63 #[.val (.long x0), .second, .val (.long x2), .second, .val (.int x4), .val (.ref b326), .unset, .unset, .unset, .unset, .unset, .unset, .unset, .unset] [(.ref b345)]))
  refine own_go (fun _ ww => XS.dup X345.here hx rfl (hb hby at_63) rfl rfl ww) ?_
  show own_Goes _ _ _ _ _ _ _ (T345.setTop (mkF m 64 #[.val (.long x0), .second, .val (.long x2), .second, .val (.int x4), .val (.ref b326), .unset, .unset, .unset, .unset, .unset, .unset, .unset, .unset] [(.ref b345), (.ref b345)]))
  refine own_go (fun _ ww => XS.aload X345.here hx rfl (hb hby at_64) rfl rfl ww) ?_
  show own_Goes _ _ _ _ _ _ _ (T345.setTop (mkF m 66 #[.val (.long x0), .second, .val (.long x2), .second, .val (.int x4), .val (.ref b326), .unset, .unset, .unset, .unset, .unset, .unset, .unset, .unset] [(.ref b326), (.ref b345), (.ref b345)]))
  have hb6 : ∀ c ∈ ([r327, r330, r333, r336, r339, r342] : List Int32), ¬ c < 0 ∧ ¬ (65535 : Int32) < c := (own_allc b_r327 (own_allc b_r330 (own_allc b_r333 (own_allc b_r336 (own_allc b_r339 (own_allc b_r342 (fun _ q => nomatch q)))))))
  obtain ⟨_, _, ⟨T349, L349, k349, n349⟩, -, X349, ⟨Lc349, hQ349, l349, y349, z349⟩, st349⟩ := X345.specialBack hx (y := (⟨"java/lang/String", "<init>", "([C)V"⟩ : MethodName)) rfl hown (mvT hZ (hw _ (List.mem_of_getElem? (i := 11) rfl))) (mvT hZ (hw _ (List.mem_of_getElem? (i := 12) rfl))) (mvT hZ (hw _ (List.mem_of_getElem? (i := 13) rfl))) (by decide) (backOf (W := 1) (rm_in1 l Z a0 hw [] b345 b326 k326 r327 r330 r333 r336 r339 r342 zc h345 n0 O345 f348 f347 A345 g_b345 f346 ne_b326_b345 SC hzc hb6 SA SH SLo) hZ (hw _ (List.mem_of_getElem? (i := 13) rfl)) (hw _ (List.mem_of_getElem? (i := 10) rfl)) (by decide) (by decide)) (g := (mkF m 66 #[.val (.long x0), .second, .val (.long x2), .second, .val (.int x4), .val (.ref b326), .unset, .unset, .unset, .unset, .unset, .unset, .unset, .unset] [(.ref b326), (.ref b345), (.ref b345)])) rfl (by rw [hml]; rfl) (Steps.refl _) (a := b345) (argsL := [(.ref b326)]) (rest := [(.ref b345)]) (lenOf pd_21 rfl) rfl (by show 2 * 0 + _ ≤ _; exact Nat.le_of_eq rfl) (hb hby at_66) (fun _ _ => ⟨rfl, e345, (by decide : 2 + 2 ≤ _), (by decide : 10 + 18 ≤ _)⟩)
  dsimp only [Pt.U, Pt.locs, Pt.cells, Pt.slots] at X349 l349 y349 z349 st349 hQ349
  subst l349 y349 z349
  obtain ⟨t349, kt349, cd349, N2349, vs349, rfl, N349q, B349, K349q, C349q, V349q, A349q, hcd349⟩ := hQ349
  have N349 := Fr.app N343 N349q
  have ne_b326_t349 : b326 ≠ t349 := Nat.ne_of_lt (Nat.lt_of_lt_of_le f346.lt B349)
  have ne_b345_t349 : b345 ≠ t349 := Nat.ne_of_lt (Nat.lt_of_lt_of_le f347.lt B349)
  have g_t349 : n0 ≤ t349 := Nat.le_trans (O345.1 ▸ O345.2.1) B349
  have f350 : Arv Z T349.heap b326 k326 .char (6 : Int32) [(.int r327), (.int r330), (.int r333), (.int r336), (.int r339), (.int r342)] (.int (0 : Int32)) := (f346.keep K349q (ninS ne_b326_b345 nin0))
  have f351 : Exa Z T349.heap b345 "java/lang/String" := (A345.keep K349q)
  have O349 := O345.keep K349q (allS g_b345 all0)
  refine own_go (fun _ ww => Steps.trans st349 ww) ?_
  show own_Goes _ _ _ _ _ _ _ (T349.setTop (mkF m 69 #[.val (.long x0), .second, .val (.long x2), .second, .val (.int x4), .val (.ref b326), .unset, .unset, .unset, .unset, .unset, .unset, .unset, .unset] [(.ref b345)]))
  refine own_go (fun _ ww => XS.astore X349.here hx rfl (hb hby at_69) rfl rfl (l' := #[.val (.long x0), .second, .val (.long x2), .second, .val (.int x4), .val (.ref b326), .val (.ref b345), .unset, .unset, .unset, .unset, .unset, .unset, .unset]) rfl ww) ?_
  show own_Goes _ _ _ _ _ _ _ (T349.setTop (mkF m 71 #[.val (.long x0), .second, .val (.long x2), .second, .val (.int x4), .val (.ref b326), .val (.ref b345), .unset, .unset, .unset, .unset, .unset, .unset, .unset] []))
  refine own_go (fun _ ww => XS.iload X349.here hx rfl (hb hby at_71) rfl  ww) ?_
  show own_Goes _ _ _ _ _ _ _ (T349.setTop (mkF m 73 #[.val (.long x0), .second, .val (.long x2), .second, .val (.int x4), .val (.ref b326), .val (.ref b345), .unset, .unset, .unset, .unset, .unset, .unset, .unset] [(.int x4)]))
  refine own_go (fun _ ww => XS.bipush X349.here hx rfl (hb hby at_73) ww) ?_
  show own_Goes _ _ _ _ _ _ _ (T349.setTop (mkF m 75 #[.val (.long x0), .second, .val (.long x2), .second, .val (.int x4), .val (.ref b326), .val (.ref b345), .unset, .unset, .unset, .unset, .unset, .unset, .unset] [(.int (7 : Int32)), (.int x4)]))
  refine own_go (fun _ ww => XS.iand X349.here hx rfl (hb hby at_75) rfl ww) ?_
  show own_Goes _ _ _ _ _ _ _ (T349.setTop (mkF m 76 #[.val (.long x0), .second, .val (.long x2), .second, .val (.int x4), .val (.ref b326), .val (.ref b345), .unset, .unset, .unset, .unset, .unset, .unset, .unset] [(.int (x4 &&& (7 : Int32)))]))
  refine own_go (fun _ ww => XS.bipush X349.here hx rfl (hb hby at_76) ww) ?_
  show own_Goes _ _ _ _ _ _ _ (T349.setTop (mkF m 78 #[.val (.long x0), .second, .val (.long x2), .second, .val (.int x4), .val (.ref b326), .val (.ref b345), .unset, .unset, .unset, .unset, .unset, .unset, .unset] [(.int (7 : Int32)), (.int (x4 &&& (7 : Int32)))]))
  refine own_go (fun _ ww => iremM X349 hx rfl (hb hby at_78) rfl (by decide) ww) ?_
  show own_Goes _ _ _ _ _ _ _ (T349.setTop (mkF m 79 #[.val (.long x0), .second, .val (.long x2), .second, .val (.int x4), .val (.ref b326), .val (.ref b345), .unset, .unset, .unset, .unset, .unset, .unset, .unset] [(.int ((x4 &&& (7 : Int32)) % (7 : Int32)))]))
  obtain ⟨nf, hnf, e7⟩ := own_rem (x := (x4 &&& (7 : Int32))) (k := 7) (own_nn7 x4) (by decide) (by decide)
  have e7 : ((x4 &&& (7 : Int32)) % (7 : Int32)) = Int32.ofNat nf := e7
  rw [e7]
  show own_Goes _ _ _ _ _ _ _ (T349.setTop (mkF m 79 #[.val (.long x0), .second, .val (.long x2), .second, .val (.int x4), .val (.ref b326), .val (.ref b345), .unset, .unset, .unset, .unset, .unset, .unset, .unset] [(.int (Int32.ofNat nf))]))
  refine own_go (fun _ ww => XS.istore X349.here hx rfl (hb hby at_79) rfl (l' := #[.val (.long x0), .second, .val (.long x2), .second, .val (.int x4), .val (.ref b326), .val (.ref b345), .val (.int (Int32.ofNat nf)), .unset, .unset, .unset, .unset, .unset, .unset]) rfl ww) ?_
  show own_Goes _ _ _ _ _ _ _ (T349.setTop (mkF m 81 #[.val (.long x0), .second, .val (.long x2), .second, .val (.int x4), .val (.ref b326), .val (.ref b345), .val (.int (Int32.ofNat nf)), .unset, .unset, .unset, .unset, .unset, .unset] []))
  refine own_go (fun _ ww => XS.iload X349.here hx rfl (hb hby at_81) rfl  ww) ?_
  show own_Goes _ _ _ _ _ _ _ (T349.setTop (mkF m 83 #[.val (.long x0), .second, .val (.long x2), .second, .val (.int x4), .val (.ref b326), .val (.ref b345), .val (.int (Int32.ofNat nf)), .unset, .unset, .unset, .unset, .unset, .unset] [(.int (Int32.ofNat nf))]))
  refine own_go (fun _ ww => XS.iload X349.here hx rfl (hb hby at_83) rfl  ww) ?_
  show own_Goes _ _ _ _ _ _ _ (T349.setTop (mkF m 85 #[.val (.long x0), .second, .val (.long x2), .second, .val (.int x4), .val (.ref b326), .val (.ref b345), .val (.int (Int32.ofNat nf)), .unset, .unset, .unset, .unset, .unset, .unset] [(.int x4), (.int (Int32.ofNat nf))]))
  refine own_go (fun _ ww => XS.iconst X349.here hx rfl (hb hby at_85) ww) ?_
  show own_Goes _ _ _ _ _ _ _ (T349.setTop (mkF m 86 #[.val (.long x0), .second, .val (.long x2), .second, .val (.int x4), .val (.ref b326), .val (.ref b345), .val (.int (Int32.ofNat nf)), .unset, .unset, .unset, .unset, .unset, .unset] [(.int (3 : Int32)), (.int x4), (.int (Int32.ofNat nf))]))
  refine own_go (fun _ ww => XT.iushr X349.here hx rfl (hb hby at_86) rfl ww) ?_
  show own_Goes _ _ _ _ _ _ _ (T349.setTop (mkF m 87 #[.val (.long x0), .second, .val (.long x2), .second, .val (.int x4), .val (.ref b326), .val (.ref b345), .val (.int (Int32.ofNat nf)), .unset, .unset, .unset, .unset, .unset, .unset] [(.int (XT.ushr x4 (3 : Int32))), (.int (Int32.ofNat nf))]))
  refine own_go (fun _ ww => XS.bipush X349.here hx rfl (hb hby at_87) ww) ?_
  show own_Goes _ _ _ _ _ _ _ (T349.setTop (mkF m 89 #[.val (.long x0), .second, .val (.long x2), .second, .val (.int x4), .val (.ref b326), .val (.ref b345), .val (.int (Int32.ofNat nf)), .unset, .unset, .unset, .unset, .unset, .unset] [(.int (7 : Int32)), (.int (XT.ushr x4 (3 : Int32))), (.int (Int32.ofNat nf))]))
  refine own_go (fun _ ww => XS.iand X349.here hx rfl (hb hby at_89) rfl ww) ?_
  show own_Goes _ _ _ _ _ _ _ (T349.setTop (mkF m 90 #[.val (.long x0), .second, .val (.long x2), .second, .val (.int x4), .val (.ref b326), .val (.ref b345), .val (.int (Int32.ofNat nf)), .unset, .unset, .unset, .unset, .unset, .unset] [(.int ((XT.ushr x4 (3 : Int32)) &&& (7 : Int32))), (.int (Int32.ofNat nf))]))
  refine own_go (fun _ ww => XS.bipush X349.here hx rfl (hb hby at_90) ww) ?_
  show own_Goes _ _ _ _ _ _ _ (T349.setTop (mkF m 92 #[.val (.long x0), .second, .val (.long x2), .second, .val (.int x4), .val (.ref b326), .val (.ref b345), .val (.int (Int32.ofNat nf)), .unset, .unset, .unset, .unset, .unset, .unset] [(.int (7 : Int32)), (.int ((XT.ushr x4 (3 : Int32)) &&& (7 : Int32))), (.int (Int32.ofNat nf))]))
  refine own_go (fun _ ww => XS.iload X349.here hx rfl (hb hby at_92) rfl  ww) ?_
  show own_Goes _ _ _ _ _ _ _ (T349.setTop (mkF m 94 #[.val (.long x0), .second, .val (.long x2), .second, .val (.int x4), .val (.ref b326), .val (.ref b345), .val (.int (Int32.ofNat nf)), .unset, .unset, .unset, .unset, .unset, .unset] [(.int (Int32.ofNat nf)), (.int (7 : Int32)), (.int ((XT.ushr x4 (3 : Int32)) &&& (7 : Int32))), (.int (Int32.ofNat nf))]))
  refine own_go (fun _ ww => XS.isub X349.here hx rfl (hb hby at_94) rfl ww) ?_
  show own_Goes _ _ _ _ _ _ _ (T349.setTop (mkF m 95 #[.val (.long x0), .second, .val (.long x2), .second, .val (.int x4), .val (.ref b326), .val (.ref b345), .val (.int (Int32.ofNat nf)), .unset, .unset, .unset, .unset, .unset, .unset] [(.int ((7 : Int32) - (Int32.ofNat nf))), (.int ((XT.ushr x4 (3 : Int32)) &&& (7 : Int32))), (.int (Int32.ofNat nf))]))
  rw [show (7 : Int32) - Int32.ofNat nf = Int32.ofNat (7 - nf) from own_subN (a := 7) (b := nf) (by omega)]
  show own_Goes _ _ _ _ _ _ _ (T349.setTop (mkF m 95 #[.val (.long x0), .second, .val (.long x2), .second, .val (.int x4), .val (.ref b326), .val (.ref b345), .val (.int (Int32.ofNat nf)), .unset, .unset, .unset, .unset, .unset, .unset] [(.int (Int32.ofNat (7 - nf))), (.int ((XT.ushr x4 (3 : Int32)) &&& (7 : Int32))), (.int (Int32.ofNat nf))]))
  refine own_go (fun _ ww => iremM X349 hx rfl (hb hby at_95) rfl (own_nzN (by omega) (by omega)) ww) ?_
  show own_Goes _ _ _ _ _ _ _ (T349.setTop (mkF m 96 #[.val (.long x0), .second, .val (.long x2), .second, .val (.int x4), .val (.ref b326), .val (.ref b345), .val (.int (Int32.ofNat nf)), .unset, .unset, .unset, .unset, .unset, .unset] [(.int (((XT.ushr x4 (3 : Int32)) &&& (7 : Int32)) % (Int32.ofNat (7 - nf)))), (.int (Int32.ofNat nf))]))
  obtain ⟨nd, hnd, e8⟩ := own_rem (x := ((XT.ushr x4 (3 : Int32)) &&& (7 : Int32))) (k := 7 - nf) (own_nn7 _) (by omega) (by omega)
  rw [e8]
  show own_Goes _ _ _ _ _ _ _ (T349.setTop (mkF m 96 #[.val (.long x0), .second, .val (.long x2), .second, .val (.int x4), .val (.ref b326), .val (.ref b345), .val (.int (Int32.ofNat nf)), .unset, .unset, .unset, .unset, .unset, .unset] [(.int (Int32.ofNat nd)), (.int (Int32.ofNat nf))]))
  refine own_go (fun _ ww => XS.iadd X349.here hx rfl (hb hby at_96) rfl ww) ?_
  show own_Goes _ _ _ _ _ _ _ (T349.setTop (mkF m 97 #[.val (.long x0), .second, .val (.long x2), .second, .val (.int x4), .val (.ref b326), .val (.ref b345), .val (.int (Int32.ofNat nf)), .unset, .unset, .unset, .unset, .unset, .unset] [(.int ((Int32.ofNat nf) + (Int32.ofNat nd)))]))
  rw [own_addN]
  show own_Goes _ _ _ _ _ _ _ (T349.setTop (mkF m 97 #[.val (.long x0), .second, .val (.long x2), .second, .val (.int x4), .val (.ref b326), .val (.ref b345), .val (.int (Int32.ofNat nf)), .unset, .unset, .unset, .unset, .unset, .unset] [(.int (Int32.ofNat (nf + nd)))]))
  refine own_go (fun _ ww => XS.istore X349.here hx rfl (hb hby at_97) rfl (l' := #[.val (.long x0), .second, .val (.long x2), .second, .val (.int x4), .val (.ref b326), .val (.ref b345), .val (.int (Int32.ofNat nf)), .val (.int (Int32.ofNat (nf + nd))), .unset, .unset, .unset, .unset, .unset]) rfl ww) ?_
  show own_Goes _ _ _ _ _ _ _ (T349.setTop (mkF m 99 #[.val (.long x0), .second, .val (.long x2), .second, .val (.int x4), .val (.ref b326), .val (.ref b345), .val (.int (Int32.ofNat nf)), .val (.int (Int32.ofNat (nf + nd))), .unset, .unset, .unset, .unset, .unset] []))
  refine own_go (fun _ ww => XS.iload X349.here hx rfl (hb hby at_99) rfl  ww) ?_
  show own_Goes _ _ _ _ _ _ _ (T349.setTop (mkF m 101 #[.val (.long x0), .second, .val (.long x2), .second, .val (.int x4), .val (.ref b326), .val (.ref b345), .val (.int (Int32.ofNat nf)), .val (.int (Int32.ofNat (nf + nd))), .unset, .unset, .unset, .unset, .unset] [(.int (Int32.ofNat (nf + nd)))]))
  refine own_go (fun _ ww => XS.iload X349.here hx rfl (hb hby at_101) rfl  ww) ?_
  show own_Goes _ _ _ _ _ _ _ (T349.setTop (mkF m 103 #[.val (.long x0), .second, .val (.long x2), .second, .val (.int x4), .val (.ref b326), .val (.ref b345), .val (.int (Int32.ofNat nf)), .val (.int (Int32.ofNat (nf + nd))), .unset, .unset, .unset, .unset, .unset] [(.int (Int32.ofNat nf)), (.int (Int32.ofNat (nf + nd)))]))
  refine own_go (fun _ ww => XS.isub X349.here hx rfl (hb hby at_103) rfl ww) ?_
  show own_Goes _ _ _ _ _ _ _ (T349.setTop (mkF m 104 #[.val (.long x0), .second, .val (.long x2), .second, .val (.int x4), .val (.ref b326), .val (.ref b345), .val (.int (Int32.ofNat nf)), .val (.int (Int32.ofNat (nf + nd))), .unset, .unset, .unset, .unset, .unset] [(.int ((Int32.ofNat (nf + nd)) - (Int32.ofNat nf)))]))
  rw [own_subN (a := nf + nd) (b := nf) (by omega), Nat.add_sub_cancel_left]
  show own_Goes _ _ _ _ _ _ _ (T349.setTop (mkF m 104 #[.val (.long x0), .second, .val (.long x2), .second, .val (.int x4), .val (.ref b326), .val (.ref b345), .val (.int (Int32.ofNat nf)), .val (.int (Int32.ofNat (nf + nd))), .unset, .unset, .unset, .unset, .unset] [(.int (Int32.ofNat nd))]))
  refine own_go (fun _ ww => XS.istore X349.here hx rfl (hb hby at_104) rfl (l' := #[.val (.long x0), .second, .val (.long x2), .second, .val (.int x4), .val (.ref b326), .val (.ref b345), .val (.int (Int32.ofNat nf)), .val (.int (Int32.ofNat (nf + nd))), .val (.int (Int32.ofNat nd)), .unset, .unset, .unset, .unset]) rfl ww) ?_
  show own_Goes _ _ _ _ _ _ _ (T349.setTop (mkF m 106 #[.val (.long x0), .second, .val (.long x2), .second, .val (.int x4), .val (.ref b326), .val (.ref b345), .val (.int (Int32.ofNat nf)), .val (.int (Int32.ofNat (nf + nd))), .val (.int (Int32.ofNat nd)), .unset, .unset, .unset, .unset] []))
  refine own_go (fun _ ww => XS.iload X349.here hx rfl (hb hby at_106) rfl  ww) ?_
  show own_Goes _ _ _ _ _ _ _ (T349.setTop (mkF m 108 #[.val (.long x0), .second, .val (.long x2), .second, .val (.int x4), .val (.ref b326), .val (.ref b345), .val (.int (Int32.ofNat nf)), .val (.int (Int32.ofNat (nf + nd))), .val (.int (Int32.ofNat nd)), .unset, .unset, .unset, .unset] [(.int x4)]))
  refine own_go (fun _ ww => XS.bipush X349.here hx rfl (hb hby at_108) ww) ?_
  show own_Goes _ _ _ _ _ _ _ (T349.setTop (mkF m 110 #[.val (.long x0), .second, .val (.long x2), .second, .val (.int x4), .val (.ref b326), .val (.ref b345), .val (.int (Int32.ofNat nf)), .val (.int (Int32.ofNat (nf + nd))), .val (.int (Int32.ofNat nd)), .unset, .unset, .unset, .unset] [(.int (6 : Int32)), (.int x4)]))
  refine own_go (fun _ ww => XT.iushr X349.here hx rfl (hb hby at_110) rfl ww) ?_
  show own_Goes _ _ _ _ _ _ _ (T349.setTop (mkF m 111 #[.val (.long x0), .second, .val (.long x2), .second, .val (.int x4), .val (.ref b326), .val (.ref b345), .val (.int (Int32.ofNat nf)), .val (.int (Int32.ofNat (nf + nd))), .val (.int (Int32.ofNat nd)), .unset, .unset, .unset, .unset] [(.int (XT.ushr x4 (6 : Int32)))]))
  refine own_go (fun _ ww => XS.bipush X349.here hx rfl (hb hby at_111) ww) ?_
  show own_Goes _ _ _ _ _ _ _ (T349.setTop (mkF m 113 #[.val (.long x0), .second, .val (.long x2), .second, .val (.int x4), .val (.ref b326), .val (.ref b345), .val (.int (Int32.ofNat nf)), .val (.int (Int32.ofNat (nf + nd))), .val (.int (Int32.ofNat nd)), .unset, .unset, .unset, .unset] [(.int (7 : Int32)), (.int (XT.ushr x4 (6 : Int32)))]))
  refine own_go (fun _ ww => XS.iand X349.here hx rfl (hb hby at_113) rfl ww) ?_
  show own_Goes _ _ _ _ _ _ _ (T349.setTop (mkF m 114 #[.val (.long x0), .second, .val (.long x2), .second, .val (.int x4), .val (.ref b326), .val (.ref b345), .val (.int (Int32.ofNat nf)), .val (.int (Int32.ofNat (nf + nd))), .val (.int (Int32.ofNat nd)), .unset, .unset, .unset, .unset] [(.int ((XT.ushr x4 (6 : Int32)) &&& (7 : Int32)))]))
  refine own_go (fun _ ww => XS.iload X349.here hx rfl (hb hby at_114) rfl  ww) ?_
  show own_Goes _ _ _ _ _ _ _ (T349.setTop (mkF m 116 #[.val (.long x0), .second, .val (.long x2), .second, .val (.int x4), .val (.ref b326), .val (.ref b345), .val (.int (Int32.ofNat nf)), .val (.int (Int32.ofNat (nf + nd))), .val (.int (Int32.ofNat nd)), .unset, .unset, .unset, .unset] [(.int (Int32.ofNat nd)), (.int ((XT.ushr x4 (6 : Int32)) &&& (7 : Int32)))]))
  refine own_go (fun _ ww => XS.iconst X349.here hx rfl (hb hby at_116) ww) ?_
  show own_Goes _ _ _ _ _ _ _ (T349.setTop (mkF m 117 #[.val (.long x0), .second, .val (.long x2), .second, .val (.int x4), .val (.ref b326), .val (.ref b345), .val (.int (Int32.ofNat nf)), .val (.int (Int32.ofNat (nf + nd))), .val (.int (Int32.ofNat nd)), .unset, .unset, .unset, .unset] [(.int (1 : Int32)), (.int (Int32.ofNat nd)), (.int ((XT.ushr x4 (6 : Int32)) &&& (7 : Int32)))]))
  refine own_go (fun _ ww => XS.iadd X349.here hx rfl (hb hby at_117) rfl ww) ?_
  show own_Goes _ _ _ _ _ _ _ (T349.setTop (mkF m 118 #[.val (.long x0), .second, .val (.long x2), .second, .val (.int x4), .val (.ref b326), .val (.ref b345), .val (.int (Int32.ofNat nf)), .val (.int (Int32.ofNat (nf + nd))), .val (.int (Int32.ofNat nd)), .unset, .unset, .unset, .unset] [(.int ((Int32.ofNat nd) + (1 : Int32))), (.int ((XT.ushr x4 (6 : Int32)) &&& (7 : Int32)))]))
  rw [show Int32.ofNat nd + (1 : Int32) = Int32.ofNat (nd + 1) from own_addN nd 1]
  show own_Goes _ _ _ _ _ _ _ (T349.setTop (mkF m 118 #[.val (.long x0), .second, .val (.long x2), .second, .val (.int x4), .val (.ref b326), .val (.ref b345), .val (.int (Int32.ofNat nf)), .val (.int (Int32.ofNat (nf + nd))), .val (.int (Int32.ofNat nd)), .unset, .unset, .unset, .unset] [(.int (Int32.ofNat (nd + 1))), (.int ((XT.ushr x4 (6 : Int32)) &&& (7 : Int32)))]))
  refine own_go (fun _ ww => iremM X349 hx rfl (hb hby at_118) rfl (own_nzN (by omega) (by omega)) ww) ?_
  show own_Goes _ _ _ _ _ _ _ (T349.setTop (mkF m 119 #[.val (.long x0), .second, .val (.long x2), .second, .val (.int x4), .val (.ref b326), .val (.ref b345), .val (.int (Int32.ofNat nf)), .val (.int (Int32.ofNat (nf + nd))), .val (.int (Int32.ofNat nd)), .unset, .unset, .unset, .unset] [(.int (((XT.ushr x4 (6 : Int32)) &&& (7 : Int32)) % (Int32.ofNat (nd + 1))))]))
  obtain ⟨nk, hnk, e9⟩ := own_rem (x := ((XT.ushr x4 (6 : Int32)) &&& (7 : Int32))) (k := nd + 1) (own_nn7 _) (by omega) (by omega)
  rw [e9]
  show own_Goes _ _ _ _ _ _ _ (T349.setTop (mkF m 119 #[.val (.long x0), .second, .val (.long x2), .second, .val (.int x4), .val (.ref b326), .val (.ref b345), .val (.int (Int32.ofNat nf)), .val (.int (Int32.ofNat (nf + nd))), .val (.int (Int32.ofNat nd)), .unset, .unset, .unset, .unset] [(.int (Int32.ofNat nk))]))
  refine own_go (fun _ ww => XS.istore X349.here hx rfl (hb hby at_119) rfl (l' := #[.val (.long x0), .second, .val (.long x2), .second, .val (.int x4), .val (.ref b326), .val (.ref b345), .val (.int (Int32.ofNat nf)), .val (.int (Int32.ofNat (nf + nd))), .val (.int (Int32.ofNat nd)), .val (.int (Int32.ofNat nk)), .unset, .unset, .unset]) rfl ww) ?_
  show own_Goes _ _ _ _ _ _ _ (T349.setTop (mkF m 121 #[.val (.long x0), .second, .val (.long x2), .second, .val (.int x4), .val (.ref b326), .val (.ref b345), .val (.int (Int32.ofNat nf)), .val (.int (Int32.ofNat (nf + nd))), .val (.int (Int32.ofNat nd)), .val (.int (Int32.ofNat nk)), .unset, .unset, .unset] []))
  obtain ⟨T352, h352, X352, e352, E352, A352, D352, -, st352⟩ := newO X349 hx hZ hown (hw _ (List.mem_of_getElem? (i := 37) rfl)) (hw _ (List.mem_of_getElem? (i := 38) rfl)) (hw _ (List.mem_of_getElem? (i := 39) rfl)) rfl (g := (mkF m 121 #[.val (.long x0), .second, .val (.long x2), .second, .val (.int x4), .val (.ref b326), .val (.ref b345), .val (.int (Int32.ofNat nf)), .val (.int (Int32.ofNat (nf + nd))), .val (.int (Int32.ofNat nd)), .val (.int (Int32.ofNat nk)), .unset, .unset, .unset] [])) rfl (hb hby at_121) (by decide) (by decide)
  obtain ⟨b352, g352⟩ : ∃ z, z = T349.heap.size := ⟨_, rfl⟩
  rw [← g352] at A352 D352 st352
  have ne_b326_b352 : b326 ≠ b352 := Nat.ne_of_lt (Nat.lt_of_lt_of_le f350.lt (Nat.le_of_eq g352.symm))
  have ne_b345_b352 : b345 ≠ b352 := Nat.ne_of_lt (Nat.lt_of_lt_of_le f351.lt (Nat.le_of_eq g352.symm))
  have ne_t349_b352 : t349 ≠ b352 := Nat.ne_of_lt (Nat.lt_of_lt_of_le A349q.lt (Nat.le_of_eq g352.symm))
  have g_b352 : n0 ≤ b352 := Nat.le_trans (O349.1 ▸ O349.2.1) (Nat.le_of_eq g352.symm)
  have f353 : Arv Z h352 b326 k326 .char (6 : Int32) [(.int r327), (.int r330), (.int r333), (.int r336), (.int r339), (.int r342)] (.int (0 : Int32)) := (Arv.ext f350 E352)
  have f354 : Exa Z h352 b345 "java/lang/String" := (f351.ext E352)
  have f355 : Fld Z h352 b345 "java/lang/String" "coder" "B" (.int cd349) := (C349q.ext E352)
  have f356 : Fld Z h352 b345 "java/lang/String" "value" "[B" (.ref t349) := (V349q.ext E352)
  have f357 : Arv Z h352 t349 kt349 .byte N2349 vs349 (.int (0 : Int32)) := (Arv.ext A349q E352)
  have O352 := O349.ext E352
  have f358 : Fld Z h352 b352 "org/graticule/read/Span" "text" "Ljava/lang/String;" .null := D352 (Or.inr (hw _ (List.mem_of_getElem? (i := 68) rfl))) (ty := (.object "java/lang/String")) (by decide)
  have f359 : Fld Z h352 b352 "org/graticule/read/Span" "from" "I" (.int (0 : Int32)) := D352 (Or.inr (hw _ (List.mem_of_getElem? (i := 70) rfl))) (ty := .int) (by decide)
  have f360 : Fld Z h352 b352 "org/graticule/read/Span" "to" "I" (.int (0 : Int32)) := D352 (Or.inr (hw _ (List.mem_of_getElem? (i := 72) rfl))) (ty := .int) (by decide)
  refine own_go st352 ?_
  show own_Goes _ _ _ _ _ _ _ (T352.setTop (mkF m 124 #[.val (.long x0), .second, .val (.long x2), .second, .val (.int x4), .val (.ref b326), .val (.ref b345), .val (.int (Int32.ofNat nf)), .val (.int (Int32.ofNat (nf + nd))), .val (.int (Int32.ofNat nd)), .val (.int (Int32.ofNat nk)), .unset, .unset, .unset] [(.ref b352)]))
  refine own_go (fun _ ww => XS.dup X352.here hx rfl (hb hby at_124) rfl rfl ww) ?_
  show own_Goes _ _ _ _ _ _ _ (T352.setTop (mkF m 125 #[.val (.long x0), .second, .val (.long x2), .second, .val (.int x4), .val (.ref b326), .val (.ref b345), .val (.int (Int32.ofNat nf)), .val (.int (Int32.ofNat (nf + nd))), .val (.int (Int32.ofNat nd)), .val (.int (Int32.ofNat nk)), .unset, .unset, .unset] [(.ref b352), (.ref b352)]))
  refine own_go (fun _ ww => XS.aload X352.here hx rfl (hb hby at_125) rfl rfl ww) ?_
  show own_Goes _ _ _ _ _ _ _ (T352.setTop (mkF m 127 #[.val (.long x0), .second, .val (.long x2), .second, .val (.int x4), .val (.ref b326), .val (.ref b345), .val (.int (Int32.ofNat nf)), .val (.int (Int32.ofNat (nf + nd))), .val (.int (Int32.ofNat nd)), .val (.int (Int32.ofNat nk)), .unset, .unset, .unset] [(.ref b345), (.ref b352), (.ref b352)]))
  refine own_go (fun _ ww => XS.iload X352.here hx rfl (hb hby at_127) rfl  ww) ?_
  show own_Goes _ _ _ _ _ _ _ (T352.setTop (mkF m 129 #[.val (.long x0), .second, .val (.long x2), .second, .val (.int x4), .val (.ref b326), .val (.ref b345), .val (.int (Int32.ofNat nf)), .val (.int (Int32.ofNat (nf + nd))), .val (.int (Int32.ofNat nd)), .val (.int (Int32.ofNat nk)), .unset, .unset, .unset] [(.int (Int32.ofNat nf)), (.ref b345), (.ref b352), (.ref b352)]))
  refine own_go (fun _ ww => XS.iload X352.here hx rfl (hb hby at_129) rfl  ww) ?_
  show own_Goes _ _ _ _ _ _ _ (T352.setTop (mkF m 131 #[.val (.long x0), .second, .val (.long x2), .second, .val (.int x4), .val (.ref b326), .val (.ref b345), .val (.int (Int32.ofNat nf)), .val (.int (Int32.ofNat (nf + nd))), .val (.int (Int32.ofNat nd)), .val (.int (Int32.ofNat nk)), .unset, .unset, .unset] [(.int (Int32.ofNat (nf + nd))), (.int (Int32.ofNat nf)), (.ref b345), (.ref b352), (.ref b352)]))
  obtain ⟨_, _, ⟨T361, L361, k361, n361⟩, -, X361, ⟨Lc361, hQ361, l361, y361, z361⟩, st361⟩ := X352.specialBack hx (y := (⟨"org/graticule/read/Span", "<init>", "(Ljava/lang/String;II)V"⟩ : MethodName)) rfl hown (mvT hZ (hw _ (List.mem_of_getElem? (i := 40) rfl))) (mvT hZ (hw _ (List.mem_of_getElem? (i := 41) rfl))) (mvT hZ (hw _ (List.mem_of_getElem? (i := 42) rfl))) (by decide) (backOf (W := 1) (rm_spi l Z a0 hw [] b352 b345 t349 kt349 cd349 N2349 vs349 ([r327, r330, r333, r336, r339, r342] : List Int32) zc (Int32.ofNat nf) (Int32.ofNat (nf + nd)) h352 n0 O352 f354 f355 f356 f357 hcd349 rfl hb6 SC hzc (own_nnN (by omega)) (fun q => absurd ((own_ltN (a := nf + nd) (b := nf) (by omega) (by omega)).mp q) (by omega)) (fun q => absurd ((own_ltN (a := 6) (b := nf + nd) (by omega) (by omega)).mp q) (by omega)) f358 f359 f360 A352 g_b352 ne_b345_b352 ne_t349_b352) hZ (hw _ (List.mem_of_getElem? (i := 42) rfl)) (hw _ (List.mem_of_getElem? (i := 39) rfl)) (by decide) (by decide)) (g := (mkF m 131 #[.val (.long x0), .second, .val (.long x2), .second, .val (.int x4), .val (.ref b326), .val (.ref b345), .val (.int (Int32.ofNat nf)), .val (.int (Int32.ofNat (nf + nd))), .val (.int (Int32.ofNat nd)), .val (.int (Int32.ofNat nk)), .unset, .unset, .unset] [(.int (Int32.ofNat (nf + nd))), (.int (Int32.ofNat nf)), (.ref b345), (.ref b352), (.ref b352)])) rfl (by rw [hml]; rfl) (Steps.refl _) (a := b352) (argsL := [(.ref b345), (.int (Int32.ofNat nf)), (.int (Int32.ofNat (nf + nd)))]) (rest := [(.ref b352)]) (lenOf pd_22 rfl) rfl (by show 2 * 0 + _ ≤ _; exact Nat.le_of_eq rfl) (hb hby at_131) (fun _ _ => ⟨rfl, e352, (by decide : 5 + 0 ≤ _), (by decide : 31 + 0 ≤ _)⟩)
  dsimp only [Pt.U, Pt.locs, Pt.cells, Pt.slots] at X361 l361 y361 z361 st361 hQ361
  subst l361 y361 z361
  obtain ⟨rfl, N361q, K361q, P361, Q361, R361⟩ := hQ361
  have N361 := Fr.app N349 N361q
  have f362 : Arv Z T361.heap b326 k326 .char (6 : Int32) [(.int r327), (.int r330), (.int r333), (.int r336), (.int r339), (.int r342)] (.int (0 : Int32)) := (f353.keep K361q (ninS ne_b326_b352 nin0))
  have f363 : Exa Z T361.heap b345 "java/lang/String" := (f354.keep K361q)
  have f364 : Fld Z T361.heap b345 "java/lang/String" "coder" "B" (.int cd349) := (f355.keep K361q (ninS ne_b345_b352 nin0))
  have f365 : Fld Z T361.heap b345 "java/lang/String" "value" "[B" (.ref t349) := (f356.keep K361q (ninS ne_b345_b352 nin0))
  have f366 : Arv Z T361.heap t349 kt349 .byte N2349 vs349 (.int (0 : Int32)) := (f357.keep K361q (ninS ne_t349_b352 nin0))
  have f367 : Exa Z T361.heap b352 "org/graticule/read/Span" := (A352.keep K361q)
  have O361 := O352.keep K361q (allS g_b352 all0)
  refine own_go (fun _ ww => Steps.trans st361 ww) ?_
  show own_Goes _ _ _ _ _ _ _ (T361.setTop (mkF m 134 #[.val (.long x0), .second, .val (.long x2), .second, .val (.int x4), .val (.ref b326), .val (.ref b345), .val (.int (Int32.ofNat nf)), .val (.int (Int32.ofNat (nf + nd))), .val (.int (Int32.ofNat nd)), .val (.int (Int32.ofNat nk)), .unset, .unset, .unset] [(.ref b352)]))
  refine own_go (fun _ ww => XS.astore X361.here hx rfl (hb hby at_134) rfl rfl (l' := #[.val (.long x0), .second, .val (.long x2), .second, .val (.int x4), .val (.ref b326), .val (.ref b345), .val (.int (Int32.ofNat nf)), .val (.int (Int32.ofNat (nf + nd))), .val (.int (Int32.ofNat nd)), .val (.int (Int32.ofNat nk)), .val (.ref b352), .unset, .unset]) rfl ww) ?_
  show own_Goes _ _ _ _ _ _ _ (T361.setTop (mkF m 136 #[.val (.long x0), .second, .val (.long x2), .second, .val (.int x4), .val (.ref b326), .val (.ref b345), .val (.int (Int32.ofNat nf)), .val (.int (Int32.ofNat (nf + nd))), .val (.int (Int32.ofNat nd)), .val (.int (Int32.ofNat nk)), .val (.ref b352), .unset, .unset] []))
  refine own_go (fun _ ww => XS.aload X361.here hx rfl (hb hby at_136) rfl rfl ww) ?_
  show own_Goes _ _ _ _ _ _ _ (T361.setTop (mkF m 138 #[.val (.long x0), .second, .val (.long x2), .second, .val (.int x4), .val (.ref b326), .val (.ref b345), .val (.int (Int32.ofNat nf)), .val (.int (Int32.ofNat (nf + nd))), .val (.int (Int32.ofNat nd)), .val (.int (Int32.ofNat nk)), .val (.ref b352), .unset, .unset] [(.ref b352)]))
  refine own_go (fun _ ww => XS.iload X361.here hx rfl (hb hby at_138) rfl  ww) ?_
  show own_Goes _ _ _ _ _ _ _ (T361.setTop (mkF m 140 #[.val (.long x0), .second, .val (.long x2), .second, .val (.int x4), .val (.ref b326), .val (.ref b345), .val (.int (Int32.ofNat nf)), .val (.int (Int32.ofNat (nf + nd))), .val (.int (Int32.ofNat nd)), .val (.int (Int32.ofNat nk)), .val (.ref b352), .unset, .unset] [(.int (Int32.ofNat nk)), (.ref b352)]))
  obtain ⟨cq368, kq368, q368a, q368b, q368c⟩ := isOf hZ rfl f367
  obtain ⟨_, _, ⟨T368, L368, k368, n368⟩, -, X368, ⟨Lc368, hQ368, l368, y368, z368⟩, st368⟩ := X361.virtualBack hx (y := (⟨"org/graticule/read/Span", "digitsEnd", "(I)I"⟩ : MethodName)) (z := (⟨"org/graticule/read/Span", "digitsEnd", "(I)I"⟩ : MethodName)) hown (mvT hZ (hw _ (List.mem_of_getElem? (i := 73) rfl))) (mvT hZ (hw _ (List.mem_of_getElem? (i := 74) rfl))) (notFace_of_selects (args := #[]) (mvT hZ (hw _ (List.mem_of_getElem? (i := 76) rfl)))) (mvT hZ (hw _ (List.mem_of_getElem? (i := 76) rfl))) (mvT hZ (hw _ (List.mem_of_getElem? (i := 75) rfl))) (by decide) (backOf (W := 0) (rm_dend l Z a0 hw [] b352 b345 t349 kt349 cd349 N2349 vs349 ([r327, r330, r333, r336, r339, r342] : List Int32) zc nf (nf + nd) nk fm T361.heap n0 O361 f363 f364 f365 f366 hcd349 rfl hb6 SC hzc SA SH SLo rfm SF P361 Q361 R361 (by omega) (by omega)) hZ (hw _ (List.mem_of_getElem? (i := 77) rfl)) (hw _ (List.mem_of_getElem? (i := 39) rfl)) (by decide) (by decide)) q368a q368c (g := (mkF m 140 #[.val (.long x0), .second, .val (.long x2), .second, .val (.int x4), .val (.ref b326), .val (.ref b345), .val (.int (Int32.ofNat nf)), .val (.int (Int32.ofNat (nf + nd))), .val (.int (Int32.ofNat nd)), .val (.int (Int32.ofNat nk)), .val (.ref b352), .unset, .unset] [(.int (Int32.ofNat nk)), (.ref b352)])) rfl (by rw [hml]; rfl) (Steps.refl _) (argsL := [(.int (Int32.ofNat nk))]) (rest := []) (lenOf pd_0 rfl) rfl (by show 2 * 0 + _ ≤ _; exact Nat.le_of_eq rfl) (hb hby at_140) (fun _ _ => ⟨rfl, rfl, (by decide : 5 + 0 ≤ _), (by decide : 31 + 0 ≤ _)⟩)
  dsimp only [Pt.U, Pt.locs, Pt.cells, Pt.slots] at X368 l368 y368 z368 st368 hQ368
  subst l368 y368 z368
  obtain ⟨nr, rfl, N368q, e368, hkr, hrt, hdd, hlast⟩ := hQ368
  have N368 := Fr.app N361 N368q
  refine own_go (fun _ ww => Steps.trans st368 ww) ?_
  show own_Goes _ _ _ _ _ _ _ (T368.setTop (mkF m 143 #[.val (.long x0), .second, .val (.long x2), .second, .val (.int x4), .val (.ref b326), .val (.ref b345), .val (.int (Int32.ofNat nf)), .val (.int (Int32.ofNat (nf + nd))), .val (.int (Int32.ofNat nd)), .val (.int (Int32.ofNat nk)), .val (.ref b352), .unset, .unset] [(.int (Int32.ofNat nr))]))
  refine own_go (fun _ ww => XS.istore X368.here hx rfl (hb hby at_143) rfl (l' := #[.val (.long x0), .second, .val (.long x2), .second, .val (.int x4), .val (.ref b326), .val (.ref b345), .val (.int (Int32.ofNat nf)), .val (.int (Int32.ofNat (nf + nd))), .val (.int (Int32.ofNat nd)), .val (.int (Int32.ofNat nk)), .val (.ref b352), .val (.int (Int32.ofNat nr)), .unset]) rfl ww) ?_
  show own_Goes _ _ _ _ _ _ _ (T368.setTop (mkF m 145 #[.val (.long x0), .second, .val (.long x2), .second, .val (.int x4), .val (.ref b326), .val (.ref b345), .val (.int (Int32.ofNat nf)), .val (.int (Int32.ofNat (nf + nd))), .val (.int (Int32.ofNat nd)), .val (.int (Int32.ofNat nk)), .val (.ref b352), .val (.int (Int32.ofNat nr)), .unset] []))
  refine own_go (fun _ ww => XS.iload X368.here hx rfl (hb hby at_145) rfl  ww) ?_
  show own_Goes _ _ _ _ _ _ _ (T368.setTop (mkF m 147 #[.val (.long x0), .second, .val (.long x2), .second, .val (.int x4), .val (.ref b326), .val (.ref b345), .val (.int (Int32.ofNat nf)), .val (.int (Int32.ofNat (nf + nd))), .val (.int (Int32.ofNat nd)), .val (.int (Int32.ofNat nk)), .val (.ref b352), .val (.int (Int32.ofNat nr)), .unset] [(.int (Int32.ofNat nr))]))
  refine own_go (fun _ ww => XS.iload X368.here hx rfl (hb hby at_147) rfl  ww) ?_
  show own_Goes _ _ _ _ _ _ _ (T368.setTop (mkF m 149 #[.val (.long x0), .second, .val (.long x2), .second, .val (.int x4), .val (.ref b326), .val (.ref b345), .val (.int (Int32.ofNat nf)), .val (.int (Int32.ofNat (nf + nd))), .val (.int (Int32.ofNat nd)), .val (.int (Int32.ofNat nk)), .val (.ref b352), .val (.int (Int32.ofNat nr)), .unset] [(.int (Int32.ofNat nk)), (.int (Int32.ofNat nr))]))
  refine own_go (fun _ ww => XS.icmpNo X368.here hx rfl (hb hby at_149) rfl (flt (fun q => absurd ((own_ltN (a := nr) (b := nk) (by omega) (by omega)).mp q) (by omega))).1 ww) ?_
  show own_Goes _ _ _ _ _ _ _ (T368.setTop (mkF m 152 #[.val (.long x0), .second, .val (.long x2), .second, .val (.int x4), .val (.ref b326), .val (.ref b345), .val (.int (Int32.ofNat nf)), .val (.int (Int32.ofNat (nf + nd))), .val (.int (Int32.ofNat nd)), .val (.int (Int32.ofNat nk)), .val (.ref b352), .val (.int (Int32.ofNat nr)), .unset] []))
  refine own_go (fun _ ww => XS.iload X368.here hx rfl (hb hby at_152) rfl  ww) ?_
  show own_Goes _ _ _ _ _ _ _ (T368.setTop (mkF m 154 #[.val (.long x0), .second, .val (.long x2), .second, .val (.int x4), .val (.ref b326), .val (.ref b345), .val (.int (Int32.ofNat nf)), .val (.int (Int32.ofNat (nf + nd))), .val (.int (Int32.ofNat nd)), .val (.int (Int32.ofNat nk)), .val (.ref b352), .val (.int (Int32.ofNat nr)), .unset] [(.int (Int32.ofNat nr))]))
  refine own_go (fun _ ww => XS.iload X368.here hx rfl (hb hby at_154) rfl  ww) ?_
  show own_Goes _ _ _ _ _ _ _ (T368.setTop (mkF m 156 #[.val (.long x0), .second, .val (.long x2), .second, .val (.int x4), .val (.ref b326), .val (.ref b345), .val (.int (Int32.ofNat nf)), .val (.int (Int32.ofNat (nf + nd))), .val (.int (Int32.ofNat nd)), .val (.int (Int32.ofNat nk)), .val (.ref b352), .val (.int (Int32.ofNat nr)), .unset] [(.int (Int32.ofNat nd)), (.int (Int32.ofNat nr))]))
  refine own_go (fun _ ww => XS.icmpYes X368.here hx rfl (pc0 := 156) (pc' := 161) rfl (hb hby at_156) rfl (flt (fun q => absurd ((own_ltN (a := nd) (b := nr) (by omega) (by omega)).mp q) (by omega))).2.2.2 (by decide) (by decide) ww) ?_
  show own_Goes _ _ _ _ _ _ _ (T368.setTop (mkF m 161 #[.val (.long x0), .second, .val (.long x2), .second, .val (.int x4), .val (.ref b326), .val (.ref b345), .val (.int (Int32.ofNat nf)), .val (.int (Int32.ofNat (nf + nd))), .val (.int (Int32.ofNat nd)), .val (.int (Int32.ofNat nk)), .val (.ref b352), .val (.int (Int32.ofNat nr)), .unset] []))
  refine own_go (fun _ ww => XS.iconst X368.here hx rfl (hb hby at_161) ww) ?_
  show own_Goes _ _ _ _ _ _ _ (T368.setTop (mkF m 162 #[.val (.long x0), .second, .val (.long x2), .second, .val (.int x4), .val (.ref b326), .val (.ref b345), .val (.int (Int32.ofNat nf)), .val (.int (Int32.ofNat (nf + nd))), .val (.int (Int32.ofNat nd)), .val (.int (Int32.ofNat nk)), .val (.ref b352), .val (.int (Int32.ofNat nr)), .unset] [(.int (0 : Int32))]))
  refine own_go (fun _ ww => XS.iload X368.here hx rfl (hb hby at_162) rfl  ww) ?_
  show own_Goes _ _ _ _ _ _ _ (T368.setTop (mkF m 164 #[.val (.long x0), .second, .val (.long x2), .second, .val (.int x4), .val (.ref b326), .val (.ref b345), .val (.int (Int32.ofNat nf)), .val (.int (Int32.ofNat (nf + nd))), .val (.int (Int32.ofNat nd)), .val (.int (Int32.ofNat nk)), .val (.ref b352), .val (.int (Int32.ofNat nr)), .unset] [(.int (Int32.ofNat nr)), (.int (0 : Int32))]))
  refine own_go (fun _ ww => XS.iload X368.here hx rfl (hb hby at_164) rfl  ww) ?_
  show own_Goes _ _ _ _ _ _ _ (T368.setTop (mkF m 166 #[.val (.long x0), .second, .val (.long x2), .second, .val (.int x4), .val (.ref b326), .val (.ref b345), .val (.int (Int32.ofNat nf)), .val (.int (Int32.ofNat (nf + nd))), .val (.int (Int32.ofNat nd)), .val (.int (Int32.ofNat nk)), .val (.ref b352), .val (.int (Int32.ofNat nr)), .unset] [(.int (Int32.ofNat nk)), (.int (Int32.ofNat nr)), (.int (0 : Int32))]))
  refine own_go (fun _ ww => XS.iload X368.here hx rfl (hb hby at_166) rfl  ww) ?_
  show own_Goes _ _ _ _ _ _ _ (T368.setTop (mkF m 168 #[.val (.long x0), .second, .val (.long x2), .second, .val (.int x4), .val (.ref b326), .val (.ref b345), .val (.int (Int32.ofNat nf)), .val (.int (Int32.ofNat (nf + nd))), .val (.int (Int32.ofNat nd)), .val (.int (Int32.ofNat nk)), .val (.ref b352), .val (.int (Int32.ofNat nr)), .unset] [(.int (Int32.ofNat nf)), (.int (Int32.ofNat nk)), (.int (Int32.ofNat nr)), (.int (0 : Int32))]))
  refine own_go (fun _ ww => XS.aload X368.here hx rfl (hb hby at_168) rfl rfl ww) ?_
  show own_Goes _ _ _ _ _ _ _ (T368.setTop (mkF m 170 #[.val (.long x0), .second, .val (.long x2), .second, .val (.int x4), .val (.ref b326), .val (.ref b345), .val (.int (Int32.ofNat nf)), .val (.int (Int32.ofNat (nf + nd))), .val (.int (Int32.ofNat nd)), .val (.int (Int32.ofNat nk)), .val (.ref b352), .val (.int (Int32.ofNat nr)), .unset] [(.ref b326), (.int (Int32.ofNat nf)), (.int (Int32.ofNat nk)), (.int (Int32.ofNat nr)), (.int (0 : Int32))]))
  obtain ⟨_, _, ⟨T369, L369, k369, n369⟩, -, X369, ⟨Lc369, hQ369, l369, y369, z369⟩, st369⟩ := Jvm.LawKit.callS X368 hx (y := (⟨"org/graticule/read/SpanDigitsEndPinLaw", "ok", "(IIII[C)Z"⟩ : MethodName)) hown (mvT hZ (hw _ (List.mem_of_getElem? (i := 78) rfl))) (mvT hZ (hw _ (List.mem_of_getElem? (i := 79) rfl))) (mvT hZ (hw _ (List.mem_of_getElem? (i := 3) rfl))) (mvT hZ (hw _ (List.mem_of_getElem? (i := 80) rfl))) (by decide) (backOf (W := 0) (rm_okc l Z a0 hw [] 0 nr nk nf b326 k326 r327 r330 r333 r336 r339 r342 T361.heap n0 O361 f362 hdd (by omega) (by omega) (by omega)) hZ (hw _ (List.mem_of_getElem? (i := 80) rfl)) (hw _ (List.mem_of_getElem? (i := 3) rfl)) (by decide) (by decide)) (g := (mkF m 170 #[.val (.long x0), .second, .val (.long x2), .second, .val (.int x4), .val (.ref b326), .val (.ref b345), .val (.int (Int32.ofNat nf)), .val (.int (Int32.ofNat (nf + nd))), .val (.int (Int32.ofNat nd)), .val (.int (Int32.ofNat nk)), .val (.ref b352), .val (.int (Int32.ofNat nr)), .unset] [(.ref b326), (.int (Int32.ofNat nf)), (.int (Int32.ofNat nk)), (.int (Int32.ofNat nr)), (.int (0 : Int32))])) rfl (by rw [hml]; rfl) (argsL := [(.int (0 : Int32)), (.int (Int32.ofNat nr)), (.int (Int32.ofNat nk)), (.int (Int32.ofNat nf)), (.ref b326)]) (rest := []) (lenOf pd_23 rfl) rfl (by show 2 * 0 + _ ≤ _; exact Nat.le_of_eq rfl) (hb hby at_170) (fun _ _ => ⟨rfl, e368, (by decide : 5 + 0 ≤ _), (by decide : 31 + 0 ≤ _)⟩)
  dsimp only [Pt.U, Pt.locs, Pt.cells, Pt.slots] at X369 l369 y369 z369 st369 hQ369
  subst l369 y369 z369
  obtain ⟨rfl, N369q, e369⟩ := hQ369
  have N369 := Fr.app N368 N369q
  refine own_go st369 ?_
  show own_Goes _ _ _ _ _ _ _ (T369.setTop (mkF m 173 #[.val (.long x0), .second, .val (.long x2), .second, .val (.int x4), .val (.ref b326), .val (.ref b345), .val (.int (Int32.ofNat nf)), .val (.int (Int32.ofNat (nf + nd))), .val (.int (Int32.ofNat nd)), .val (.int (Int32.ofNat nk)), .val (.ref b352), .val (.int (Int32.ofNat nr)), .unset] [(.int (1 : Int32))]))
  refine own_go (fun _ ww => XS.ifNo X369.here hx rfl (hb hby at_173) rfl (own_if .eq (feq (by decide : ¬ ((1 : Int32) = (0 : Int32)))).1) ww) ?_
  show own_Goes _ _ _ _ _ _ _ (T369.setTop (mkF m 176 #[.val (.long x0), .second, .val (.long x2), .second, .val (.int x4), .val (.ref b326), .val (.ref b345), .val (.int (Int32.ofNat nf)), .val (.int (Int32.ofNat (nf + nd))), .val (.int (Int32.ofNat nd)), .val (.int (Int32.ofNat nk)), .val (.ref b352), .val (.int (Int32.ofNat nr)), .unset] []))
  refine own_go (fun _ ww => XS.iconst X369.here hx rfl (hb hby at_176) ww) ?_
  show own_Goes _ _ _ _ _ _ _ (T369.setTop (mkF m 177 #[.val (.long x0), .second, .val (.long x2), .second, .val (.int x4), .val (.ref b326), .val (.ref b345), .val (.int (Int32.ofNat nf)), .val (.int (Int32.ofNat (nf + nd))), .val (.int (Int32.ofNat nd)), .val (.int (Int32.ofNat nk)), .val (.ref b352), .val (.int (Int32.ofNat nr)), .unset] [(.int (1 : Int32))]))
  refine own_go (fun _ ww => XS.iload X369.here hx rfl (hb hby at_177) rfl  ww) ?_
  show own_Goes _ _ _ _ _ _ _ (T369.setTop (mkF m 179 #[.val (.long x0), .second, .val (.long x2), .second, .val (.int x4), .val (.ref b326), .val (.ref b345), .val (.int (Int32.ofNat nf)), .val (.int (Int32.ofNat (nf + nd))), .val (.int (Int32.ofNat nd)), .val (.int (Int32.ofNat nk)), .val (.ref b352), .val (.int (Int32.ofNat nr)), .unset] [(.int (Int32.ofNat nr)), (.int (1 : Int32))]))
  refine own_go (fun _ ww => XS.iload X369.here hx rfl (hb hby at_179) rfl  ww) ?_
  show own_Goes _ _ _ _ _ _ _ (T369.setTop (mkF m 181 #[.val (.long x0), .second, .val (.long x2), .second, .val (.int x4), .val (.ref b326), .val (.ref b345), .val (.int (Int32.ofNat nf)), .val (.int (Int32.ofNat (nf + nd))), .val (.int (Int32.ofNat nd)), .val (.int (Int32.ofNat nk)), .val (.ref b352), .val (.int (Int32.ofNat nr)), .unset] [(.int (Int32.ofNat nk)), (.int (Int32.ofNat nr)), (.int (1 : Int32))]))
  refine own_go (fun _ ww => XS.iload X369.here hx rfl (hb hby at_181) rfl  ww) ?_
  show own_Goes _ _ _ _ _ _ _ (T369.setTop (mkF m 183 #[.val (.long x0), .second, .val (.long x2), .second, .val (.int x4), .val (.ref b326), .val (.ref b345), .val (.int (Int32.ofNat nf)), .val (.int (Int32.ofNat (nf + nd))), .val (.int (Int32.ofNat nd)), .val (.int (Int32.ofNat nk)), .val (.ref b352), .val (.int (Int32.ofNat nr)), .unset] [(.int (Int32.ofNat nf)), (.int (Int32.ofNat nk)), (.int (Int32.ofNat nr)), (.int (1 : Int32))]))
  refine own_go (fun _ ww => XS.aload X369.here hx rfl (hb hby at_183) rfl rfl ww) ?_
  show own_Goes _ _ _ _ _ _ _ (T369.setTop (mkF m 185 #[.val (.long x0), .second, .val (.long x2), .second, .val (.int x4), .val (.ref b326), .val (.ref b345), .val (.int (Int32.ofNat nf)), .val (.int (Int32.ofNat (nf + nd))), .val (.int (Int32.ofNat nd)), .val (.int (Int32.ofNat nk)), .val (.ref b352), .val (.int (Int32.ofNat nr)), .unset] [(.ref b326), (.int (Int32.ofNat nf)), (.int (Int32.ofNat nk)), (.int (Int32.ofNat nr)), (.int (1 : Int32))]))
  obtain ⟨_, _, ⟨T370, L370, k370, n370⟩, -, X370, ⟨Lc370, hQ370, l370, y370, z370⟩, st370⟩ := Jvm.LawKit.callS X369 hx (y := (⟨"org/graticule/read/SpanDigitsEndPinLaw", "ok", "(IIII[C)Z"⟩ : MethodName)) hown (mvT hZ (hw _ (List.mem_of_getElem? (i := 78) rfl))) (mvT hZ (hw _ (List.mem_of_getElem? (i := 79) rfl))) (mvT hZ (hw _ (List.mem_of_getElem? (i := 3) rfl))) (mvT hZ (hw _ (List.mem_of_getElem? (i := 80) rfl))) (by decide) (backOf (W := 0) (rm_okc l Z a0 hw [] 1 nr nk nf b326 k326 r327 r330 r333 r336 r339 r342 T361.heap n0 O361 f362 hdd (by omega) (by omega) (by omega)) hZ (hw _ (List.mem_of_getElem? (i := 80) rfl)) (hw _ (List.mem_of_getElem? (i := 3) rfl)) (by decide) (by decide)) (g := (mkF m 185 #[.val (.long x0), .second, .val (.long x2), .second, .val (.int x4), .val (.ref b326), .val (.ref b345), .val (.int (Int32.ofNat nf)), .val (.int (Int32.ofNat (nf + nd))), .val (.int (Int32.ofNat nd)), .val (.int (Int32.ofNat nk)), .val (.ref b352), .val (.int (Int32.ofNat nr)), .unset] [(.ref b326), (.int (Int32.ofNat nf)), (.int (Int32.ofNat nk)), (.int (Int32.ofNat nr)), (.int (1 : Int32))])) rfl (by rw [hml]; rfl) (argsL := [(.int (1 : Int32)), (.int (Int32.ofNat nr)), (.int (Int32.ofNat nk)), (.int (Int32.ofNat nf)), (.ref b326)]) (rest := []) (lenOf pd_23 rfl) rfl (by show 2 * 0 + _ ≤ _; exact Nat.le_of_eq rfl) (hb hby at_185) (fun _ _ => ⟨rfl, e369, (by decide : 5 + 0 ≤ _), (by decide : 31 + 0 ≤ _)⟩)
  dsimp only [Pt.U, Pt.locs, Pt.cells, Pt.slots] at X370 l370 y370 z370 st370 hQ370
  subst l370 y370 z370
  obtain ⟨rfl, N370q, e370⟩ := hQ370
  have N370 := Fr.app N369 N370q
  refine own_go st370 ?_
  show own_Goes _ _ _ _ _ _ _ (T370.setTop (mkF m 188 #[.val (.long x0), .second, .val (.long x2), .second, .val (.int x4), .val (.ref b326), .val (.ref b345), .val (.int (Int32.ofNat nf)), .val (.int (Int32.ofNat (nf + nd))), .val (.int (Int32.ofNat nd)), .val (.int (Int32.ofNat nk)), .val (.ref b352), .val (.int (Int32.ofNat nr)), .unset] [(.int (1 : Int32))]))
  refine own_go (fun _ ww => XS.ifNo X370.here hx rfl (hb hby at_188) rfl (own_if .eq (feq (by decide : ¬ ((1 : Int32) = (0 : Int32)))).1) ww) ?_
  show own_Goes _ _ _ _ _ _ _ (T370.setTop (mkF m 191 #[.val (.long x0), .second, .val (.long x2), .second, .val (.int x4), .val (.ref b326), .val (.ref b345), .val (.int (Int32.ofNat nf)), .val (.int (Int32.ofNat (nf + nd))), .val (.int (Int32.ofNat nd)), .val (.int (Int32.ofNat nk)), .val (.ref b352), .val (.int (Int32.ofNat nr)), .unset] []))
  refine own_go (fun _ ww => XS.iconst X370.here hx rfl (hb hby at_191) ww) ?_
  show own_Goes _ _ _ _ _ _ _ (T370.setTop (mkF m 192 #[.val (.long x0), .second, .val (.long x2), .second, .val (.int x4), .val (.ref b326), .val (.ref b345), .val (.int (Int32.ofNat nf)), .val (.int (Int32.ofNat (nf + nd))), .val (.int (Int32.ofNat nd)), .val (.int (Int32.ofNat nk)), .val (.ref b352), .val (.int (Int32.ofNat nr)), .unset] [(.int (2 : Int32))]))
  refine own_go (fun _ ww => XS.iload X370.here hx rfl (hb hby at_192) rfl  ww) ?_
  show own_Goes _ _ _ _ _ _ _ (T370.setTop (mkF m 194 #[.val (.long x0), .second, .val (.long x2), .second, .val (.int x4), .val (.ref b326), .val (.ref b345), .val (.int (Int32.ofNat nf)), .val (.int (Int32.ofNat (nf + nd))), .val (.int (Int32.ofNat nd)), .val (.int (Int32.ofNat nk)), .val (.ref b352), .val (.int (Int32.ofNat nr)), .unset] [(.int (Int32.ofNat nr)), (.int (2 : Int32))]))
  refine own_go (fun _ ww => XS.iload X370.here hx rfl (hb hby at_194) rfl  ww) ?_
  show own_Goes _ _ _ _ _ _ _ (T370.setTop (mkF m 196 #[.val (.long x0), .second, .val (.long x2), .second, .val (.int x4), .val (.ref b326), .val (.ref b345), .val (.int (Int32.ofNat nf)), .val (.int (Int32.ofNat (nf + nd))), .val (.int (Int32.ofNat nd)), .val (.int (Int32.ofNat nk)), .val (.ref b352), .val (.int (Int32.ofNat nr)), .unset] [(.int (Int32.ofNat nk)), (.int (Int32.ofNat nr)), (.int (2 : Int32))]))
  refine own_go (fun _ ww => XS.iload X370.here hx rfl (hb hby at_196) rfl  ww) ?_
  show own_Goes _ _ _ _ _ _ _ (T370.setTop (mkF m 198 #[.val (.long x0), .second, .val (.long x2), .second, .val (.int x4), .val (.ref b326), .val (.ref b345), .val (.int (Int32.ofNat nf)), .val (.int (Int32.ofNat (nf + nd))), .val (.int (Int32.ofNat nd)), .val (.int (Int32.ofNat nk)), .val (.ref b352), .val (.int (Int32.ofNat nr)), .unset] [(.int (Int32.ofNat nf)), (.int (Int32.ofNat nk)), (.int (Int32.ofNat nr)), (.int (2 : Int32))]))
  refine own_go (fun _ ww => XS.aload X370.here hx rfl (hb hby at_198) rfl rfl ww) ?_
  show own_Goes _ _ _ _ _ _ _ (T370.setTop (mkF m 200 #[.val (.long x0), .second, .val (.long x2), .second, .val (.int x4), .val (.ref b326), .val (.ref b345), .val (.int (Int32.ofNat nf)), .val (.int (Int32.ofNat (nf + nd))), .val (.int (Int32.ofNat nd)), .val (.int (Int32.ofNat nk)), .val (.ref b352), .val (.int (Int32.ofNat nr)), .unset] [(.ref b326), (.int (Int32.ofNat nf)), (.int (Int32.ofNat nk)), (.int (Int32.ofNat nr)), (.int (2 : Int32))]))
  obtain ⟨_, _, ⟨T371, L371, k371, n371⟩, -, X371, ⟨Lc371, hQ371, l371, y371, z371⟩, st371⟩ := Jvm.LawKit.callS X370 hx (y := (⟨"org/graticule/read/SpanDigitsEndPinLaw", "ok", "(IIII[C)Z"⟩ : MethodName)) hown (mvT hZ (hw _ (List.mem_of_getElem? (i := 78) rfl))) (mvT hZ (hw _ (List.mem_of_getElem? (i := 79) rfl))) (mvT hZ (hw _ (List.mem_of_getElem? (i := 3) rfl))) (mvT hZ (hw _ (List.mem_of_getElem? (i := 80) rfl))) (by decide) (backOf (W := 0) (rm_okc l Z a0 hw [] 2 nr nk nf b326 k326 r327 r330 r333 r336 r339 r342 T361.heap n0 O361 f362 hdd (by omega) (by omega) (by omega)) hZ (hw _ (List.mem_of_getElem? (i := 80) rfl)) (hw _ (List.mem_of_getElem? (i := 3) rfl)) (by decide) (by decide)) (g := (mkF m 200 #[.val (.long x0), .second, .val (.long x2), .second, .val (.int x4), .val (.ref b326), .val (.ref b345), .val (.int (Int32.ofNat nf)), .val (.int (Int32.ofNat (nf + nd))), .val (.int (Int32.ofNat nd)), .val (.int (Int32.ofNat nk)), .val (.ref b352), .val (.int (Int32.ofNat nr)), .unset] [(.ref b326), (.int (Int32.ofNat nf)), (.int (Int32.ofNat nk)), (.int (Int32.ofNat nr)), (.int (2 : Int32))])) rfl (by rw [hml]; rfl) (argsL := [(.int (2 : Int32)), (.int (Int32.ofNat nr)), (.int (Int32.ofNat nk)), (.int (Int32.ofNat nf)), (.ref b326)]) (rest := []) (lenOf pd_23 rfl) rfl (by show 2 * 0 + _ ≤ _; exact Nat.le_of_eq rfl) (hb hby at_200) (fun _ _ => ⟨rfl, e370, (by decide : 5 + 0 ≤ _), (by decide : 31 + 0 ≤ _)⟩)
  dsimp only [Pt.U, Pt.locs, Pt.cells, Pt.slots] at X371 l371 y371 z371 st371 hQ371
  subst l371 y371 z371
  obtain ⟨rfl, N371q, e371⟩ := hQ371
  have N371 := Fr.app N370 N371q
  refine own_go st371 ?_
  show own_Goes _ _ _ _ _ _ _ (T371.setTop (mkF m 203 #[.val (.long x0), .second, .val (.long x2), .second, .val (.int x4), .val (.ref b326), .val (.ref b345), .val (.int (Int32.ofNat nf)), .val (.int (Int32.ofNat (nf + nd))), .val (.int (Int32.ofNat nd)), .val (.int (Int32.ofNat nk)), .val (.ref b352), .val (.int (Int32.ofNat nr)), .unset] [(.int (1 : Int32))]))
  refine own_go (fun _ ww => XS.ifNo X371.here hx rfl (hb hby at_203) rfl (own_if .eq (feq (by decide : ¬ ((1 : Int32) = (0 : Int32)))).1) ww) ?_
  show own_Goes _ _ _ _ _ _ _ (T371.setTop (mkF m 206 #[.val (.long x0), .second, .val (.long x2), .second, .val (.int x4), .val (.ref b326), .val (.ref b345), .val (.int (Int32.ofNat nf)), .val (.int (Int32.ofNat (nf + nd))), .val (.int (Int32.ofNat nd)), .val (.int (Int32.ofNat nk)), .val (.ref b352), .val (.int (Int32.ofNat nr)), .unset] []))
  refine own_go (fun _ ww => XS.iconst X371.here hx rfl (hb hby at_206) ww) ?_
  show own_Goes _ _ _ _ _ _ _ (T371.setTop (mkF m 207 #[.val (.long x0), .second, .val (.long x2), .second, .val (.int x4), .val (.ref b326), .val (.ref b345), .val (.int (Int32.ofNat nf)), .val (.int (Int32.ofNat (nf + nd))), .val (.int (Int32.ofNat nd)), .val (.int (Int32.ofNat nk)), .val (.ref b352), .val (.int (Int32.ofNat nr)), .unset] [(.int (3 : Int32))]))
  refine own_go (fun _ ww => XS.iload X371.here hx rfl (hb hby at_207) rfl  ww) ?_
  show own_Goes _ _ _ _ _ _ _ (T371.setTop (mkF m 209 #[.val (.long x0), .second, .val (.long x2), .second, .val (.int x4), .val (.ref b326), .val (.ref b345), .val (.int (Int32.ofNat nf)), .val (.int (Int32.ofNat (nf + nd))), .val (.int (Int32.ofNat nd)), .val (.int (Int32.ofNat nk)), .val (.ref b352), .val (.int (Int32.ofNat nr)), .unset] [(.int (Int32.ofNat nr)), (.int (3 : Int32))]))
  refine own_go (fun _ ww => XS.iload X371.here hx rfl (hb hby at_209) rfl  ww) ?_
  show own_Goes _ _ _ _ _ _ _ (T371.setTop (mkF m 211 #[.val (.long x0), .second, .val (.long x2), .second, .val (.int x4), .val (.ref b326), .val (.ref b345), .val (.int (Int32.ofNat nf)), .val (.int (Int32.ofNat (nf + nd))), .val (.int (Int32.ofNat nd)), .val (.int (Int32.ofNat nk)), .val (.ref b352), .val (.int (Int32.ofNat nr)), .unset] [(.int (Int32.ofNat nk)), (.int (Int32.ofNat nr)), (.int (3 : Int32))]))
  refine own_go (fun _ ww => XS.iload X371.here hx rfl (hb hby at_211) rfl  ww) ?_
  show own_Goes _ _ _ _ _ _ _ (T371.setTop (mkF m 213 #[.val (.long x0), .second, .val (.long x2), .second, .val (.int x4), .val (.ref b326), .val (.ref b345), .val (.int (Int32.ofNat nf)), .val (.int (Int32.ofNat (nf + nd))), .val (.int (Int32.ofNat nd)), .val (.int (Int32.ofNat nk)), .val (.ref b352), .val (.int (Int32.ofNat nr)), .unset] [(.int (Int32.ofNat nf)), (.int (Int32.ofNat nk)), (.int (Int32.ofNat nr)), (.int (3 : Int32))]))
  refine own_go (fun _ ww => XS.aload X371.here hx rfl (hb hby at_213) rfl rfl ww) ?_
  show own_Goes _ _ _ _ _ _ _ (T371.setTop (mkF m 215 #[.val (.long x0), .second, .val (.long x2), .second, .val (.int x4), .val (.ref b326), .val (.ref b345), .val (.int (Int32.ofNat nf)), .val (.int (Int32.ofNat (nf + nd))), .val (.int (Int32.ofNat nd)), .val (.int (Int32.ofNat nk)), .val (.ref b352), .val (.int (Int32.ofNat nr)), .unset] [(.ref b326), (.int (Int32.ofNat nf)), (.int (Int32.ofNat nk)), (.int (Int32.ofNat nr)), (.int (3 : Int32))]))
  obtain ⟨_, _, ⟨T372, L372, k372, n372⟩, -, X372, ⟨Lc372, hQ372, l372, y372, z372⟩, st372⟩ := Jvm.LawKit.callS X371 hx (y := (⟨"org/graticule/read/SpanDigitsEndPinLaw", "ok", "(IIII[C)Z"⟩ : MethodName)) hown (mvT hZ (hw _ (List.mem_of_getElem? (i := 78) rfl))) (mvT hZ (hw _ (List.mem_of_getElem? (i := 79) rfl))) (mvT hZ (hw _ (List.mem_of_getElem? (i := 3) rfl))) (mvT hZ (hw _ (List.mem_of_getElem? (i := 80) rfl))) (by decide) (backOf (W := 0) (rm_okc l Z a0 hw [] 3 nr nk nf b326 k326 r327 r330 r333 r336 r339 r342 T361.heap n0 O361 f362 hdd (by omega) (by omega) (by omega)) hZ (hw _ (List.mem_of_getElem? (i := 80) rfl)) (hw _ (List.mem_of_getElem? (i := 3) rfl)) (by decide) (by decide)) (g := (mkF m 215 #[.val (.long x0), .second, .val (.long x2), .second, .val (.int x4), .val (.ref b326), .val (.ref b345), .val (.int (Int32.ofNat nf)), .val (.int (Int32.ofNat (nf + nd))), .val (.int (Int32.ofNat nd)), .val (.int (Int32.ofNat nk)), .val (.ref b352), .val (.int (Int32.ofNat nr)), .unset] [(.ref b326), (.int (Int32.ofNat nf)), (.int (Int32.ofNat nk)), (.int (Int32.ofNat nr)), (.int (3 : Int32))])) rfl (by rw [hml]; rfl) (argsL := [(.int (3 : Int32)), (.int (Int32.ofNat nr)), (.int (Int32.ofNat nk)), (.int (Int32.ofNat nf)), (.ref b326)]) (rest := []) (lenOf pd_23 rfl) rfl (by show 2 * 0 + _ ≤ _; exact Nat.le_of_eq rfl) (hb hby at_215) (fun _ _ => ⟨rfl, e371, (by decide : 5 + 0 ≤ _), (by decide : 31 + 0 ≤ _)⟩)
  dsimp only [Pt.U, Pt.locs, Pt.cells, Pt.slots] at X372 l372 y372 z372 st372 hQ372
  subst l372 y372 z372
  obtain ⟨rfl, N372q, e372⟩ := hQ372
  have N372 := Fr.app N371 N372q
  refine own_go st372 ?_
  show own_Goes _ _ _ _ _ _ _ (T372.setTop (mkF m 218 #[.val (.long x0), .second, .val (.long x2), .second, .val (.int x4), .val (.ref b326), .val (.ref b345), .val (.int (Int32.ofNat nf)), .val (.int (Int32.ofNat (nf + nd))), .val (.int (Int32.ofNat nd)), .val (.int (Int32.ofNat nk)), .val (.ref b352), .val (.int (Int32.ofNat nr)), .unset] [(.int (1 : Int32))]))
  refine own_go (fun _ ww => XS.ifNo X372.here hx rfl (hb hby at_218) rfl (own_if .eq (feq (by decide : ¬ ((1 : Int32) = (0 : Int32)))).1) ww) ?_
  show own_Goes _ _ _ _ _ _ _ (T372.setTop (mkF m 221 #[.val (.long x0), .second, .val (.long x2), .second, .val (.int x4), .val (.ref b326), .val (.ref b345), .val (.int (Int32.ofNat nf)), .val (.int (Int32.ofNat (nf + nd))), .val (.int (Int32.ofNat nd)), .val (.int (Int32.ofNat nk)), .val (.ref b352), .val (.int (Int32.ofNat nr)), .unset] []))
  refine own_go (fun _ ww => XS.iconst X372.here hx rfl (hb hby at_221) ww) ?_
  show own_Goes _ _ _ _ _ _ _ (T372.setTop (mkF m 222 #[.val (.long x0), .second, .val (.long x2), .second, .val (.int x4), .val (.ref b326), .val (.ref b345), .val (.int (Int32.ofNat nf)), .val (.int (Int32.ofNat (nf + nd))), .val (.int (Int32.ofNat nd)), .val (.int (Int32.ofNat nk)), .val (.ref b352), .val (.int (Int32.ofNat nr)), .unset] [(.int (4 : Int32))]))
  refine own_go (fun _ ww => XS.iload X372.here hx rfl (hb hby at_222) rfl  ww) ?_
  show own_Goes _ _ _ _ _ _ _ (T372.setTop (mkF m 224 #[.val (.long x0), .second, .val (.long x2), .second, .val (.int x4), .val (.ref b326), .val (.ref b345), .val (.int (Int32.ofNat nf)), .val (.int (Int32.ofNat (nf + nd))), .val (.int (Int32.ofNat nd)), .val (.int (Int32.ofNat nk)), .val (.ref b352), .val (.int (Int32.ofNat nr)), .unset] [(.int (Int32.ofNat nr)), (.int (4 : Int32))]))
  refine own_go (fun _ ww => XS.iload X372.here hx rfl (hb hby at_224) rfl  ww) ?_
  show own_Goes _ _ _ _ _ _ _ (T372.setTop (mkF m 226 #[.val (.long x0), .second, .val (.long x2), .second, .val (.int x4), .val (.ref b326), .val (.ref b345), .val (.int (Int32.ofNat nf)), .val (.int (Int32.ofNat (nf + nd))), .val (.int (Int32.ofNat nd)), .val (.int (Int32.ofNat nk)), .val (.ref b352), .val (.int (Int32.ofNat nr)), .unset] [(.int (Int32.ofNat nk)), (.int (Int32.ofNat nr)), (.int (4 : Int32))]))
  refine own_go (fun _ ww => XS.iload X372.here hx rfl (hb hby at_226) rfl  ww) ?_
  show own_Goes _ _ _ _ _ _ _ (T372.setTop (mkF m 228 #[.val (.long x0), .second, .val (.long x2), .second, .val (.int x4), .val (.ref b326), .val (.ref b345), .val (.int (Int32.ofNat nf)), .val (.int (Int32.ofNat (nf + nd))), .val (.int (Int32.ofNat nd)), .val (.int (Int32.ofNat nk)), .val (.ref b352), .val (.int (Int32.ofNat nr)), .unset] [(.int (Int32.ofNat nf)), (.int (Int32.ofNat nk)), (.int (Int32.ofNat nr)), (.int (4 : Int32))]))
  refine own_go (fun _ ww => XS.aload X372.here hx rfl (hb hby at_228) rfl rfl ww) ?_
  show own_Goes _ _ _ _ _ _ _ (T372.setTop (mkF m 230 #[.val (.long x0), .second, .val (.long x2), .second, .val (.int x4), .val (.ref b326), .val (.ref b345), .val (.int (Int32.ofNat nf)), .val (.int (Int32.ofNat (nf + nd))), .val (.int (Int32.ofNat nd)), .val (.int (Int32.ofNat nk)), .val (.ref b352), .val (.int (Int32.ofNat nr)), .unset] [(.ref b326), (.int (Int32.ofNat nf)), (.int (Int32.ofNat nk)), (.int (Int32.ofNat nr)), (.int (4 : Int32))]))
  obtain ⟨_, _, ⟨T373, L373, k373, n373⟩, -, X373, ⟨Lc373, hQ373, l373, y373, z373⟩, st373⟩ := Jvm.LawKit.callS X372 hx (y := (⟨"org/graticule/read/SpanDigitsEndPinLaw", "ok", "(IIII[C)Z"⟩ : MethodName)) hown (mvT hZ (hw _ (List.mem_of_getElem? (i := 78) rfl))) (mvT hZ (hw _ (List.mem_of_getElem? (i := 79) rfl))) (mvT hZ (hw _ (List.mem_of_getElem? (i := 3) rfl))) (mvT hZ (hw _ (List.mem_of_getElem? (i := 80) rfl))) (by decide) (backOf (W := 0) (rm_okc l Z a0 hw [] 4 nr nk nf b326 k326 r327 r330 r333 r336 r339 r342 T361.heap n0 O361 f362 hdd (by omega) (by omega) (by omega)) hZ (hw _ (List.mem_of_getElem? (i := 80) rfl)) (hw _ (List.mem_of_getElem? (i := 3) rfl)) (by decide) (by decide)) (g := (mkF m 230 #[.val (.long x0), .second, .val (.long x2), .second, .val (.int x4), .val (.ref b326), .val (.ref b345), .val (.int (Int32.ofNat nf)), .val (.int (Int32.ofNat (nf + nd))), .val (.int (Int32.ofNat nd)), .val (.int (Int32.ofNat nk)), .val (.ref b352), .val (.int (Int32.ofNat nr)), .unset] [(.ref b326), (.int (Int32.ofNat nf)), (.int (Int32.ofNat nk)), (.int (Int32.ofNat nr)), (.int (4 : Int32))])) rfl (by rw [hml]; rfl) (argsL := [(.int (4 : Int32)), (.int (Int32.ofNat nr)), (.int (Int32.ofNat nk)), (.int (Int32.ofNat nf)), (.ref b326)]) (rest := []) (lenOf pd_23 rfl) rfl (by show 2 * 0 + _ ≤ _; exact Nat.le_of_eq rfl) (hb hby at_230) (fun _ _ => ⟨rfl, e372, (by decide : 5 + 0 ≤ _), (by decide : 31 + 0 ≤ _)⟩)
  dsimp only [Pt.U, Pt.locs, Pt.cells, Pt.slots] at X373 l373 y373 z373 st373 hQ373
  subst l373 y373 z373
  obtain ⟨rfl, N373q, e373⟩ := hQ373
  have N373 := Fr.app N372 N373q
  refine own_go st373 ?_
  show own_Goes _ _ _ _ _ _ _ (T373.setTop (mkF m 233 #[.val (.long x0), .second, .val (.long x2), .second, .val (.int x4), .val (.ref b326), .val (.ref b345), .val (.int (Int32.ofNat nf)), .val (.int (Int32.ofNat (nf + nd))), .val (.int (Int32.ofNat nd)), .val (.int (Int32.ofNat nk)), .val (.ref b352), .val (.int (Int32.ofNat nr)), .unset] [(.int (1 : Int32))]))
  refine own_go (fun _ ww => XS.ifNo X373.here hx rfl (hb hby at_233) rfl (own_if .eq (feq (by decide : ¬ ((1 : Int32) = (0 : Int32)))).1) ww) ?_
  show own_Goes _ _ _ _ _ _ _ (T373.setTop (mkF m 236 #[.val (.long x0), .second, .val (.long x2), .second, .val (.int x4), .val (.ref b326), .val (.ref b345), .val (.int (Int32.ofNat nf)), .val (.int (Int32.ofNat (nf + nd))), .val (.int (Int32.ofNat nd)), .val (.int (Int32.ofNat nk)), .val (.ref b352), .val (.int (Int32.ofNat nr)), .unset] []))
  refine own_go (fun _ ww => XS.iconst X373.here hx rfl (hb hby at_236) ww) ?_
  show own_Goes _ _ _ _ _ _ _ (T373.setTop (mkF m 237 #[.val (.long x0), .second, .val (.long x2), .second, .val (.int x4), .val (.ref b326), .val (.ref b345), .val (.int (Int32.ofNat nf)), .val (.int (Int32.ofNat (nf + nd))), .val (.int (Int32.ofNat nd)), .val (.int (Int32.ofNat nk)), .val (.ref b352), .val (.int (Int32.ofNat nr)), .unset] [(.int (5 : Int32))]))
  refine own_go (fun _ ww => XS.iload X373.here hx rfl (hb hby at_237) rfl  ww) ?_
  show own_Goes _ _ _ _ _ _ _ (T373.setTop (mkF m 239 #[.val (.long x0), .second, .val (.long x2), .second, .val (.int x4), .val (.ref b326), .val (.ref b345), .val (.int (Int32.ofNat nf)), .val (.int (Int32.ofNat (nf + nd))), .val (.int (Int32.ofNat nd)), .val (.int (Int32.ofNat nk)), .val (.ref b352), .val (.int (Int32.ofNat nr)), .unset] [(.int (Int32.ofNat nr)), (.int (5 : Int32))]))
  refine own_go (fun _ ww => XS.iload X373.here hx rfl (hb hby at_239) rfl  ww) ?_
  show own_Goes _ _ _ _ _ _ _ (T373.setTop (mkF m 241 #[.val (.long x0), .second, .val (.long x2), .second, .val (.int x4), .val (.ref b326), .val (.ref b345), .val (.int (Int32.ofNat nf)), .val (.int (Int32.ofNat (nf + nd))), .val (.int (Int32.ofNat nd)), .val (.int (Int32.ofNat nk)), .val (.ref b352), .val (.int (Int32.ofNat nr)), .unset] [(.int (Int32.ofNat nk)), (.int (Int32.ofNat nr)), (.int (5 : Int32))]))
  refine own_go (fun _ ww => XS.iload X373.here hx rfl (hb hby at_241) rfl  ww) ?_
  show own_Goes _ _ _ _ _ _ _ (T373.setTop (mkF m 243 #[.val (.long x0), .second, .val (.long x2), .second, .val (.int x4), .val (.ref b326), .val (.ref b345), .val (.int (Int32.ofNat nf)), .val (.int (Int32.ofNat (nf + nd))), .val (.int (Int32.ofNat nd)), .val (.int (Int32.ofNat nk)), .val (.ref b352), .val (.int (Int32.ofNat nr)), .unset] [(.int (Int32.ofNat nf)), (.int (Int32.ofNat nk)), (.int (Int32.ofNat nr)), (.int (5 : Int32))]))
  refine own_go (fun _ ww => XS.aload X373.here hx rfl (hb hby at_243) rfl rfl ww) ?_
  show own_Goes _ _ _ _ _ _ _ (T373.setTop (mkF m 245 #[.val (.long x0), .second, .val (.long x2), .second, .val (.int x4), .val (.ref b326), .val (.ref b345), .val (.int (Int32.ofNat nf)), .val (.int (Int32.ofNat (nf + nd))), .val (.int (Int32.ofNat nd)), .val (.int (Int32.ofNat nk)), .val (.ref b352), .val (.int (Int32.ofNat nr)), .unset] [(.ref b326), (.int (Int32.ofNat nf)), (.int (Int32.ofNat nk)), (.int (Int32.ofNat nr)), (.int (5 : Int32))]))
  obtain ⟨_, _, ⟨T374, L374, k374, n374⟩, -, X374, ⟨Lc374, hQ374, l374, y374, z374⟩, st374⟩ := Jvm.LawKit.callS X373 hx (y := (⟨"org/graticule/read/SpanDigitsEndPinLaw", "ok", "(IIII[C)Z"⟩ : MethodName)) hown (mvT hZ (hw _ (List.mem_of_getElem? (i := 78) rfl))) (mvT hZ (hw _ (List.mem_of_getElem? (i := 79) rfl))) (mvT hZ (hw _ (List.mem_of_getElem? (i := 3) rfl))) (mvT hZ (hw _ (List.mem_of_getElem? (i := 80) rfl))) (by decide) (backOf (W := 0) (rm_okc l Z a0 hw [] 5 nr nk nf b326 k326 r327 r330 r333 r336 r339 r342 T361.heap n0 O361 f362 hdd (by omega) (by omega) (by omega)) hZ (hw _ (List.mem_of_getElem? (i := 80) rfl)) (hw _ (List.mem_of_getElem? (i := 3) rfl)) (by decide) (by decide)) (g := (mkF m 245 #[.val (.long x0), .second, .val (.long x2), .second, .val (.int x4), .val (.ref b326), .val (.ref b345), .val (.int (Int32.ofNat nf)), .val (.int (Int32.ofNat (nf + nd))), .val (.int (Int32.ofNat nd)), .val (.int (Int32.ofNat nk)), .val (.ref b352), .val (.int (Int32.ofNat nr)), .unset] [(.ref b326), (.int (Int32.ofNat nf)), (.int (Int32.ofNat nk)), (.int (Int32.ofNat nr)), (.int (5 : Int32))])) rfl (by rw [hml]; rfl) (argsL := [(.int (5 : Int32)), (.int (Int32.ofNat nr)), (.int (Int32.ofNat nk)), (.int (Int32.ofNat nf)), (.ref b326)]) (rest := []) (lenOf pd_23 rfl) rfl (by show 2 * 0 + _ ≤ _; exact Nat.le_of_eq rfl) (hb hby at_245) (fun _ _ => ⟨rfl, e373, (by decide : 5 + 0 ≤ _), (by decide : 31 + 0 ≤ _)⟩)
  dsimp only [Pt.U, Pt.locs, Pt.cells, Pt.slots] at X374 l374 y374 z374 st374 hQ374
  subst l374 y374 z374
  obtain ⟨rfl, N374q, e374⟩ := hQ374
  have N374 := Fr.app N373 N374q
  refine own_go st374 ?_
  show own_Goes _ _ _ _ _ _ _ (T374.setTop (mkF m 248 #[.val (.long x0), .second, .val (.long x2), .second, .val (.int x4), .val (.ref b326), .val (.ref b345), .val (.int (Int32.ofNat nf)), .val (.int (Int32.ofNat (nf + nd))), .val (.int (Int32.ofNat nd)), .val (.int (Int32.ofNat nk)), .val (.ref b352), .val (.int (Int32.ofNat nr)), .unset] [(.int (1 : Int32))]))
  refine own_go (fun _ ww => XS.ifNo X374.here hx rfl (hb hby at_248) rfl (own_if .eq (feq (by decide : ¬ ((1 : Int32) = (0 : Int32)))).1) ww) ?_
  show own_Goes _ _ _ _ _ _ _ (T374.setTop (mkF m 251 #[.val (.long x0), .second, .val (.long x2), .second, .val (.int x4), .val (.ref b326), .val (.ref b345), .val (.int (Int32.ofNat nf)), .val (.int (Int32.ofNat (nf + nd))), .val (.int (Int32.ofNat nd)), .val (.int (Int32.ofNat nk)), .val (.ref b352), .val (.int (Int32.ofNat nr)), .unset] []))
  refine own_go (fun _ ww => XS.iconst X374.here hx rfl (hb hby at_251) ww) ?_
  show own_Goes _ _ _ _ _ _ _ (T374.setTop (mkF m 252 #[.val (.long x0), .second, .val (.long x2), .second, .val (.int x4), .val (.ref b326), .val (.ref b345), .val (.int (Int32.ofNat nf)), .val (.int (Int32.ofNat (nf + nd))), .val (.int (Int32.ofNat nd)), .val (.int (Int32.ofNat nk)), .val (.ref b352), .val (.int (Int32.ofNat nr)), .unset] [(.int (1 : Int32))]))
  refine own_go (fun _ ww => XS.goto X374.here hx rfl (pc0 := 252) (pc' := 256) rfl (hb hby at_252) (by decide) (by decide) ww) ?_
  show own_Goes _ _ _ _ _ _ _ (T374.setTop (mkF m 256 #[.val (.long x0), .second, .val (.long x2), .second, .val (.int x4), .val (.ref b326), .val (.ref b345), .val (.int (Int32.ofNat nf)), .val (.int (Int32.ofNat (nf + nd))), .val (.int (Int32.ofNat nd)), .val (.int (Int32.ofNat nk)), .val (.ref b352), .val (.int (Int32.ofNat nr)), .unset] [(.int (1 : Int32))]))
  refine own_go (fun _ ww => XS.istore X374.here hx rfl (hb hby at_256) rfl (l' := #[.val (.long x0), .second, .val (.long x2), .second, .val (.int x4), .val (.ref b326), .val (.ref b345), .val (.int (Int32.ofNat nf)), .val (.int (Int32.ofNat (nf + nd))), .val (.int (Int32.ofNat nd)), .val (.int (Int32.ofNat nk)), .val (.ref b352), .val (.int (Int32.ofNat nr)), .val (.int (1 : Int32))]) rfl ww) ?_
  show own_Goes _ _ _ _ _ _ _ (T374.setTop (mkF m 258 #[.val (.long x0), .second, .val (.long x2), .second, .val (.int x4), .val (.ref b326), .val (.ref b345), .val (.int (Int32.ofNat nf)), .val (.int (Int32.ofNat (nf + nd))), .val (.int (Int32.ofNat nd)), .val (.int (Int32.ofNat nk)), .val (.ref b352), .val (.int (Int32.ofNat nr)), .val (.int (1 : Int32))] []))
  refine own_go (fun _ ww => XS.iload X374.here hx rfl (hb hby at_258) rfl  ww) ?_
  show own_Goes _ _ _ _ _ _ _ (T374.setTop (mkF m 260 #[.val (.long x0), .second, .val (.long x2), .second, .val (.int x4), .val (.ref b326), .val (.ref b345), .val (.int (Int32.ofNat nf)), .val (.int (Int32.ofNat (nf + nd))), .val (.int (Int32.ofNat nd)), .val (.int (Int32.ofNat nk)), .val (.ref b352), .val (.int (Int32.ofNat nr)), .val (.int (1 : Int32))] [(.int (1 : Int32))]))
  refine own_go (fun _ ww => XS.ifYes X374.here hx rfl (pc0 := 260) (pc' := 265) rfl (hb hby at_260) rfl (own_if .ne (feq (by decide : ¬ ((1 : Int32) = (0 : Int32)))).2) (by decide) (by decide) ww) ?_
  show own_Goes _ _ _ _ _ _ _ (T374.setTop (mkF m 265 #[.val (.long x0), .second, .val (.long x2), .second, .val (.int x4), .val (.ref b326), .val (.ref b345), .val (.int (Int32.ofNat nf)), .val (.int (Int32.ofNat (nf + nd))), .val (.int (Int32.ofNat nd)), .val (.int (Int32.ofNat nk)), .val (.ref b352), .val (.int (Int32.ofNat nr)), .val (.int (1 : Int32))] []))
  refine own_go (fun _ ww => XS.iload X374.here hx rfl (hb hby at_265) rfl  ww) ?_
  show own_Goes _ _ _ _ _ _ _ (T374.setTop (mkF m 267 #[.val (.long x0), .second, .val (.long x2), .second, .val (.int x4), .val (.ref b326), .val (.ref b345), .val (.int (Int32.ofNat nf)), .val (.int (Int32.ofNat (nf + nd))), .val (.int (Int32.ofNat nd)), .val (.int (Int32.ofNat nk)), .val (.ref b352), .val (.int (Int32.ofNat nr)), .val (.int (1 : Int32))] [(.int (Int32.ofNat nr))]))
  refine own_go (fun _ ww => XS.iload X374.here hx rfl (hb hby at_267) rfl  ww) ?_
  show own_Goes _ _ _ _ _ _ _ (T374.setTop (mkF m 269 #[.val (.long x0), .second, .val (.long x2), .second, .val (.int x4), .val (.ref b326), .val (.ref b345), .val (.int (Int32.ofNat nf)), .val (.int (Int32.ofNat (nf + nd))), .val (.int (Int32.ofNat nd)), .val (.int (Int32.ofNat nk)), .val (.ref b352), .val (.int (Int32.ofNat nr)), .val (.int (1 : Int32))] [(.int (Int32.ofNat nd)), (.int (Int32.ofNat nr))]))
  by_cases hc375 : (Int32.ofNat nr) = (Int32.ofNat nd)
  ·
    refine own_go (fun _ ww => XS.icmpYes X374.here hx rfl (pc0 := 269) (pc' := 286) rfl (hb hby at_269) rfl (teq hc375).1 (by decide) (by decide) ww) ?_
    show own_Goes _ _ _ _ _ _ _ (T374.setTop (mkF m 286 #[.val (.long x0), .second, .val (.long x2), .second, .val (.int x4), .val (.ref b326), .val (.ref b345), .val (.int (Int32.ofNat nf)), .val (.int (Int32.ofNat (nf + nd))), .val (.int (Int32.ofNat nd)), .val (.int (Int32.ofNat nk)), .val (.ref b352), .val (.int (Int32.ofNat nr)), .val (.int (1 : Int32))] []))
    refine own_go (fun _ ww => XS.iconst X374.here hx rfl (hb hby at_286) ww) ?_
    show own_Goes _ _ _ _ _ _ _ (T374.setTop (mkF m 287 #[.val (.long x0), .second, .val (.long x2), .second, .val (.int x4), .val (.ref b326), .val (.ref b345), .val (.int (Int32.ofNat nf)), .val (.int (Int32.ofNat (nf + nd))), .val (.int (Int32.ofNat nd)), .val (.int (Int32.ofNat nk)), .val (.ref b352), .val (.int (Int32.ofNat nr)), .val (.int (1 : Int32))] [(.int (1 : Int32))]))
    refine own_go (fun _ ww => XS.goto X374.here hx rfl (pc0 := 287) (pc' := 291) rfl (hb hby at_287) (by decide) (by decide) ww) ?_
    show own_Goes _ _ _ _ _ _ _ (T374.setTop (mkF m 291 #[.val (.long x0), .second, .val (.long x2), .second, .val (.int x4), .val (.ref b326), .val (.ref b345), .val (.int (Int32.ofNat nf)), .val (.int (Int32.ofNat (nf + nd))), .val (.int (Int32.ofNat nd)), .val (.int (Int32.ofNat nk)), .val (.ref b352), .val (.int (Int32.ofNat nr)), .val (.int (1 : Int32))] [(.int (1 : Int32))]))
    exact own_out X374 hlk (v := some (.int (1 : Int32))) (fun h => by rw [hret] at h; cases h) (fun fs hr => retOut X374 hx (t := .boolean) hret (by decide) (Or.inl ⟨rfl, by simp, _, rfl⟩) (hb hby at_291) hr) e374 ⟨rfl, N374⟩ (by decide) (by decide)
  ·
    refine own_go (fun _ ww => XS.icmpNo X374.here hx rfl (hb hby at_269) rfl (feq hc375).1 ww) ?_
    show own_Goes _ _ _ _ _ _ _ (T374.setTop (mkF m 272 #[.val (.long x0), .second, .val (.long x2), .second, .val (.int x4), .val (.ref b326), .val (.ref b345), .val (.int (Int32.ofNat nf)), .val (.int (Int32.ofNat (nf + nd))), .val (.int (Int32.ofNat nd)), .val (.int (Int32.ofNat nk)), .val (.ref b352), .val (.int (Int32.ofNat nr)), .val (.int (1 : Int32))] []))
    refine own_go (fun _ ww => XS.aload X374.here hx rfl (hb hby at_272) rfl rfl ww) ?_
    show own_Goes _ _ _ _ _ _ _ (T374.setTop (mkF m 274 #[.val (.long x0), .second, .val (.long x2), .second, .val (.int x4), .val (.ref b326), .val (.ref b345), .val (.int (Int32.ofNat nf)), .val (.int (Int32.ofNat (nf + nd))), .val (.int (Int32.ofNat nd)), .val (.int (Int32.ofNat nk)), .val (.ref b352), .val (.int (Int32.ofNat nr)), .val (.int (1 : Int32))] [(.ref b326)]))
    refine own_go (fun _ ww => XS.iload X374.here hx rfl (hb hby at_274) rfl  ww) ?_
    show own_Goes _ _ _ _ _ _ _ (T374.setTop (mkF m 276 #[.val (.long x0), .second, .val (.long x2), .second, .val (.int x4), .val (.ref b326), .val (.ref b345), .val (.int (Int32.ofNat nf)), .val (.int (Int32.ofNat (nf + nd))), .val (.int (Int32.ofNat nd)), .val (.int (Int32.ofNat nk)), .val (.ref b352), .val (.int (Int32.ofNat nr)), .val (.int (1 : Int32))] [(.int (Int32.ofNat nf)), (.ref b326)]))
    refine own_go (fun _ ww => XS.iload X374.here hx rfl (hb hby at_276) rfl  ww) ?_
    show own_Goes _ _ _ _ _ _ _ (T374.setTop (mkF m 278 #[.val (.long x0), .second, .val (.long x2), .second, .val (.int x4), .val (.ref b326), .val (.ref b345), .val (.int (Int32.ofNat nf)), .val (.int (Int32.ofNat (nf + nd))), .val (.int (Int32.ofNat nd)), .val (.int (Int32.ofNat nk)), .val (.ref b352), .val (.int (Int32.ofNat nr)), .val (.int (1 : Int32))] [(.int (Int32.ofNat nr)), (.int (Int32.ofNat nf)), (.ref b326)]))
    refine own_go (fun _ ww => XS.iadd X374.here hx rfl (hb hby at_278) rfl ww) ?_
    show own_Goes _ _ _ _ _ _ _ (T374.setTop (mkF m 279 #[.val (.long x0), .second, .val (.long x2), .second, .val (.int x4), .val (.ref b326), .val (.ref b345), .val (.int (Int32.ofNat nf)), .val (.int (Int32.ofNat (nf + nd))), .val (.int (Int32.ofNat nd)), .val (.int (Int32.ofNat nk)), .val (.ref b352), .val (.int (Int32.ofNat nr)), .val (.int (1 : Int32))] [(.int ((Int32.ofNat nf) + (Int32.ofNat nr))), (.ref b326)]))
    rw [own_addN]
    have hne : nr ≠ nd := fun q => hc375 (by rw [q])
    have hnd2 := hlast.resolve_left (by omega)
    show own_Goes _ _ _ _ _ _ _ (T374.setTop (mkF m 279 #[.val (.long x0), .second, .val (.long x2), .second, .val (.int x4), .val (.ref b326), .val (.ref b345), .val (.int (Int32.ofNat nf)), .val (.int (Int32.ofNat (nf + nd))), .val (.int (Int32.ofNat nd)), .val (.int (Int32.ofNat nk)), .val (.ref b352), .val (.int (Int32.ofNat nr)), .val (.int (1 : Int32))] [(.int (Int32.ofNat (nf + nr))), (.ref b326)]))
    obtain ⟨cl376, Ar376, -, S376, -, H376, -⟩ := id f362
    have hin376 := inb_of (j := (Int32.ofNat (nf + nr))) S376 (own_inb (a := nf + nr) (z := 6) (by omega) (by omega))
    have hat376 : cl376.slots[((Int32.ofNat (nf + nr))).toNatClampNeg]? = some (.int (([r327, r330, r333, r336, r339, r342] : List Int32).getD (nf + nr) 0)) := Has.at H376 hin376 (by rw [own_clampN (a := nf + nr) (by omega)]; exact own_gd _ _ _ _ _ _ _)
    refine own_go (fun _ ww => X374.caload hx (j := (Int32.ofNat (nf + nr))) (v := (.int (([r327, r330, r333, r336, r339, r342] : List Int32).getD (nf + nr) 0))) (by rw [e374]; exact Ar376.1) (State.isArrayOf_alike hZ.alike Ar376.2.1) Ar376.2.2 hin376 hat376 (g := (mkF m 279 #[.val (.long x0), .second, .val (.long x2), .second, .val (.int x4), .val (.ref b326), .val (.ref b345), .val (.int (Int32.ofNat nf)), .val (.int (Int32.ofNat (nf + nd))), .val (.int (Int32.ofNat nd)), .val (.int (Int32.ofNat nk)), .val (.ref b352), .val (.int (Int32.ofNat nr)), .val (.int (1 : Int32))] [(.int (Int32.ofNat (nf + nr))), (.ref b326)])) rfl rfl (hb hby at_279) _ ww) ?_
    show own_Goes _ _ _ _ _ _ _ (T374.setTop (mkF m 280 #[.val (.long x0), .second, .val (.long x2), .second, .val (.int x4), .val (.ref b326), .val (.ref b345), .val (.int (Int32.ofNat nf)), .val (.int (Int32.ofNat (nf + nd))), .val (.int (Int32.ofNat nd)), .val (.int (Int32.ofNat nk)), .val (.ref b352), .val (.int (Int32.ofNat nr)), .val (.int (1 : Int32))] [(.int (([r327, r330, r333, r336, r339, r342] : List Int32).getD (nf + nr) 0))]))
    obtain ⟨_, _, ⟨T377, L377, k377, n377⟩, -, X377, ⟨Lc377, hQ377, l377, y377, z377⟩, st377⟩ := Jvm.LawKit.callS X374 hx (y := (⟨"org/graticule/read/SpanDigitsEndPinLaw", "isAsciiDigit", "(C)Z"⟩ : MethodName)) hown (mvT hZ (hw _ (List.mem_of_getElem? (i := 126) rfl))) (mvT hZ (hw _ (List.mem_of_getElem? (i := 127) rfl))) (mvT hZ (hw _ (List.mem_of_getElem? (i := 3) rfl))) (mvT hZ (hw _ (List.mem_of_getElem? (i := 128) rfl))) (by decide) (backOf (W := 0) (rm_isd l Z a0 hw [] (([r327, r330, r333, r336, r339, r342] : List Int32).getD (nf + nr) 0) (0 : Int32) T361.heap n0 O361 (fun a b => absurd ⟨a, b⟩ hnd2) (fun _ => rfl) (fun _ => rfl)) hZ (hw _ (List.mem_of_getElem? (i := 128) rfl)) (hw _ (List.mem_of_getElem? (i := 3) rfl)) (by decide) (by decide)) (g := (mkF m 280 #[.val (.long x0), .second, .val (.long x2), .second, .val (.int x4), .val (.ref b326), .val (.ref b345), .val (.int (Int32.ofNat nf)), .val (.int (Int32.ofNat (nf + nd))), .val (.int (Int32.ofNat nd)), .val (.int (Int32.ofNat nk)), .val (.ref b352), .val (.int (Int32.ofNat nr)), .val (.int (1 : Int32))] [(.int (([r327, r330, r333, r336, r339, r342] : List Int32).getD (nf + nr) 0))])) rfl (by rw [hml]; rfl) (argsL := [(.int (([r327, r330, r333, r336, r339, r342] : List Int32).getD (nf + nr) 0))]) (rest := []) (lenOf pd_19 rfl) rfl (by show 2 * 0 + _ ≤ _; exact Nat.le_of_eq rfl) (hb hby at_280) (fun _ _ => ⟨rfl, e374, (by decide : 5 + 0 ≤ _), (by decide : 31 + 0 ≤ _)⟩)
    dsimp only [Pt.U, Pt.locs, Pt.cells, Pt.slots] at X377 l377 y377 z377 st377 hQ377
    subst l377 y377 z377
    obtain ⟨rfl, N377q, e377⟩ := hQ377
    have N377 := Fr.app N374 N377q
    refine own_go st377 ?_
    show own_Goes _ _ _ _ _ _ _ (T377.setTop (mkF m 283 #[.val (.long x0), .second, .val (.long x2), .second, .val (.int x4), .val (.ref b326), .val (.ref b345), .val (.int (Int32.ofNat nf)), .val (.int (Int32.ofNat (nf + nd))), .val (.int (Int32.ofNat nd)), .val (.int (Int32.ofNat nk)), .val (.ref b352), .val (.int (Int32.ofNat nr)), .val (.int (1 : Int32))] [(.int (0 : Int32))]))
    refine own_go (fun _ ww => XS.ifNo X377.here hx rfl (hb hby at_283) rfl (own_if .ne (teq (by decide : (0 : Int32) = (0 : Int32))).2) ww) ?_
    show own_Goes _ _ _ _ _ _ _ (T377.setTop (mkF m 286 #[.val (.long x0), .second, .val (.long x2), .second, .val (.int x4), .val (.ref b326), .val (.ref b345), .val (.int (Int32.ofNat nf)), .val (.int (Int32.ofNat (nf + nd))), .val (.int (Int32.ofNat nd)), .val (.int (Int32.ofNat nk)), .val (.ref b352), .val (.int (Int32.ofNat nr)), .val (.int (1 : Int32))] []))
    refine own_go (fun _ ww => XS.iconst X377.here hx rfl (hb hby at_286) ww) ?_
    show own_Goes _ _ _ _ _ _ _ (T377.setTop (mkF m 287 #[.val (.long x0), .second, .val (.long x2), .second, .val (.int x4), .val (.ref b326), .val (.ref b345), .val (.int (Int32.ofNat nf)), .val (.int (Int32.ofNat (nf + nd))), .val (.int (Int32.ofNat nd)), .val (.int (Int32.ofNat nk)), .val (.ref b352), .val (.int (Int32.ofNat nr)), .val (.int (1 : Int32))] [(.int (1 : Int32))]))
    refine own_go (fun _ ww => XS.goto X377.here hx rfl (pc0 := 287) (pc' := 291) rfl (hb hby at_287) (by decide) (by decide) ww) ?_
    show own_Goes _ _ _ _ _ _ _ (T377.setTop (mkF m 291 #[.val (.long x0), .second, .val (.long x2), .second, .val (.int x4), .val (.ref b326), .val (.ref b345), .val (.int (Int32.ofNat nf)), .val (.int (Int32.ofNat (nf + nd))), .val (.int (Int32.ofNat nd)), .val (.int (Int32.ofNat nk)), .val (.ref b352), .val (.int (Int32.ofNat nr)), .val (.int (1 : Int32))] [(.int (1 : Int32))]))
    exact own_out X377 hlk (v := some (.int (1 : Int32))) (fun h => by rw [hret] at h; cases h) (fun fs hr => retOut X377 hx (t := .boolean) hret (by decide) (Or.inl ⟨rfl, by simp, _, rfl⟩) (hb hby at_291) hr) e377 ⟨rfl, N377⟩ (by decide) (by decide)
set_option maxRecDepth 65536 in
set_option maxHeartbeats 40000000 in
theorem comes_1 {Post : Tables → Env → Array Value → State → Outcome → State → Prop} (hpost : ∀ tb e args s v u, (limb_1_1.after args s (.returned v) u = true ∧ limb_1_2.after args s (.returned v) u = true ∧ True) → FrameEnd s (.returned v) u (Jvm.fieldLocs frame_1_writes args s ++ Jvm.arrayLocs frame_1_arrays args s ++ Jvm.staticLocs frame_1_statics s) 24 128 → Post tb e args s (.returned v) u) :
    ArmFor flags0 classFile x code maxLocals ret World_1 tables_1 room_1 Calls_1 rest_1 Pre_1 Post := by
  intro l hfl _ _ p e ha hc hk s m args below hf hA hF happ hP
  obtain ⟨hcalls, hrest, hpre⟩ := hP
  obtain ⟨-, -, -, hnamed, -, -, -, hat⟩ := (Spec.applies_iff hf).mp happ
  obtain ⟨hg, hn⟩ := and_e (Cond.before_iff.mp (show (Jvm.Cond.and given_1 narrow_1).before args s = true from hpre))
  obtain ⟨q1, q2⟩ := and_e hg
  obtain ⟨q3, q4⟩ := and_e q2
  obtain ⟨q5, q6⟩ := and_e q4
  obtain ⟨w0, w1, w2, rfl⟩ : ∃ w0 w1 w2 : Value, args = #[w0, w1, w2] := by
    have hs : args.size = 3 := by simpa [Cond.value, given_1] using q1
    obtain ⟨L⟩ := args
    match L, hs with
    | [w0, w1, w2], _ => exact ⟨w0, w1, w2, rfl⟩
  have hw := fun d (hd : d ∈ tables_1) => atoms_spec (ws := Jvm.Cond.code x code maxLocals ret :: tables_1) hat d (List.mem_cons_of_mem _ hd)
  have hfit : Fit s := fun {y c} hc i hi => by
    obtain ⟨ha, rfl⟩ := Array.getElem?_eq_some_iff.mp hc
    have q := List.all_eq_true.mp ((Array.all_eq_true_iff_forall_mem.mp hF) _ (Array.getElem_mem ha)) i (List.mem_range.mpr hi)
    simpa [Array.getElem?_eq_getElem hi] using q
  obtain ⟨hsets, hown0⟩ := atoms_of _ (rest_1_c_eq ▸ (show rest_1_c.before _ s = true from hrest))
  obtain ⟨i0, ei0⟩ := isL_v q3
  obtain rfl : w0 = (.long i0) := Option.some.inj ei0
  obtain ⟨i1, ei1⟩ := isL_v q5
  obtain rfl : w1 = (.long i1) := Option.some.inj ei1
  obtain ⟨i2, ei2⟩ := is_v q6
  obtain rfl : w2 = (.int i2) := Option.some.inj ei2
  have qs1 := Cond.before_iff.mp (hsets _ (List.mem_of_getElem? (i := 1) rfl))
  have qs2 := Cond.before_iff.mp (hsets _ (List.mem_of_getElem? (i := 2) rfl))
  have qs8 := Cond.before_iff.mp (hsets _ (List.mem_of_getElem? (i := 8) rfl))
  have qs12 := Cond.before_iff.mp (hsets _ (List.mem_of_getElem? (i := 12) rfl))
  have qs15 := Cond.before_iff.mp (hsets _ (List.mem_of_getElem? (i := 15) rfl))
  have qs18 := Cond.before_iff.mp (hsets _ (List.mem_of_getElem? (i := 18) rfl))
  obtain ⟨zc, SC, hzc⟩ := own_compact qs1 qs2 (hsets _ (List.mem_of_getElem? (i := 0) rfl))
  obtain ⟨fm, evf, rfm⟩ := isR_v qs8
  have SF : Sta s s.heap "jdk/internal/util/Preconditions" "SIOOBE_FORMATTER" "Ljava/util/function/BiFunction;" fm := Sta.start evf (Or.inl (hsets _ (List.mem_of_getElem? (i := 7) rfl)))
  have SA : Sta s s.heap "java/lang/StringUTF16" "$assertionsDisabled" "Z" (.int (1 : Int32)) := Sta.start (own_eqI qs12) (Or.inl (hsets _ (List.mem_of_getElem? (i := 11) rfl)))
  have SH : Sta s s.heap "java/lang/StringUTF16" "HI_BYTE_SHIFT" "I" (.int (0 : Int32)) := Sta.start (own_eqI qs15) (Or.inl (hsets _ (List.mem_of_getElem? (i := 14) rfl)))
  have SLo : Sta s s.heap "java/lang/StringUTF16" "LO_BYTE_SHIFT" "I" (.int (8 : Int32)) := Sta.start (own_eqI qs18) (Or.inl (hsets _ (List.mem_of_getElem? (i := 17) rfl)))
  obtain ⟨n, o, h1, h2, h3, _, L, rfl, ⟨rfl, N⟩, hq⟩ := rm_law l s _ hw tables_1 i0 i1 i2 zc fm s.heap s.heap.size (Old.start s) SC hzc SA SH SLo rfm SF p e ha hc hk s m _ below hf ((Spec.applies_iff_loose hf).mp happ).1 ⟨rfl, State.Warmed39.refl s, rfl⟩ trivial
  refine ⟨n, _, h1, h2, h3, hpost _ _ _ _ _ _ ⟨Cond.after_iff.mpr rfl, Cond.after_iff.mpr (eq_i res_at (Term.int_eval (1)) rfl), trivial⟩ ⟨hq.1, hq.2.1, (hq.2.2.sift fun y hy => Or.inr (N y hy)).mono (by decide) (by decide)⟩⟩
theorem main_1_1 : Claimed_1_1 := comes_1 fun _ _ _ _ _ _ h hF => ⟨h.1, hF⟩
theorem main_1_2 : Claimed_1_2 := comes_1 fun _ _ _ _ _ _ h hF => ⟨h.2.1, hF⟩
end Jvm.Pilot.@@N@@
namespace Jvm.Pilot.@@N@@
open Jvm Jvm.ClassFile Sem Op Lib Jvm.Free Jvm.Stand Jvm.Pilot.@@N@@.Jvm.D
/-! MADE BY PROGRAM (witnessworld.py) out of the Statement's table words and the real class files: 22 classes; the members and pool entries that the words name. The judged class is class 1, her method 4. -/
namespace start1
open Jvm.ClassFile
def u (s : String) : CpInfo := .utf8 (stringToUtf16 s)
/-- a pool by its gaps: so many unusable entries, then the entry; so many at the end -/
def gap : Nat → List CpInfo → List CpInfo
  | 0, r => r
  | n + 1, r => .unusable :: gap n r
def poolList (es : List (Nat × CpInfo)) (last : Nat) : List CpInfo := es.foldr (fun e r => gap e.1 (e.2 :: r)) (gap last [])
def pool (es : List (Nat × CpInfo)) (last : Nat) : Array CpInfo := ⟨poolList es last⟩
def fileOf (pool : Array CpInfo) (this : Nat) (attrs : Array Attribute := #[]) (ms : Array MethodInfo := #[]) (fl : Nat := 33) (sup : Nat := 0) (ifs : Array Nat := #[]) (fds : Array FieldInfo := #[]) : ClassFile where
  minorVersion := 0
  majorVersion := 65
  constantPool := pool
  accessFlags := fl
  thisClass := this
  superClass := sup
  interfaces := ifs
  fields := fds
  methods := ms
  attributes := attrs
def plain (name : String) (sup : Option ClassId) : Class where
  name := name
  kind := .ordinary
  loader := none
  accessFlags := 33
  super := sup
  interfaces := #[]
  cf := none
  fields := #[]
  methods := #[]
  instanceTypes := #[]
  staticTypes := #[]
  resolved := #[]
  callSites := []
  init := .initialized
  statics := none
  mirror := none

def pool0 : Array CpInfo := pool [(5, u "<init>"), (0, u "()V"), (1, .class_ 10), (1, u "java/lang/Object")] 113

def k0c0 : Code := { maxStack := 0, maxLocals := 1, code := object_method_1_code, exceptionTable := #[], attributes := #[] }
def k0m0 : Method := { name := "<init>", desc := "()V", sig := { parameters := [], returnType := none }, accessFlags := 1, code := some k0c0 }
/-- java/lang/Object -/
def k0 : Class := { plain "java/lang/Object" none with
  accessFlags := 33
  interfaces := #[]
  cf := some (fileOf pool0 8 #[] #[{ accessFlags := 1, nameIndex := 5, descriptorIndex := 6, attributes := #[] }] 33 0 #[] #[])
  fields := #[]
  methods := #[k0m0]
  instanceTypes := #[]
  staticTypes := #[]
  resolved := Array.replicate 124 none
  statics := none }

def pool1 : Array CpInfo := pool [(2, .class_ 4), (1, u "java/lang/Object"), (0, u "<init>"), (0, u "()V"), (0, .long 131071), (1, .long 65535), (1, .long 65536), (1, .methodref 14 15), (0, .class_ 16), (0, .nameAndType 17 18), (0, u "org/graticule/read/SpanDigitsEndPinLaw"), (0, u "isAsciiDigit"), (0, u "(C)Z"), (0, .methodref 14 20), (0, .nameAndType 21 22), (0, u "ch"), (0, u "(JI)C"), (0, .class_ 24), (0, u "java/lang/String"), (0, .methodref 23 26), (0, .nameAndType 5 27), (0, u "([C)V"), (0, .class_ 29), (0, u "org/graticule/read/Span"), (0, .methodref 28 31), (0, .nameAndType 5 32), (0, u "(Ljava/lang/String;II)V"), (0, .methodref 28 34), (0, .nameAndType 35 36), (0, u "digitsEnd"), (0, u "(I)I"), (0, .methodref 14 38), (0, .nameAndType 39 40), (0, u "ok"), (0, u "(IIII[C)Z"), (3, u "law"), (0, u "(JJI)Z")] 4

def k1m0 : Method := { name := "<init>", desc := "()V", sig := { parameters := [], returnType := none }, accessFlags := 1, code := none }
def k1c1 : Code := { maxStack := 4, maxLocals := 6, code := method_2_code, exceptionTable := #[], attributes := #[] }
def k1m1 : Method := { name := "ch", desc := "(JI)C", sig := { parameters := [.long, .int], returnType := some .char }, accessFlags := 10, code := some k1c1 }
def k1c2 : Code := { maxStack := 2, maxLocals := 1, code := method_3_code, exceptionTable := #[], attributes := #[] }
def k1m2 : Method := { name := "isAsciiDigit", desc := "(C)Z", sig := { parameters := [.char], returnType := some .boolean }, accessFlags := 10, code := some k1c2 }
def k1c3 : Code := { maxStack := 3, maxLocals := 5, code := method_4_code, exceptionTable := #[], attributes := #[] }
def k1m3 : Method := { name := "ok", desc := "(IIII[C)Z", sig := { parameters := [.int, .int, .int, .int, (.array .char)], returnType := some .boolean }, accessFlags := 10, code := some k1c3 }
def k1c4 : Code := { maxStack := 5, maxLocals := 14, code := code, exceptionTable := #[], attributes := #[] }
def k1m4 : Method := { name := "law", desc := "(JJI)Z", sig := { parameters := [.long, .long, .int], returnType := some .boolean }, accessFlags := 9, code := some k1c4 }
/-- org/graticule/read/SpanDigitsEndPinLaw -/
def k1 : Class := { plain "org/graticule/read/SpanDigitsEndPinLaw" (some 0) with
  accessFlags := 49
  interfaces := #[]
  cf := some (fileOf pool1 14 #[] #[{ accessFlags := 1, nameIndex := 5, descriptorIndex := 6, attributes := #[] }, { accessFlags := 10, nameIndex := 21, descriptorIndex := 22, attributes := #[] }, { accessFlags := 10, nameIndex := 17, descriptorIndex := 18, attributes := #[] }, { accessFlags := 10, nameIndex := 39, descriptorIndex := 40, attributes := #[] }, { accessFlags := 9, nameIndex := 44, descriptorIndex := 45, attributes := #[] }] 49 2 #[] #[])
  fields := #[]
  methods := #[k1m0, k1m1, k1m2, k1m3, k1m4]
  instanceTypes := #[]
  staticTypes := #[]
  resolved := Array.replicate 50 none
  statics := none }

def pool2 : Array CpInfo := pool [(1, .class_ 2), (0, u "java/io/Serializable"), (0, .class_ 4), (0, u "java/lang/Object")] 2

/-- java/io/Serializable -/
def k2 : Class := { plain "java/io/Serializable" (some 0) with
  accessFlags := 1537
  interfaces := #[]
  cf := some (fileOf pool2 1 #[] #[] 1537 3 #[] #[])
  fields := #[]
  methods := #[]
  instanceTypes := #[]
  staticTypes := #[]
  resolved := Array.replicate 7 none
  statics := none }

def pool3 : Array CpInfo := pool [(1, .class_ 2), (0, u "java/lang/Comparable"), (0, .class_ 4), (0, u "java/lang/Object")] 7

/-- java/lang/Comparable -/
def k3 : Class := { plain "java/lang/Comparable" (some 0) with
  accessFlags := 1537
  interfaces := #[]
  cf := some (fileOf pool3 1 #[] #[] 1537 3 #[] #[])
  fields := #[]
  methods := #[]
  instanceTypes := #[]
  staticTypes := #[]
  resolved := Array.replicate 12 none
  statics := none }

def pool4 : Array CpInfo := pool [(2, .class_ 4), (1, u "java/lang/CharSequence"), (42, .class_ 48), (0, u "java/lang/CharSequence$1CodePointIterator"), (10, .class_ 60), (0, u "java/lang/CharSequence$1CharIterator"), (5, .class_ 67), (0, u "java/lang/Object")] 63

/-- java/lang/CharSequence -/
def k4 : Class := { plain "java/lang/CharSequence" (some 0) with
  accessFlags := 1537
  interfaces := #[]
  cf := some (fileOf pool4 2 #[.nestMembers #[47, 59]] #[] 1537 66 #[] #[])
  fields := #[]
  methods := #[]
  instanceTypes := #[]
  staticTypes := #[]
  resolved := Array.replicate 131 none
  statics := none }

def pool5 : Array CpInfo := pool [(1, .class_ 2), (0, u "java/lang/constant/Constable"), (0, .class_ 4), (0, u "java/lang/Object")] 6

/-- java/lang/constant/Constable -/
def k5 : Class := { plain "java/lang/constant/Constable" (some 0) with
  accessFlags := 1537
  interfaces := #[]
  cf := some (fileOf pool5 1 #[] #[] 1537 3 #[] #[])
  fields := #[]
  methods := #[]
  instanceTypes := #[]
  staticTypes := #[]
  resolved := Array.replicate 11 none
  statics := none }

def pool6 : Array CpInfo := pool [(1, .class_ 2), (0, u "java/lang/constant/ConstantDesc"), (0, .class_ 4), (0, u "java/lang/Object")] 32

/-- java/lang/constant/ConstantDesc -/
def k6 : Class := { plain "java/lang/constant/ConstantDesc" (some 0) with
  accessFlags := 1537
  interfaces := #[]
  cf := some (fileOf pool6 1 #[] #[] 1537 3 #[] #[])
  fields := #[]
  methods := #[]
  instanceTypes := #[]
  staticTypes := #[]
  resolved := Array.replicate 37 none
  statics := none }

def pool7 : Array CpInfo := pool [(1, .methodref 2 3), (0, .class_ 4), (0, .nameAndType 5 6), (0, u "java/lang/Object"), (0, u "<init>"), (0, u "()V"), (2, .fieldref 10 11), (0, .class_ 12), (0, .nameAndType 13 14), (0, u "java/lang/String"), (0, u "value"), (0, u "[B"), (0, .fieldref 10 16), (0, .nameAndType 17 18), (0, u "coder"), (0, u "B"), (2, u "hash"), (0, u "I"), (2, u "hashIsZero"), (0, u "Z"), (0, .methodref 10 28), (0, .nameAndType 5 29), (0, u "([CIILjava/lang/Void;)V"), (8, .fieldref 10 39), (0, .nameAndType 40 26), (0, u "COMPACT_STRINGS"), (1, .class_ 44), (1, u "java/lang/StringUTF16"), (0, u "compress"), (1, .methodref 42 48), (0, .nameAndType 49 50), (0, u "coderFromArrayLen"), (0, u "([BI)B"), (56, .class_ 109), (1, u "java/lang/StringLatin1"), (32, u "()Z"), (34, .methodref 42 178), (0, .nameAndType 45 179), (0, u "([CII)[B"), (154, u "()I"), (0, .methodref 10 336), (0, .nameAndType 17 337), (0, u "()B"), (25, u "([BI)C"), (27, u "(II)V"), (35, u "(I)C"), (64, .methodref 10 493), (0, .nameAndType 494 142), (0, u "isLatin1"), (0, .methodref 107 496), (0, .nameAndType 497 363), (0, u "charAt"), (0, .methodref 42 496), (2, u "checkIndex"), (5, u "length"), (67, .class_ 576), (0, u "java/lang/CharSequence"), (22, u "CASE_INSENSITIVE_ORDER"), (0, u "Ljava/util/Comparator;"), (409, u "([C)V"), (42, .fieldref 1054 1055), (0, .class_ 1056), (0, .nameAndType 1057 1058), (0, u "jdk/internal/util/Preconditions"), (0, u "SIOOBE_FORMATTER"), (0, u "Ljava/util/function/BiFunction;"), (0, .methodref 1054 1060), (0, .nameAndType 501 1061), (0, u "(IILjava/util/function/BiFunction;)I"), (39, u "serialPersistentFields"), (0, u "[Ljava/io/ObjectStreamField;"), (0, .class_ 1104), (0, u "java/lang/String$CaseInsensitiveComparator"), (1, .class_ 1107), (0, u "java/io/Serializable"), (0, .class_ 1109), (0, u "java/lang/Comparable"), (0, .class_ 1111), (0, u "java/lang/constant/Constable"), (0, .class_ 1113), (0, u "java/lang/constant/ConstantDesc"), (2, u "serialVersionUID"), (0, u "J"), (3, u "REPL"), (0, u "C"), (2, u "LATIN1"), (1, u "UTF16")] 323

def k7m0 : Method := { name := "<init>", desc := "()V", sig := { parameters := [], returnType := none }, accessFlags := 1, code := none }
def k7c1 : Code := { maxStack := 5, maxLocals := 2, code := jdk_42_method_3_code, exceptionTable := #[], attributes := #[] }
def k7m1 : Method := { name := "<init>", desc := "([C)V", sig := { parameters := [(.array .char)], returnType := none }, accessFlags := 1, code := some k7c1 }
def k7c2 : Code := { maxStack := 2, maxLocals := 1, code := jdk_42_method_54_code, exceptionTable := #[], attributes := #[] }
def k7m2 : Method := { name := "length", desc := "()I", sig := { parameters := [], returnType := some .int }, accessFlags := 1, code := some k7c2 }
def k7c3 : Code := { maxStack := 2, maxLocals := 2, code := jdk_42_method_56_code, exceptionTable := #[], attributes := #[] }
def k7m3 : Method := { name := "charAt", desc := "(I)C", sig := { parameters := [.int], returnType := some .char }, accessFlags := 1, code := some k7c3 }
def k7c4 : Code := { maxStack := 4, maxLocals := 6, code := jdk_42_method_149_code, exceptionTable := #[], attributes := #[] }
def k7m4 : Method := { name := "<init>", desc := "([CIILjava/lang/Void;)V", sig := { parameters := [(.array .char), .int, .int, (.object "java/lang/Void")], returnType := none }, accessFlags := 2, code := some k7c4 }
def k7c5 : Code := { maxStack := 1, maxLocals := 1, code := jdk_42_method_152_code, exceptionTable := #[], attributes := #[] }
def k7m5 : Method := { name := "coder", desc := "()B", sig := { parameters := [], returnType := some .byte }, accessFlags := 0, code := some k7c5 }
def k7c6 : Code := { maxStack := 1, maxLocals := 1, code := jdk_42_method_154_code, exceptionTable := #[], attributes := #[] }
def k7m6 : Method := { name := "isLatin1", desc := "()Z", sig := { parameters := [], returnType := some .boolean }, accessFlags := 0, code := some k7c6 }
def k7c7 : Code := { maxStack := 3, maxLocals := 2, code := jdk_42_method_155_code, exceptionTable := #[], attributes := #[] }
def k7m7 : Method := { name := "checkIndex", desc := "(II)V", sig := { parameters := [.int, .int], returnType := none }, accessFlags := 8, code := some k7c7 }
/-- java/lang/String -/
def k7 : Class := { plain "java/lang/String" (some 0) with
  accessFlags := 49
  interfaces := #[2, 3, 4, 5, 6]
  cf := some (fileOf pool7 10 #[.nestMembers #[1103]] #[{ accessFlags := 1, nameIndex := 5, descriptorIndex := 6, attributes := #[] }, { accessFlags := 1, nameIndex := 5, descriptorIndex := 1010, attributes := #[] }, { accessFlags := 1, nameIndex := 507, descriptorIndex := 334, attributes := #[] }, { accessFlags := 1, nameIndex := 497, descriptorIndex := 427, attributes := #[] }, { accessFlags := 2, nameIndex := 5, descriptorIndex := 29, attributes := #[] }, { accessFlags := 0, nameIndex := 17, descriptorIndex := 337, attributes := #[] }, { accessFlags := 0, nameIndex := 494, descriptorIndex := 142, attributes := #[] }, { accessFlags := 8, nameIndex := 501, descriptorIndex := 391, attributes := #[] }] 49 2 #[1106, 1108, 575, 1110, 1112] #[{ accessFlags := 18, nameIndex := 13, descriptorIndex := 14, attributes := #[] }, { accessFlags := 18, nameIndex := 17, descriptorIndex := 18, attributes := #[] }, { accessFlags := 2, nameIndex := 21, descriptorIndex := 22, attributes := #[] }, { accessFlags := 2, nameIndex := 25, descriptorIndex := 26, attributes := #[] }, { accessFlags := 26, nameIndex := 1116, descriptorIndex := 1117, attributes := #[] }, { accessFlags := 24, nameIndex := 40, descriptorIndex := 26, attributes := #[] }, { accessFlags := 26, nameIndex := 1101, descriptorIndex := 1102, attributes := #[] }, { accessFlags := 26, nameIndex := 1121, descriptorIndex := 1122, attributes := #[] }, { accessFlags := 25, nameIndex := 599, descriptorIndex := 600, attributes := #[] }, { accessFlags := 24, nameIndex := 1125, descriptorIndex := 18, attributes := #[] }, { accessFlags := 24, nameIndex := 1127, descriptorIndex := 18, attributes := #[] }])
  fields := #[{ name := "value", type := (.array .byte), accessFlags := 18, slot := 0, constantValue := 0 }, { name := "coder", type := .byte, accessFlags := 18, slot := 1, constantValue := 0 }, { name := "hash", type := .int, accessFlags := 2, slot := 2, constantValue := 0 }, { name := "hashIsZero", type := .boolean, accessFlags := 2, slot := 3, constantValue := 0 }, { name := "serialVersionUID", type := .long, accessFlags := 26, slot := 0, constantValue := 0 }, { name := "COMPACT_STRINGS", type := .boolean, accessFlags := 24, slot := 1, constantValue := 0 }, { name := "serialPersistentFields", type := (.array (.object "java/io/ObjectStreamField")), accessFlags := 26, slot := 2, constantValue := 0 }, { name := "REPL", type := .char, accessFlags := 26, slot := 3, constantValue := 0 }, { name := "CASE_INSENSITIVE_ORDER", type := (.object "java/util/Comparator"), accessFlags := 25, slot := 4, constantValue := 0 }, { name := "LATIN1", type := .byte, accessFlags := 24, slot := 5, constantValue := 0 }, { name := "UTF16", type := .byte, accessFlags := 24, slot := 6, constantValue := 0 }]
  methods := #[k7m0, k7m1, k7m2, k7m3, k7m4, k7m5, k7m6, k7m7]
  instanceTypes := #[(.array .byte), .byte, .int, .boolean]
  staticTypes := #[.long, .boolean, (.array (.object "java/io/ObjectStreamField")), .char, (.object "java/util/Comparator"), .byte, .byte]
  resolved := Array.replicate 1451 none
  statics := some 0 }

def pool8 : Array CpInfo := pool [(3, .class_ 4), (0, u "java/lang/String"), (1, .class_ 8), (1, u "java/lang/Object"), (0, u "<init>"), (0, u "()V"), (0, .methodref 12 13), (0, .class_ 14), (0, .nameAndType 15 16), (0, u "java/lang/StringUTF16"), (0, u "newBytesLength"), (0, u "(I)I"), (3, .integer 1073741823), (23, .fieldref 12 45), (0, .nameAndType 46 47), (0, u "$assertionsDisabled"), (0, u "Z"), (0, .methodref 12 49), (0, .nameAndType 50 51), (0, u "length"), (0, u "([B)I"), (7, .fieldref 12 60), (0, .nameAndType 61 62), (0, u "HI_BYTE_SHIFT"), (0, u "I"), (0, .fieldref 12 64), (0, .nameAndType 65 62), (0, u "LO_BYTE_SHIFT"), (1, .methodref 12 68), (0, .nameAndType 69 70), (0, u "checkIndex"), (0, u "(I[B)V"), (0, .methodref 12 72), (0, .nameAndType 73 74), (0, u "getChar"), (0, u "([BI)C"), (32, .methodref 12 108), (0, .nameAndType 109 110), (0, u "newBytesFor"), (0, u "(I)[B"), (0, .methodref 12 112), (0, .nameAndType 113 114), (0, u "putChar"), (0, u "([BII)V"), (0, .methodref 12 116), (0, .nameAndType 117 118), (0, u "compress"), (0, u "([CI[BII)I"), (0, .methodref 12 120), (0, .nameAndType 121 122), (0, u "toBytes"), (0, u "([CII)[B"), (138, u "coderFromArrayLen"), (0, u "([BI)B"), (106, .class_ 371), (1, u "java/lang/StringUTF16$LinesSpliterator"), (20, u "charAt"), (21, .methodref 3 415), (0, .nameAndType 69 416), (0, u "(II)V"), (13, u "MAX_LENGTH"), (196, .class_ 628), (0, u "java/lang/StringUTF16$CodePointsSpliterator"), (0, .class_ 630), (0, u "java/lang/StringUTF16$CharsSpliterator")] 4

def k8m0 : Method := { name := "<init>", desc := "()V", sig := { parameters := [], returnType := none }, accessFlags := 0, code := none }
def k8c1 : Code := { maxStack := 1, maxLocals := 1, code := jdk_52_method_2_code, exceptionTable := #[], attributes := #[] }
def k8m1 : Method := { name := "newBytesFor", desc := "(I)[B", sig := { parameters := [.int], returnType := some (.array .byte) }, accessFlags := 9, code := some k8c1 }
def k8c2 : Code := { maxStack := 4, maxLocals := 1, code := jdk_52_method_3_code, exceptionTable := #[], attributes := #[] }
def k8m2 : Method := { name := "newBytesLength", desc := "(I)I", sig := { parameters := [.int], returnType := some .int }, accessFlags := 9, code := some k8c2 }
def k8c3 : Code := { maxStack := 4, maxLocals := 3, code := jdk_52_method_4_code, exceptionTable := #[], attributes := #[] }
def k8m3 : Method := { name := "putChar", desc := "([BII)V", sig := { parameters := [(.array .byte), .int, .int], returnType := none }, accessFlags := 8, code := some k8c3 }
def k8c4 : Code := { maxStack := 3, maxLocals := 2, code := jdk_52_method_5_code, exceptionTable := #[], attributes := #[] }
def k8m4 : Method := { name := "getChar", desc := "([BI)C", sig := { parameters := [(.array .byte), .int], returnType := some .char }, accessFlags := 8, code := some k8c4 }
def k8c5 : Code := { maxStack := 2, maxLocals := 1, code := jdk_52_method_6_code, exceptionTable := #[], attributes := #[] }
def k8m5 : Method := { name := "length", desc := "([B)I", sig := { parameters := [(.array .byte)], returnType := some .int }, accessFlags := 9, code := some k8c5 }
def k8c6 : Code := { maxStack := 4, maxLocals := 5, code := jdk_52_method_14_code, exceptionTable := #[], attributes := #[] }
def k8m6 : Method := { name := "toBytes", desc := "([CII)[B", sig := { parameters := [(.array .char), .int, .int], returnType := some (.array .byte) }, accessFlags := 9, code := some k8c6 }
def k8c7 : Code := { maxStack := 2, maxLocals := 2, code := jdk_52_method_15_code, exceptionTable := #[], attributes := #[] }
def k8m7 : Method := { name := "coderFromArrayLen", desc := "([BI)B", sig := { parameters := [(.array .byte), .int], returnType := some .byte }, accessFlags := 8, code := some k8c7 }
def k8c8 : Code := { maxStack := 5, maxLocals := 6, code := jdk_52_method_16_code, exceptionTable := #[], attributes := #[] }
def k8m8 : Method := { name := "compress", desc := "([CII)[B", sig := { parameters := [(.array .char), .int, .int], returnType := some (.array .byte) }, accessFlags := 9, code := some k8c8 }
def k8c9 : Code := { maxStack := 3, maxLocals := 7, code := jdk_52_method_21_code, exceptionTable := #[], attributes := #[] }
def k8m9 : Method := { name := "compress", desc := "([CI[BII)I", sig := { parameters := [(.array .char), .int, (.array .byte), .int, .int], returnType := some .int }, accessFlags := 9, code := some k8c9 }
def k8c10 : Code := { maxStack := 2, maxLocals := 2, code := jdk_52_method_83_code, exceptionTable := #[], attributes := #[] }
def k8m10 : Method := { name := "charAt", desc := "([BI)C", sig := { parameters := [(.array .byte), .int], returnType := some .char }, accessFlags := 9, code := some k8c10 }
def k8c11 : Code := { maxStack := 2, maxLocals := 2, code := jdk_52_method_91_code, exceptionTable := #[], attributes := #[] }
def k8m11 : Method := { name := "checkIndex", desc := "(I[B)V", sig := { parameters := [.int, (.array .byte)], returnType := none }, accessFlags := 9, code := some k8c11 }
/-- java/lang/StringUTF16 -/
def k8 : Class := { plain "java/lang/StringUTF16" (some 0) with
  accessFlags := 48
  interfaces := #[]
  cf := some (fileOf pool8 12 #[.nestMembers #[627, 629, 369]] #[{ accessFlags := 0, nameIndex := 9, descriptorIndex := 10, attributes := #[] }, { accessFlags := 9, nameIndex := 109, descriptorIndex := 110, attributes := #[] }, { accessFlags := 9, nameIndex := 15, descriptorIndex := 16, attributes := #[] }, { accessFlags := 8, nameIndex := 113, descriptorIndex := 114, attributes := #[] }, { accessFlags := 8, nameIndex := 73, descriptorIndex := 74, attributes := #[] }, { accessFlags := 9, nameIndex := 50, descriptorIndex := 51, attributes := #[] }, { accessFlags := 9, nameIndex := 121, descriptorIndex := 122, attributes := #[] }, { accessFlags := 8, nameIndex := 261, descriptorIndex := 262, attributes := #[] }, { accessFlags := 9, nameIndex := 117, descriptorIndex := 122, attributes := #[] }, { accessFlags := 9, nameIndex := 117, descriptorIndex := 118, attributes := #[] }, { accessFlags := 9, nameIndex := 392, descriptorIndex := 74, attributes := #[] }, { accessFlags := 9, nameIndex := 69, descriptorIndex := 70, attributes := #[] }] 48 6 #[] #[{ accessFlags := 26, nameIndex := 61, descriptorIndex := 62, attributes := #[] }, { accessFlags := 26, nameIndex := 65, descriptorIndex := 62, attributes := #[] }, { accessFlags := 24, nameIndex := 430, descriptorIndex := 62, attributes := #[] }, { accessFlags := 4120, nameIndex := 46, descriptorIndex := 47, attributes := #[] }])
  fields := #[{ name := "HI_BYTE_SHIFT", type := .int, accessFlags := 26, slot := 0, constantValue := 0 }, { name := "LO_BYTE_SHIFT", type := .int, accessFlags := 26, slot := 1, constantValue := 0 }, { name := "MAX_LENGTH", type := .int, accessFlags := 24, slot := 2, constantValue := 0 }, { name := "$assertionsDisabled", type := .boolean, accessFlags := 4120, slot := 3, constantValue := 0 }]
  methods := #[k8m0, k8m1, k8m2, k8m3, k8m4, k8m5, k8m6, k8m7, k8m8, k8m9, k8m10, k8m11]
  instanceTypes := #[]
  staticTypes := #[.int, .int, .int, .boolean]
  resolved := Array.replicate 635 none
  statics := some 1 }

def pool9 : Array CpInfo := pool [(1, .methodref 2 3), (0, .class_ 4), (0, .nameAndType 5 6), (0, u "java/lang/Object"), (0, u "<init>"), (0, u "()V"), (0, .class_ 8), (0, u "java/lang/Record")] 13

def k9c0 : Code := { maxStack := 1, maxLocals := 1, code := jdk_30_method_1_code, exceptionTable := #[], attributes := #[] }
def k9m0 : Method := { name := "<init>", desc := "()V", sig := { parameters := [], returnType := none }, accessFlags := 4, code := some k9c0 }
/-- java/lang/Record -/
def k9 : Class := { plain "java/lang/Record" (some 0) with
  accessFlags := 1057
  interfaces := #[]
  cf := some (fileOf pool9 7 #[] #[{ accessFlags := 4, nameIndex := 5, descriptorIndex := 6, attributes := #[] }] 1057 2 #[] #[])
  fields := #[]
  methods := #[k9m0]
  instanceTypes := #[]
  staticTypes := #[]
  resolved := Array.replicate 22 none
  statics := none }

def pool10 : Array CpInfo := pool [(1, .methodref 2 3), (0, .class_ 4), (0, .nameAndType 5 6), (0, u "java/lang/Record"), (0, u "<init>"), (0, u "()V"), (0, .methodref 8 9), (0, .class_ 10), (0, .nameAndType 11 12), (0, u "java/lang/String"), (0, u "length"), (0, u "()I"), (0, .methodref 14 15), (0, .class_ 16), (0, .nameAndType 17 18), (0, u "java/util/Objects"), (0, u "checkFromToIndex"), (0, u "(III)I"), (0, .fieldref 20 21), (0, .class_ 22), (0, .nameAndType 23 24), (0, u "org/graticule/read/Span"), (0, u "text"), (0, u "Ljava/lang/String;"), (0, .fieldref 20 26), (0, .nameAndType 27 28), (0, u "from"), (0, u "I"), (0, .fieldref 20 30), (0, .nameAndType 31 28), (0, u "to"), (2, u "(Ljava/lang/String;II)V"), (5, .methodref 8 41), (0, .nameAndType 42 43), (0, u "charAt"), (0, u "(I)C"), (38, .class_ 83), (0, u "java/lang/CharSequence"), (14, u "digitsEnd"), (0, u "(I)I")] 25

def k10c0 : Code := { maxStack := 3, maxLocals := 4, code := prog_17_method_1_code, exceptionTable := #[], attributes := #[] }
def k10m0 : Method := { name := "<init>", desc := "(Ljava/lang/String;II)V", sig := { parameters := [(.object "java/lang/String"), .int, .int], returnType := none }, accessFlags := 0, code := some k10c0 }
def k10c1 : Code := { maxStack := 2, maxLocals := 3, code := prog_17_method_11_code, exceptionTable := #[], attributes := #[] }
def k10m1 : Method := { name := "digitsEnd", desc := "(I)I", sig := { parameters := [.int], returnType := some .int }, accessFlags := 0, code := some k10c1 }
/-- org/graticule/read/Span -/
def k10 : Class := { plain "org/graticule/read/Span" (some 9) with
  accessFlags := 48
  interfaces := #[4]
  cf := some (fileOf pool10 20 #[] #[{ accessFlags := 0, nameIndex := 5, descriptorIndex := 34, attributes := #[] }, { accessFlags := 0, nameIndex := 98, descriptorIndex := 99, attributes := #[] }] 48 2 #[82] #[{ accessFlags := 18, nameIndex := 23, descriptorIndex := 24, attributes := #[] }, { accessFlags := 18, nameIndex := 27, descriptorIndex := 28, attributes := #[] }, { accessFlags := 18, nameIndex := 31, descriptorIndex := 28, attributes := #[] }])
  fields := #[{ name := "text", type := (.object "java/lang/String"), accessFlags := 18, slot := 0, constantValue := 0 }, { name := "from", type := .int, accessFlags := 18, slot := 1, constantValue := 0 }, { name := "to", type := .int, accessFlags := 18, slot := 2, constantValue := 0 }]
  methods := #[k10m0, k10m1]
  instanceTypes := #[(.object "java/lang/String"), .int, .int]
  staticTypes := #[]
  resolved := Array.replicate 125 none
  statics := none }

def pool11 : Array CpInfo := pool [(2, .class_ 4), (1, u "java/lang/Object"), (0, u "<init>"), (0, u "()V"), (35, .class_ 44), (1, u "java/util/Objects"), (61, .class_ 108), (1, u "jdk/internal/util/Preconditions"), (2, .methodref 106 112), (0, .nameAndType 113 114), (0, u "checkFromToIndex"), (0, u "(IIILjava/util/function/BiFunction;)I"), (60, u "(III)I")] 8

def k11m0 : Method := { name := "<init>", desc := "()V", sig := { parameters := [], returnType := none }, accessFlags := 2, code := none }
def k11c1 : Code := { maxStack := 4, maxLocals := 3, code := jdk_31_method_18_code, exceptionTable := #[], attributes := #[] }
def k11m1 : Method := { name := "checkFromToIndex", desc := "(III)I", sig := { parameters := [.int, .int, .int], returnType := some .int }, accessFlags := 9, code := some k11c1 }
/-- java/util/Objects -/
def k11 : Class := { plain "java/util/Objects" (some 0) with
  accessFlags := 49
  interfaces := #[]
  cf := some (fileOf pool11 42 #[] #[{ accessFlags := 2, nameIndex := 5, descriptorIndex := 6, attributes := #[] }, { accessFlags := 9, nameIndex := 113, descriptorIndex := 175, attributes := #[] }] 49 2 #[] #[])
  fields := #[]
  methods := #[k11m0, k11m1]
  instanceTypes := #[]
  staticTypes := #[]
  resolved := Array.replicate 184 none
  statics := none }

def pool12 : Array CpInfo := pool [(2, .class_ 4), (1, u "java/lang/Object"), (0, u "<init>"), (0, u "()V"), (17, .class_ 26), (1, u "jdk/internal/util/Preconditions"), (6, u "checkIndex"), (13, u "checkFromToIndex"), (7, .class_ 56), (0, u "jdk/internal/util/Preconditions$4"), (57, .class_ 115), (0, u "jdk/internal/util/Preconditions$1"), (7, u "SIOOBE_FORMATTER"), (0, u "Ljava/util/function/BiFunction;"), (0, .class_ 126), (0, u "jdk/internal/util/Preconditions$2"), (3, u "AIOOBE_FORMATTER"), (0, .class_ 132), (0, u "jdk/internal/util/Preconditions$3"), (3, u "IOOBE_FORMATTER"), (41, u "(IILjava/util/function/BiFunction;)I"), (4, u "(IIILjava/util/function/BiFunction;)I")] 10

def k12m0 : Method := { name := "<init>", desc := "()V", sig := { parameters := [], returnType := none }, accessFlags := 1, code := none }
def k12c1 : Code := { maxStack := 3, maxLocals := 3, code := jdk_41_method_11_code, exceptionTable := #[], attributes := #[] }
def k12m1 : Method := { name := "checkIndex", desc := "(IILjava/util/function/BiFunction;)I", sig := { parameters := [.int, .int, (.object "java/util/function/BiFunction")], returnType := some .int }, accessFlags := 9, code := some k12c1 }
def k12c2 : Code := { maxStack := 4, maxLocals := 4, code := jdk_41_method_12_code, exceptionTable := #[], attributes := #[] }
def k12m2 : Method := { name := "checkFromToIndex", desc := "(IIILjava/util/function/BiFunction;)I", sig := { parameters := [.int, .int, .int, (.object "java/util/function/BiFunction")], returnType := some .int }, accessFlags := 9, code := some k12c2 }
/-- jdk/internal/util/Preconditions -/
def k12 : Class := { plain "jdk/internal/util/Preconditions" (some 0) with
  accessFlags := 33
  interfaces := #[]
  cf := some (fileOf pool12 24 #[.nestMembers #[55, 131, 125, 114]] #[{ accessFlags := 1, nameIndex := 5, descriptorIndex := 6, attributes := #[] }, { accessFlags := 9, nameIndex := 33, descriptorIndex := 178, attributes := #[] }, { accessFlags := 9, nameIndex := 47, descriptorIndex := 183, attributes := #[] }] 33 2 #[] #[{ accessFlags := 25, nameIndex := 123, descriptorIndex := 124, attributes := #[] }, { accessFlags := 25, nameIndex := 130, descriptorIndex := 124, attributes := #[] }, { accessFlags := 25, nameIndex := 136, descriptorIndex := 124, attributes := #[] }])
  fields := #[{ name := "SIOOBE_FORMATTER", type := (.object "java/util/function/BiFunction"), accessFlags := 25, slot := 0, constantValue := 0 }, { name := "AIOOBE_FORMATTER", type := (.object "java/util/function/BiFunction"), accessFlags := 25, slot := 1, constantValue := 0 }, { name := "IOOBE_FORMATTER", type := (.object "java/util/function/BiFunction"), accessFlags := 25, slot := 2, constantValue := 0 }]
  methods := #[k12m0, k12m1, k12m2]
  instanceTypes := #[]
  staticTypes := #[(.object "java/util/function/BiFunction"), (.object "java/util/function/BiFunction"), (.object "java/util/function/BiFunction")]
  resolved := Array.replicate 194 none
  statics := some 2 }

def pool13 : Array CpInfo := pool [(1, .class_ 2), (0, u "java/lang/String"), (1, .class_ 6), (1, u "java/lang/Object"), (0, u "<init>"), (0, u "()V"), (0, .methodref 1 10), (0, .nameAndType 11 12), (0, u "checkIndex"), (0, u "(II)V"), (1, .class_ 16), (1, u "java/lang/StringLatin1"), (36, u "([BI)C"), (67, u "$assertionsDisabled"), (0, u "Z"), (98, .class_ 223), (1, u "java/lang/StringLatin1$LinesSpliterator"), (28, u "charAt"), (137, .class_ 391), (0, u "java/lang/StringLatin1$CharsSpliterator")] 3

def k13m0 : Method := { name := "<init>", desc := "()V", sig := { parameters := [], returnType := none }, accessFlags := 0, code := none }
def k13c1 : Code := { maxStack := 2, maxLocals := 2, code := jdk_43_method_2_code, exceptionTable := #[], attributes := #[] }
def k13m1 : Method := { name := "charAt", desc := "([BI)C", sig := { parameters := [(.array .byte), .int], returnType := some .char }, accessFlags := 9, code := some k13c1 }
/-- java/lang/StringLatin1 -/
def k13 : Class := { plain "java/lang/StringLatin1" (some 0) with
  accessFlags := 48
  interfaces := #[]
  cf := some (fileOf pool13 14 #[.nestMembers #[390, 221]] #[{ accessFlags := 0, nameIndex := 7, descriptorIndex := 8, attributes := #[] }, { accessFlags := 9, nameIndex := 252, descriptorIndex := 53, attributes := #[] }] 48 4 #[] #[{ accessFlags := 4120, nameIndex := 121, descriptorIndex := 122, attributes := #[] }])
  fields := #[{ name := "$assertionsDisabled", type := .boolean, accessFlags := 4120, slot := 0, constantValue := 0 }]
  methods := #[k13m0, k13m1]
  instanceTypes := #[]
  staticTypes := #[.boolean]
  resolved := Array.replicate 395 none
  statics := none }

def pool14 : Array CpInfo := pool [(9, u "<init>"), (6, .class_ 18), (1, u "java/lang/Object"), (0, u "()V"), (1, .class_ 23), (1, u "jdk/internal/util/ArraysSupport"), (0, u "LOG2_ARRAY_LONG_INDEX_SCALE"), (0, u "I"), (2, u "U"), (0, u "Ljdk/internal/misc/Unsafe;"), (8, u "BIG_ENDIAN"), (0, u "Z"), (8, u "LOG2_BYTE_BIT_SIZE"), (4, u "LOG2_ARRAY_INT_INDEX_SCALE"), (54, u "JLA"), (0, u "Ljdk/internal/access/JavaLangAccess;"), (11, u "LOG2_ARRAY_BOOLEAN_INDEX_SCALE"), (9, u "LOG2_ARRAY_BYTE_INDEX_SCALE"), (5, u "LOG2_ARRAY_CHAR_INDEX_SCALE"), (5, u "LOG2_ARRAY_SHORT_INDEX_SCALE"), (18, u "LOG2_ARRAY_FLOAT_INDEX_SCALE"), (24, u "LOG2_ARRAY_DOUBLE_INDEX_SCALE"), (89, u "T_BOOLEAN"), (2, u "T_CHAR"), (1, u "T_FLOAT"), (1, u "T_DOUBLE"), (1, u "T_BYTE"), (1, u "T_SHORT"), (1, u "T_INT"), (1, u "T_LONG"), (1, u "SOFT_MAX_ARRAY_LENGTH")] 83

def k14m0 : Method := { name := "<init>", desc := "()V", sig := { parameters := [], returnType := none }, accessFlags := 2, code := none }
/-- jdk/internal/util/ArraysSupport -/
def k14 : Class := { plain "jdk/internal/util/ArraysSupport" (some 0) with
  accessFlags := 33
  interfaces := #[]
  cf := some (fileOf pool14 21 #[] #[{ accessFlags := 2, nameIndex := 9, descriptorIndex := 19, attributes := #[] }] 33 16 #[] #[{ accessFlags := 24, nameIndex := 28, descriptorIndex := 29, attributes := #[] }, { accessFlags := 26, nameIndex := 38, descriptorIndex := 39, attributes := #[] }, { accessFlags := 25, nameIndex := 121, descriptorIndex := 25, attributes := #[] }, { accessFlags := 25, nameIndex := 131, descriptorIndex := 25, attributes := #[] }, { accessFlags := 25, nameIndex := 137, descriptorIndex := 25, attributes := #[] }, { accessFlags := 25, nameIndex := 143, descriptorIndex := 25, attributes := #[] }, { accessFlags := 25, nameIndex := 53, descriptorIndex := 25, attributes := #[] }, { accessFlags := 25, nameIndex := 24, descriptorIndex := 25, attributes := #[] }, { accessFlags := 25, nameIndex := 162, descriptorIndex := 25, attributes := #[] }, { accessFlags := 25, nameIndex := 187, descriptorIndex := 25, attributes := #[] }, { accessFlags := 26, nameIndex := 48, descriptorIndex := 25, attributes := #[] }, { accessFlags := 25, nameIndex := 277, descriptorIndex := 25, attributes := #[] }, { accessFlags := 25, nameIndex := 280, descriptorIndex := 25, attributes := #[] }, { accessFlags := 25, nameIndex := 282, descriptorIndex := 25, attributes := #[] }, { accessFlags := 25, nameIndex := 284, descriptorIndex := 25, attributes := #[] }, { accessFlags := 25, nameIndex := 286, descriptorIndex := 25, attributes := #[] }, { accessFlags := 25, nameIndex := 288, descriptorIndex := 25, attributes := #[] }, { accessFlags := 25, nameIndex := 290, descriptorIndex := 25, attributes := #[] }, { accessFlags := 25, nameIndex := 292, descriptorIndex := 25, attributes := #[] }, { accessFlags := 26, nameIndex := 108, descriptorIndex := 109, attributes := #[] }, { accessFlags := 25, nameIndex := 294, descriptorIndex := 25, attributes := #[] }])
  fields := #[{ name := "U", type := (.object "jdk/internal/misc/Unsafe"), accessFlags := 24, slot := 0, constantValue := 0 }, { name := "BIG_ENDIAN", type := .boolean, accessFlags := 26, slot := 1, constantValue := 0 }, { name := "LOG2_ARRAY_BOOLEAN_INDEX_SCALE", type := .int, accessFlags := 25, slot := 2, constantValue := 0 }, { name := "LOG2_ARRAY_BYTE_INDEX_SCALE", type := .int, accessFlags := 25, slot := 3, constantValue := 0 }, { name := "LOG2_ARRAY_CHAR_INDEX_SCALE", type := .int, accessFlags := 25, slot := 4, constantValue := 0 }, { name := "LOG2_ARRAY_SHORT_INDEX_SCALE", type := .int, accessFlags := 25, slot := 5, constantValue := 0 }, { name := "LOG2_ARRAY_INT_INDEX_SCALE", type := .int, accessFlags := 25, slot := 6, constantValue := 0 }, { name := "LOG2_ARRAY_LONG_INDEX_SCALE", type := .int, accessFlags := 25, slot := 7, constantValue := 0 }, { name := "LOG2_ARRAY_FLOAT_INDEX_SCALE", type := .int, accessFlags := 25, slot := 8, constantValue := 0 }, { name := "LOG2_ARRAY_DOUBLE_INDEX_SCALE", type := .int, accessFlags := 25, slot := 9, constantValue := 0 }, { name := "LOG2_BYTE_BIT_SIZE", type := .int, accessFlags := 26, slot := 10, constantValue := 0 }, { name := "T_BOOLEAN", type := .int, accessFlags := 25, slot := 11, constantValue := 0 }, { name := "T_CHAR", type := .int, accessFlags := 25, slot := 12, constantValue := 0 }, { name := "T_FLOAT", type := .int, accessFlags := 25, slot := 13, constantValue := 0 }, { name := "T_DOUBLE", type := .int, accessFlags := 25, slot := 14, constantValue := 0 }, { name := "T_BYTE", type := .int, accessFlags := 25, slot := 15, constantValue := 0 }, { name := "T_SHORT", type := .int, accessFlags := 25, slot := 16, constantValue := 0 }, { name := "T_INT", type := .int, accessFlags := 25, slot := 17, constantValue := 0 }, { name := "T_LONG", type := .int, accessFlags := 25, slot := 18, constantValue := 0 }, { name := "JLA", type := (.object "jdk/internal/access/JavaLangAccess"), accessFlags := 26, slot := 19, constantValue := 0 }, { name := "SOFT_MAX_ARRAY_LENGTH", type := .int, accessFlags := 25, slot := 20, constantValue := 0 }]
  methods := #[k14m0]
  instanceTypes := #[]
  staticTypes := #[(.object "jdk/internal/misc/Unsafe"), .boolean, .int, .int, .int, .int, .int, .int, .int, .int, .int, .int, .int, .int, .int, .int, .int, .int, .int, (.object "jdk/internal/access/JavaLangAccess"), .int]
  resolved := Array.replicate 378 none
  statics := none }

def pool15 : Array CpInfo := pool [(1, u "java/lang/Cloneable"), (0, .class_ 1), (0, u "java/lang/Object"), (0, .class_ 3)] 3

/-- java/lang/Cloneable -/
def k15 : Class := { plain "java/lang/Cloneable" (some 0) with
  accessFlags := 1537
  interfaces := #[]
  cf := some (fileOf pool15 2 #[] #[] 1537 4 #[] #[])
  fields := #[]
  methods := #[]
  instanceTypes := #[]
  staticTypes := #[]
  resolved := Array.replicate 8 none
  statics := none }

/-- the primitive byte -/
def k16 : Class := { plain "byte" none with kind := .primitive 'B', accessFlags := 0x411 }
/-- [B -/
def k17 : Class := { plain "[B" (some 0) with kind := .array 16 .byte, interfaces := #[15, 2], accessFlags := 1041 }

/-- the primitive char -/
def k18 : Class := { plain "char" none with kind := .primitive 'C', accessFlags := 0x411 }
/-- [C -/
def k19 : Class := { plain "[C" (some 0) with kind := .array 18 .char, interfaces := #[15, 2], accessFlags := 1041 }

/-- the primitive int -/
def k20 : Class := { plain "int" none with kind := .primitive 'I', accessFlags := 0x411 }
/-- [I -/
def k21 : Class := { plain "[I" (some 0) with kind := .array 20 .int, interfaces := #[15, 2], accessFlags := 1041 }

def heap : Heap := #[{ cls := 7, slots := #[.long 0, .int 1, .null, .int 0, .null, .int 0, .int 0], vm := .statics 7 },
  { cls := 8, slots := #[.int 0, .int 8, .int 0, .int 1], vm := .statics 8 },
  { cls := 12, slots := #[.null, .null, .null], vm := .statics 12 }]
def classes : Array Class := #[k0, k1, k2, k3, k4, k5, k6, k7, k8, k9, k10, k11, k12, k13, k14, k15, k16, k17, k18, k19, k20, k21]
def interned : List (Array UInt16 × Addr) := []
def slotsUsed : Nat := 14
def theMethod : MethodId := ⟨1, 4⟩
def args0 : Array Value := #[.long 5, .long 7, .int 9]
def aboutOver (below : List Frame) : State where
  vm := { classes := classes, interned := interned.toArray }
  heap := heap
  slotsUsed := slotsUsed
  threads := #[{ frames := .invoking theMethod args0 :: below }]
def below0 : List Frame := [.native { method := ⟨0, 0⟩, args := #[] }]
def about1 : State := aboutOver below0
def p0 : Program := .bare "" "" ""
def e0 : Env := launch0.env 0 0 0
theorem w_frames : about1.frames = Frame.invoking theMethod args0 :: below0 := rfl
set_option maxRecDepth 65536 in
theorem w_args : argsFit about1.vm theMethod args0 = true := by decide +kernel
set_option maxRecDepth 65536 in
theorem w_heap : heapFits about1 = true := by decide +kernel
set_option maxRecDepth 65536 in
theorem w_runnable : about1.curStatus? = some .runnable := by decide +kernel
set_option maxRecDepth 65536 in
theorem w_alone : about1.alone = true := by decide +kernel
set_option maxRecDepth 65536 in
theorem w_named : about1.methodNamed? x = some theMethod := by decide +kernel
set_option maxRecDepth 65536 in
theorem w_hears : about1.hears theMethod below0 = true := by decide +kernel
set_option maxRecDepth 65536 in
theorem w_ripe : about1.ripe theMethod args0 below0 = true := by decide +kernel
theorem w_running : about1.status = .running := rfl
set_option maxRecDepth 65536 in
theorem w_room : about1.hasRoom e0.platform room_1 = true :=
  launch0.hasRoom_least _ room_1 (by decide +kernel) (by decide +kernel) (by decide +kernel) (by decide +kernel) (by decide +kernel) (by decide +kernel)
theorem allAtoms_all (ts : List Jvm.Cond) (a : Array Jvm.Value) (st : Jvm.State) : (allAtoms ts).before a st = ts.all (fun c => c.before a st) := by
  induction ts with
  | nil => rfl
  | cons c t ih =>
    show (Jvm.Cond.and c (allAtoms t)).before a st = _
    rw [Jvm.Cond.before_and, ih, List.all_cons]
def words1 : List Jvm.Cond := Jvm.Cond.code x code maxLocals ret :: tables_1
/-- a 'code' word, met by the world's own term for the bytes: nothing is compared byte by byte -/
theorem code_word {y : MethodName} {bytes : ByteArray} {mx : Nat} {rt : Option FieldType} {a : Array Value} {s : State} {m : MethodId} {meth : Method} {c : Code} (h1 : s.methodNamed? y = some m) (h2 : s.vm.method? m = some meth) (h3 : meth.code = some c) (h4 : c.code = bytes)
    (h5 : (c.maxLocals == mx && c.exceptionTable.isEmpty && decide (c.maxStack ≤ mostOperands) && decide (meth.sig.returnType = rt) && !meth.locks && decide (parseMethodDescriptor y.desc = some meth.sig)) = true) : (Jvm.Cond.code y bytes mx rt).before a s = true := by
  simp only [Bool.and_eq_true, beq_iff_eq, Bool.not_eq_true', decide_eq_true_eq] at h5
  obtain ⟨⟨⟨⟨⟨g1, g2⟩, g3⟩, g4⟩, g5⟩, g6⟩ := h5
  simp [Cond.before, Cond.holds, Cond.value, h1, h2, h3, h4, g1, g2, g3, g4, g5, g6]
def isCode : Jvm.Cond → Bool
  | .code _ _ _ _ => true
  | _ => false
theorem all_split {L : List Jvm.Cond} {P : Jvm.Cond → Bool} (h1 : L.all (fun c => isCode c || P c) = true) (h2 : ∀ c ∈ L.filter isCode, P c = true) : L.all P = true := by
  refine List.all_eq_true.mpr fun c hc => ?_
  have h := List.all_eq_true.mp h1 c hc
  rcases Bool.eq_false_or_eq_true (isCode c) with hi | hi
  · exact h2 c (List.mem_filter.mpr ⟨hc, hi⟩)
  · simpa [hi] using h
set_option maxRecDepth 65536 in
theorem w_c0 : (Jvm.Cond.code x code maxLocals ret).before args0 about1 = true := code_word (m := ⟨1, 4⟩) (meth := k1m4) (c := k1c4) (by decide +kernel) rfl rfl rfl (by decide +kernel)
set_option maxRecDepth 65536 in
theorem w_c1 : (Jvm.Cond.code ({ cls := "org/graticule/read/SpanDigitsEndPinLaw", name := "ch", desc := "(JI)C" } : Jvm.MethodName) method_2_code (6 : Nat) (Option.some Jvm.ClassFile.FieldType.char)).before args0 about1 = true := code_word (m := ⟨1, 1⟩) (meth := k1m1) (c := k1c1) (by decide +kernel) rfl rfl rfl (by decide +kernel)
set_option maxRecDepth 65536 in
theorem w_c2 : (Jvm.Cond.code ({ cls := "java/lang/String", name := "<init>", desc := "([C)V" } : Jvm.MethodName) jdk_42_method_3_code (2 : Nat) (Option.none : Option Jvm.ClassFile.FieldType)).before args0 about1 = true := code_word (m := ⟨7, 1⟩) (meth := k7m1) (c := k7c1) (by decide +kernel) rfl rfl rfl (by decide +kernel)
set_option maxRecDepth 65536 in
theorem w_c3 : (Jvm.Cond.code ({ cls := "java/lang/String", name := "<init>", desc := "([CIILjava/lang/Void;)V" } : Jvm.MethodName) jdk_42_method_149_code (6 : Nat) (Option.none : Option Jvm.ClassFile.FieldType)).before args0 about1 = true := code_word (m := ⟨7, 4⟩) (meth := k7m4) (c := k7c4) (by decide +kernel) rfl rfl rfl (by decide +kernel)
set_option maxRecDepth 65536 in
theorem w_c4 : (Jvm.Cond.code ({ cls := "java/lang/Object", name := "<init>", desc := "()V" } : Jvm.MethodName) object_method_1_code (1 : Nat) (Option.none : Option Jvm.ClassFile.FieldType)).before args0 about1 = true := code_word (m := ⟨0, 0⟩) (meth := k0m0) (c := k0c0) (by decide +kernel) rfl rfl rfl (by decide +kernel)
set_option maxRecDepth 65536 in
theorem w_c5 : (Jvm.Cond.code ({ cls := "java/lang/StringUTF16", name := "compress", desc := "([CII)[B" } : Jvm.MethodName) jdk_52_method_16_code (6 : Nat) (Option.some (Jvm.ClassFile.FieldType.array Jvm.ClassFile.FieldType.byte))).before args0 about1 = true := code_word (m := ⟨8, 8⟩) (meth := k8m8) (c := k8c8) (by decide +kernel) rfl rfl rfl (by decide +kernel)
set_option maxRecDepth 65536 in
theorem w_c6 : (Jvm.Cond.code ({ cls := "java/lang/StringUTF16", name := "compress", desc := "([CI[BII)I" } : Jvm.MethodName) jdk_52_method_21_code (7 : Nat) (Option.some Jvm.ClassFile.FieldType.int)).before args0 about1 = true := code_word (m := ⟨8, 9⟩) (meth := k8m9) (c := k8c9) (by decide +kernel) rfl rfl rfl (by decide +kernel)
set_option maxRecDepth 65536 in
theorem w_c7 : (Jvm.Cond.code ({ cls := "java/lang/StringUTF16", name := "coderFromArrayLen", desc := "([BI)B" } : Jvm.MethodName) jdk_52_method_15_code (2 : Nat) (Option.some Jvm.ClassFile.FieldType.byte)).before args0 about1 = true := code_word (m := ⟨8, 7⟩) (meth := k8m7) (c := k8c7) (by decide +kernel) rfl rfl rfl (by decide +kernel)
set_option maxRecDepth 65536 in
theorem w_c8 : (Jvm.Cond.code ({ cls := "org/graticule/read/Span", name := "<init>", desc := "(Ljava/lang/String;II)V" } : Jvm.MethodName) prog_17_method_1_code (4 : Nat) (Option.none : Option Jvm.ClassFile.FieldType)).before args0 about1 = true := code_word (m := ⟨10, 0⟩) (meth := k10m0) (c := k10c0) (by decide +kernel) rfl rfl rfl (by decide +kernel)
set_option maxRecDepth 65536 in
theorem w_c9 : (Jvm.Cond.code ({ cls := "java/lang/Record", name := "<init>", desc := "()V" } : Jvm.MethodName) jdk_30_method_1_code (1 : Nat) (Option.none : Option Jvm.ClassFile.FieldType)).before args0 about1 = true := code_word (m := ⟨9, 0⟩) (meth := k9m0) (c := k9c0) (by decide +kernel) rfl rfl rfl (by decide +kernel)
set_option maxRecDepth 65536 in
theorem w_c10 : (Jvm.Cond.code ({ cls := "java/lang/String", name := "length", desc := "()I" } : Jvm.MethodName) jdk_42_method_54_code (1 : Nat) (Option.some Jvm.ClassFile.FieldType.int)).before args0 about1 = true := code_word (m := ⟨7, 2⟩) (meth := k7m2) (c := k7c2) (by decide +kernel) rfl rfl rfl (by decide +kernel)
set_option maxRecDepth 65536 in
theorem w_c11 : (Jvm.Cond.code ({ cls := "java/lang/String", name := "coder", desc := "()B" } : Jvm.MethodName) jdk_42_method_152_code (1 : Nat) (Option.some Jvm.ClassFile.FieldType.byte)).before args0 about1 = true := code_word (m := ⟨7, 5⟩) (meth := k7m5) (c := k7c5) (by decide +kernel) rfl rfl rfl (by decide +kernel)
set_option maxRecDepth 65536 in
theorem w_c12 : (Jvm.Cond.code ({ cls := "java/util/Objects", name := "checkFromToIndex", desc := "(III)I" } : Jvm.MethodName) jdk_31_method_18_code (3 : Nat) (Option.some Jvm.ClassFile.FieldType.int)).before args0 about1 = true := code_word (m := ⟨11, 1⟩) (meth := k11m1) (c := k11c1) (by decide +kernel) rfl rfl rfl (by decide +kernel)
set_option maxRecDepth 65536 in
theorem w_c13 : (Jvm.Cond.code ({ cls := "jdk/internal/util/Preconditions", name := "checkFromToIndex", desc := "(IIILjava/util/function/BiFunction;)I" } : Jvm.MethodName) jdk_41_method_12_code (4 : Nat) (Option.some Jvm.ClassFile.FieldType.int)).before args0 about1 = true := code_word (m := ⟨12, 2⟩) (meth := k12m2) (c := k12c2) (by decide +kernel) rfl rfl rfl (by decide +kernel)
set_option maxRecDepth 65536 in
theorem w_c14 : (Jvm.Cond.code ({ cls := "org/graticule/read/Span", name := "digitsEnd", desc := "(I)I" } : Jvm.MethodName) prog_17_method_11_code (3 : Nat) (Option.some Jvm.ClassFile.FieldType.int)).before args0 about1 = true := code_word (m := ⟨10, 1⟩) (meth := k10m1) (c := k10c1) (by decide +kernel) rfl rfl rfl (by decide +kernel)
set_option maxRecDepth 65536 in
theorem w_c15 : (Jvm.Cond.code ({ cls := "org/graticule/read/SpanDigitsEndPinLaw", name := "ok", desc := "(IIII[C)Z" } : Jvm.MethodName) method_4_code (5 : Nat) (Option.some Jvm.ClassFile.FieldType.boolean)).before args0 about1 = true := code_word (m := ⟨1, 3⟩) (meth := k1m3) (c := k1c3) (by decide +kernel) rfl rfl rfl (by decide +kernel)
set_option maxRecDepth 65536 in
theorem w_c16 : (Jvm.Cond.code ({ cls := "java/lang/StringUTF16", name := "toBytes", desc := "([CII)[B" } : Jvm.MethodName) jdk_52_method_14_code (5 : Nat) (Option.some (Jvm.ClassFile.FieldType.array Jvm.ClassFile.FieldType.byte))).before args0 about1 = true := code_word (m := ⟨8, 6⟩) (meth := k8m6) (c := k8c6) (by decide +kernel) rfl rfl rfl (by decide +kernel)
set_option maxRecDepth 65536 in
theorem w_c17 : (Jvm.Cond.code ({ cls := "java/lang/StringUTF16", name := "newBytesFor", desc := "(I)[B" } : Jvm.MethodName) jdk_52_method_2_code (1 : Nat) (Option.some (Jvm.ClassFile.FieldType.array Jvm.ClassFile.FieldType.byte))).before args0 about1 = true := code_word (m := ⟨8, 1⟩) (meth := k8m1) (c := k8c1) (by decide +kernel) rfl rfl rfl (by decide +kernel)
set_option maxRecDepth 65536 in
theorem w_c18 : (Jvm.Cond.code ({ cls := "java/lang/StringUTF16", name := "newBytesLength", desc := "(I)I" } : Jvm.MethodName) jdk_52_method_3_code (1 : Nat) (Option.some Jvm.ClassFile.FieldType.int)).before args0 about1 = true := code_word (m := ⟨8, 2⟩) (meth := k8m2) (c := k8c2) (by decide +kernel) rfl rfl rfl (by decide +kernel)
set_option maxRecDepth 65536 in
theorem w_c19 : (Jvm.Cond.code ({ cls := "java/lang/StringUTF16", name := "putChar", desc := "([BII)V" } : Jvm.MethodName) jdk_52_method_4_code (3 : Nat) (Option.none : Option Jvm.ClassFile.FieldType)).before args0 about1 = true := code_word (m := ⟨8, 3⟩) (meth := k8m3) (c := k8c3) (by decide +kernel) rfl rfl rfl (by decide +kernel)
set_option maxRecDepth 65536 in
theorem w_c20 : (Jvm.Cond.code ({ cls := "java/lang/StringUTF16", name := "getChar", desc := "([BI)C" } : Jvm.MethodName) jdk_52_method_5_code (2 : Nat) (Option.some Jvm.ClassFile.FieldType.char)).before args0 about1 = true := code_word (m := ⟨8, 4⟩) (meth := k8m4) (c := k8c4) (by decide +kernel) rfl rfl rfl (by decide +kernel)
set_option maxRecDepth 65536 in
theorem w_c21 : (Jvm.Cond.code ({ cls := "java/lang/String", name := "charAt", desc := "(I)C" } : Jvm.MethodName) jdk_42_method_56_code (2 : Nat) (Option.some Jvm.ClassFile.FieldType.char)).before args0 about1 = true := code_word (m := ⟨7, 3⟩) (meth := k7m3) (c := k7c3) (by decide +kernel) rfl rfl rfl (by decide +kernel)
set_option maxRecDepth 65536 in
theorem w_c22 : (Jvm.Cond.code ({ cls := "java/lang/String", name := "isLatin1", desc := "()Z" } : Jvm.MethodName) jdk_42_method_154_code (1 : Nat) (Option.some Jvm.ClassFile.FieldType.boolean)).before args0 about1 = true := code_word (m := ⟨7, 6⟩) (meth := k7m6) (c := k7c6) (by decide +kernel) rfl rfl rfl (by decide +kernel)
set_option maxRecDepth 65536 in
theorem w_c23 : (Jvm.Cond.code ({ cls := "java/lang/StringUTF16", name := "charAt", desc := "([BI)C" } : Jvm.MethodName) jdk_52_method_83_code (2 : Nat) (Option.some Jvm.ClassFile.FieldType.char)).before args0 about1 = true := code_word (m := ⟨8, 10⟩) (meth := k8m10) (c := k8c10) (by decide +kernel) rfl rfl rfl (by decide +kernel)
set_option maxRecDepth 65536 in
theorem w_c24 : (Jvm.Cond.code ({ cls := "java/lang/StringUTF16", name := "checkIndex", desc := "(I[B)V" } : Jvm.MethodName) jdk_52_method_91_code (2 : Nat) (Option.none : Option Jvm.ClassFile.FieldType)).before args0 about1 = true := code_word (m := ⟨8, 11⟩) (meth := k8m11) (c := k8c11) (by decide +kernel) rfl rfl rfl (by decide +kernel)
set_option maxRecDepth 65536 in
theorem w_c25 : (Jvm.Cond.code ({ cls := "java/lang/StringUTF16", name := "length", desc := "([B)I" } : Jvm.MethodName) jdk_52_method_6_code (1 : Nat) (Option.some Jvm.ClassFile.FieldType.int)).before args0 about1 = true := code_word (m := ⟨8, 5⟩) (meth := k8m5) (c := k8c5) (by decide +kernel) rfl rfl rfl (by decide +kernel)
set_option maxRecDepth 65536 in
theorem w_c26 : (Jvm.Cond.code ({ cls := "java/lang/String", name := "checkIndex", desc := "(II)V" } : Jvm.MethodName) jdk_42_method_155_code (2 : Nat) (Option.none : Option Jvm.ClassFile.FieldType)).before args0 about1 = true := code_word (m := ⟨7, 7⟩) (meth := k7m7) (c := k7c7) (by decide +kernel) rfl rfl rfl (by decide +kernel)
set_option maxRecDepth 65536 in
theorem w_c27 : (Jvm.Cond.code ({ cls := "jdk/internal/util/Preconditions", name := "checkIndex", desc := "(IILjava/util/function/BiFunction;)I" } : Jvm.MethodName) jdk_41_method_11_code (3 : Nat) (Option.some Jvm.ClassFile.FieldType.int)).before args0 about1 = true := code_word (m := ⟨12, 1⟩) (meth := k12m1) (c := k12c1) (by decide +kernel) rfl rfl rfl (by decide +kernel)
set_option maxRecDepth 65536 in
theorem w_c28 : (Jvm.Cond.code ({ cls := "org/graticule/read/SpanDigitsEndPinLaw", name := "isAsciiDigit", desc := "(C)Z" } : Jvm.MethodName) method_3_code (1 : Nat) (Option.some Jvm.ClassFile.FieldType.boolean)).before args0 about1 = true := code_word (m := ⟨1, 2⟩) (meth := k1m2) (c := k1c2) (by decide +kernel) rfl rfl rfl (by decide +kernel)
set_option maxRecDepth 65536 in
theorem w_c29 : (Jvm.Cond.code ({ cls := "java/lang/StringLatin1", name := "charAt", desc := "([BI)C" } : Jvm.MethodName) jdk_43_method_2_code (2 : Nat) (Option.some Jvm.ClassFile.FieldType.char)).before args0 about1 = true := code_word (m := ⟨13, 1⟩) (meth := k13m1) (c := k13c1) (by decide +kernel) rfl rfl rfl (by decide +kernel)
def codes1 : List Jvm.Cond := [Jvm.Cond.code x code maxLocals ret, Jvm.Cond.code ({ cls := "org/graticule/read/SpanDigitsEndPinLaw", name := "ch", desc := "(JI)C" } : Jvm.MethodName) method_2_code (6 : Nat) (Option.some Jvm.ClassFile.FieldType.char), Jvm.Cond.code ({ cls := "java/lang/String", name := "<init>", desc := "([C)V" } : Jvm.MethodName) jdk_42_method_3_code (2 : Nat) (Option.none : Option Jvm.ClassFile.FieldType), Jvm.Cond.code ({ cls := "java/lang/String", name := "<init>", desc := "([CIILjava/lang/Void;)V" } : Jvm.MethodName) jdk_42_method_149_code (6 : Nat) (Option.none : Option Jvm.ClassFile.FieldType), Jvm.Cond.code ({ cls := "java/lang/Object", name := "<init>", desc := "()V" } : Jvm.MethodName) object_method_1_code (1 : Nat) (Option.none : Option Jvm.ClassFile.FieldType), Jvm.Cond.code ({ cls := "java/lang/StringUTF16", name := "compress", desc := "([CII)[B" } : Jvm.MethodName) jdk_52_method_16_code (6 : Nat) (Option.some (Jvm.ClassFile.FieldType.array Jvm.ClassFile.FieldType.byte)), Jvm.Cond.code ({ cls := "java/lang/StringUTF16", name := "compress", desc := "([CI[BII)I" } : Jvm.MethodName) jdk_52_method_21_code (7 : Nat) (Option.some Jvm.ClassFile.FieldType.int), Jvm.Cond.code ({ cls := "java/lang/StringUTF16", name := "coderFromArrayLen", desc := "([BI)B" } : Jvm.MethodName) jdk_52_method_15_code (2 : Nat) (Option.some Jvm.ClassFile.FieldType.byte), Jvm.Cond.code ({ cls := "org/graticule/read/Span", name := "<init>", desc := "(Ljava/lang/String;II)V" } : Jvm.MethodName) prog_17_method_1_code (4 : Nat) (Option.none : Option Jvm.ClassFile.FieldType), Jvm.Cond.code ({ cls := "java/lang/Record", name := "<init>", desc := "()V" } : Jvm.MethodName) jdk_30_method_1_code (1 : Nat) (Option.none : Option Jvm.ClassFile.FieldType), Jvm.Cond.code ({ cls := "java/lang/String", name := "length", desc := "()I" } : Jvm.MethodName) jdk_42_method_54_code (1 : Nat) (Option.some Jvm.ClassFile.FieldType.int), Jvm.Cond.code ({ cls := "java/lang/String", name := "coder", desc := "()B" } : Jvm.MethodName) jdk_42_method_152_code (1 : Nat) (Option.some Jvm.ClassFile.FieldType.byte), Jvm.Cond.code ({ cls := "java/util/Objects", name := "checkFromToIndex", desc := "(III)I" } : Jvm.MethodName) jdk_31_method_18_code (3 : Nat) (Option.some Jvm.ClassFile.FieldType.int), Jvm.Cond.code ({ cls := "jdk/internal/util/Preconditions", name := "checkFromToIndex", desc := "(IIILjava/util/function/BiFunction;)I" } : Jvm.MethodName) jdk_41_method_12_code (4 : Nat) (Option.some Jvm.ClassFile.FieldType.int), Jvm.Cond.code ({ cls := "org/graticule/read/Span", name := "digitsEnd", desc := "(I)I" } : Jvm.MethodName) prog_17_method_11_code (3 : Nat) (Option.some Jvm.ClassFile.FieldType.int), Jvm.Cond.code ({ cls := "org/graticule/read/SpanDigitsEndPinLaw", name := "ok", desc := "(IIII[C)Z" } : Jvm.MethodName) method_4_code (5 : Nat) (Option.some Jvm.ClassFile.FieldType.boolean), Jvm.Cond.code ({ cls := "java/lang/StringUTF16", name := "toBytes", desc := "([CII)[B" } : Jvm.MethodName) jdk_52_method_14_code (5 : Nat) (Option.some (Jvm.ClassFile.FieldType.array Jvm.ClassFile.FieldType.byte)), Jvm.Cond.code ({ cls := "java/lang/StringUTF16", name := "newBytesFor", desc := "(I)[B" } : Jvm.MethodName) jdk_52_method_2_code (1 : Nat) (Option.some (Jvm.ClassFile.FieldType.array Jvm.ClassFile.FieldType.byte)), Jvm.Cond.code ({ cls := "java/lang/StringUTF16", name := "newBytesLength", desc := "(I)I" } : Jvm.MethodName) jdk_52_method_3_code (1 : Nat) (Option.some Jvm.ClassFile.FieldType.int), Jvm.Cond.code ({ cls := "java/lang/StringUTF16", name := "putChar", desc := "([BII)V" } : Jvm.MethodName) jdk_52_method_4_code (3 : Nat) (Option.none : Option Jvm.ClassFile.FieldType), Jvm.Cond.code ({ cls := "java/lang/StringUTF16", name := "getChar", desc := "([BI)C" } : Jvm.MethodName) jdk_52_method_5_code (2 : Nat) (Option.some Jvm.ClassFile.FieldType.char), Jvm.Cond.code ({ cls := "java/lang/String", name := "charAt", desc := "(I)C" } : Jvm.MethodName) jdk_42_method_56_code (2 : Nat) (Option.some Jvm.ClassFile.FieldType.char), Jvm.Cond.code ({ cls := "java/lang/String", name := "isLatin1", desc := "()Z" } : Jvm.MethodName) jdk_42_method_154_code (1 : Nat) (Option.some Jvm.ClassFile.FieldType.boolean), Jvm.Cond.code ({ cls := "java/lang/StringUTF16", name := "charAt", desc := "([BI)C" } : Jvm.MethodName) jdk_52_method_83_code (2 : Nat) (Option.some Jvm.ClassFile.FieldType.char), Jvm.Cond.code ({ cls := "java/lang/StringUTF16", name := "checkIndex", desc := "(I[B)V" } : Jvm.MethodName) jdk_52_method_91_code (2 : Nat) (Option.none : Option Jvm.ClassFile.FieldType), Jvm.Cond.code ({ cls := "java/lang/StringUTF16", name := "length", desc := "([B)I" } : Jvm.MethodName) jdk_52_method_6_code (1 : Nat) (Option.some Jvm.ClassFile.FieldType.int), Jvm.Cond.code ({ cls := "java/lang/String", name := "checkIndex", desc := "(II)V" } : Jvm.MethodName) jdk_42_method_155_code (2 : Nat) (Option.none : Option Jvm.ClassFile.FieldType), Jvm.Cond.code ({ cls := "jdk/internal/util/Preconditions", name := "checkIndex", desc := "(IILjava/util/function/BiFunction;)I" } : Jvm.MethodName) jdk_41_method_11_code (3 : Nat) (Option.some Jvm.ClassFile.FieldType.int), Jvm.Cond.code ({ cls := "org/graticule/read/SpanDigitsEndPinLaw", name := "isAsciiDigit", desc := "(C)Z" } : Jvm.MethodName) method_3_code (1 : Nat) (Option.some Jvm.ClassFile.FieldType.boolean), Jvm.Cond.code ({ cls := "java/lang/StringLatin1", name := "charAt", desc := "([BI)C" } : Jvm.MethodName) jdk_43_method_2_code (2 : Nat) (Option.some Jvm.ClassFile.FieldType.char)]
set_option maxRecDepth 65536 in
theorem codes_eq : words1.filter isCode = codes1 := rfl
theorem w_codes : ∀ c ∈ words1.filter isCode, c.before args0 about1 = true := by
  rw [codes_eq]
  intro c hc
  simp only [codes1, List.mem_cons, List.not_mem_nil, or_false] at hc
  rcases hc with rfl | rfl | rfl | rfl | rfl | rfl | rfl | rfl | rfl | rfl | rfl | rfl | rfl | rfl | rfl | rfl | rfl | rfl | rfl | rfl | rfl | rfl | rfl | rfl | rfl | rfl | rfl | rfl | rfl | rfl
  · exact w_c0
  · exact w_c1
  · exact w_c2
  · exact w_c3
  · exact w_c4
  · exact w_c5
  · exact w_c6
  · exact w_c7
  · exact w_c8
  · exact w_c9
  · exact w_c10
  · exact w_c11
  · exact w_c12
  · exact w_c13
  · exact w_c14
  · exact w_c15
  · exact w_c16
  · exact w_c17
  · exact w_c18
  · exact w_c19
  · exact w_c20
  · exact w_c21
  · exact w_c22
  · exact w_c23
  · exact w_c24
  · exact w_c25
  · exact w_c26
  · exact w_c27
  · exact w_c28
  · exact w_c29
set_option maxRecDepth 65536 in
theorem w_t1 : (words1.take 24).all (fun c => isCode c || c.before args0 about1) = true := by decide +kernel
set_option maxRecDepth 65536 in
theorem w_t2 : ((words1.drop 24).take 24).all (fun c => isCode c || c.before args0 about1) = true := by decide +kernel
set_option maxRecDepth 65536 in
theorem w_t3 : (((words1.drop 24).drop 24).take 24).all (fun c => isCode c || c.before args0 about1) = true := by decide +kernel
set_option maxRecDepth 65536 in
theorem w_t4 : ((((words1.drop 24).drop 24).drop 24).take 24).all (fun c => isCode c || c.before args0 about1) = true := by decide +kernel
set_option maxRecDepth 65536 in
theorem w_t5 : (((((words1.drop 24).drop 24).drop 24).drop 24).take 24).all (fun c => isCode c || c.before args0 about1) = true := by decide +kernel
set_option maxRecDepth 65536 in
theorem w_t6 : (((((words1.drop 24).drop 24).drop 24).drop 24).drop 24).all (fun c => isCode c || c.before args0 about1) = true := by decide +kernel
theorem w_tables : (allAtoms (Jvm.Cond.code x code maxLocals ret :: tables_1)).before args0 about1 = true := by
  rw [allAtoms_all]
  show words1.all (fun c => c.before args0 about1) = true
  refine all_split ?_ w_codes
  rw [← List.take_append_drop 24 words1, List.all_append, w_t1, ← List.take_append_drop 24 (words1.drop 24), List.all_append, w_t2, ← List.take_append_drop 24 ((words1.drop 24).drop 24), List.all_append, w_t3, ← List.take_append_drop 24 (((words1.drop 24).drop 24).drop 24), List.all_append, w_t4, ← List.take_append_drop 24 ((((words1.drop 24).drop 24).drop 24).drop 24), List.all_append, w_t5, w_t6]
  rfl
set_option maxRecDepth 65536 in
theorem w_rest : rest_1_c.before args0 about1 = true := by decide +kernel
set_option maxRecDepth 65536 in
theorem w_case : (Jvm.Cond.and given_1 narrow_1).before args0 about1 = true := by decide +kernel
theorem w_applies : (headSpec (Jvm.Cond.code x code maxLocals ret :: tables_1) room_1).applies x e0.platform about1 = true :=
  (Spec.applies_iff w_frames).mpr ⟨w_running, w_runnable, w_alone, w_named, w_hears, w_ripe, w_room, w_tables⟩
theorem atStart : AtStart classFile x code maxLocals ret World_1 tables_1 room_1 Calls_1 rest_1 Pre_1 launch0 p0 e0 about1 theMethod args0 below0 :=
  ⟨lists_1, trivial, launch0.admits_env _ _ _, launch0.least_env, fairChoices_fair.cas, fairChoices_fair.clock, w_frames, w_args, w_heap, w_applies, trivial, w_rest, w_case⟩
end start1
theorem witness_1 : WitnessClaimed_1 := ⟨start1.p0, start1.e0, start1.about1, start1.theMethod, start1.args0, start1.below0, start1.atStart⟩
end Jvm.Pilot.@@N@@
