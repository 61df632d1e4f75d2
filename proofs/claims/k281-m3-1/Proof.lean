import JvmDerived
import JvmDerived.Pilot.@@N@@Statement
import JvmDerived.Pilot.@@N@@Code
set_option linter.unusedVariables false
set_option linter.unusedSimpArgs false
/- laws to paste: Road.backV, Road.lenW, Road.chN, Road.eqW, Road.codOf (cut by pick.py; bodies as the Statement names them) -/
namespace Jvm.Pilot.@@N@@
namespace StrChars
open Jvm Sem ClassFile Op Lib Jvm.Stand Jvm.Free.XT Jvm.Free.ALB Jvm.Free.JM Jvm.Free
open Jvm.Lib.Cold (StaticIs)
/-- a char array whose places are chars -/
def Ch (a : Addr) (A : Cell) (U : State) : Prop := Arr .char a A U ∧ Typed .char A
theorem Ch.mv {a : Addr} {A : Cell} {U U' : State} (h : Ch a A U) (hal : U.vm.Alike U'.vm) (hh : U'.heap = U.heap) : Ch a A U' := ⟨h.1.mv hal hh, h.2⟩
theorem Ch.keep {a : Addr} {A : Cell} {U U' : State} (h : Ch a A U) (hal : U.vm.Alike U'.vm) (hk : U'.heap[a]? = some A) : Ch a A U' := ⟨h.1.keep hal hk, h.2⟩
/-- what place i of a char[]'s cell holds -/
def cv (A : Cell) (i : Nat) : Int32 := match A.slots[i]? with | some (.int x) => x | _ => 0
theorem Ch.get {a : Addr} {A : Cell} {U : State} (h : Ch a A U) {i : Nat} (hi : i < A.slots.size) : A.slots[i]? = some (.int (cv A i)) := by
  have e := Array.getElem?_eq_getElem hi
  have f := h.2 i _ e
  unfold cv; rw [e]
  generalize A.slots[i] = v at f
  cases v <;> simp [fits] at f ⊢
/-- the byte that i2b leaves of a char -/
def lo8 (x : Int32) : Int32 := x.toInt8.toInt32
theorem fits_lo8 (y : Int32) : fits .byte (.int (lo8 y)) = true := by
  have h1 := y.toInt8.le_toInt
  have h2 := y.toInt8.toInt_lt
  simp only [lo8, fits, Bool.and_eq_true, decide_eq_true_eq, Int32.le_iff_toInt_le, Int8.toInt_toInt32, show (-128 : Int32).toInt = -128 from by decide, show (127 : Int32).toInt = 127 from by decide]
  omega
/-- A' is A but that each place j of lo .. hi - 1 holds f j -/
def Laid (A A' : Cell) (lo hi : Nat) (f : Nat → Value) : Prop := A'.cls = A.cls ∧ A'.vm = A.vm ∧ A'.slots.size = A.slots.size ∧ ∀ i, A'.slots[i]? = if lo ≤ i ∧ i < hi then some (f i) else A.slots[i]?
theorem Laid.zero (A : Cell) (lo : Nat) (f : Nat → Value) : Laid A A lo (lo + 0) f := ⟨rfl, rfl, rfl, fun i => by rw [if_neg (by omega)]⟩
theorem Laid.step {A Ak : Cell} {lo k : Nat} {f : Nat → Value} {v : Value} (h : Laid A Ak lo k f) (hlo : lo ≤ k) (hk : k < Ak.slots.size) (hv : v = f k) : Laid A (Ak.setSlot k v) lo (k + 1) f := by
  refine ⟨h.1, h.2.1, by simpa [Cell.setSlot] using h.2.2.1, fun i => ?_⟩
  by_cases e : k = i
  · subst e; rw [Cell.slots_setSlot_self v hk, if_pos (by omega), hv]
  · rw [Cell.slots_setSlot_ne v e, h.2.2.2 i]
    by_cases q : lo ≤ i ∧ i < k
    · rw [if_pos q, if_pos (by omega)]
    · rw [if_neg q, if_neg (by omega)]
def U16 : String := "java/lang/StringUTF16"
namespace Cmp5
def yN : MethodName := ⟨"java/lang/StringUTF16", "compress", "([CI[BII)I"⟩
abbrev yB : ByteArray := jdk_52_method_21_code
theorem d0 : decode yB 0 = .ok (.iconst 0, 1) := by decide +kernel
theorem d1 : decode yB 1 = .ok (.istore 5, 2) := by decide +kernel
theorem d3 : decode yB 3 = .ok (.iload 5, 2) := by decide +kernel
theorem d5 : decode yB 5 = .ok (.iload 4, 2) := by decide +kernel
theorem d7 : decode yB 7 = .ok (.if_icmp (.ge) 37, 3) := by decide +kernel
theorem d10 : decode yB 10 = .ok (.aload_n 0, 1) := by decide +kernel
theorem d11 : decode yB 11 = .ok (.iload_n 1, 1) := by decide +kernel
theorem d12 : decode yB 12 = .ok (.caload, 1) := by decide +kernel
theorem d13 : decode yB 13 = .ok (.istore 6, 2) := by decide +kernel
theorem d15 : decode yB 15 = .ok (.iload 6, 2) := by decide +kernel
theorem d17 : decode yB 17 = .ok (.sipush 255, 3) := by decide +kernel
theorem d20 : decode yB 20 = .ok (.if_icmp (.le) 6, 3) := by decide +kernel
theorem d26 : decode yB 26 = .ok (.aload_n 2, 1) := by decide +kernel
theorem d27 : decode yB 27 = .ok (.iload_n 3, 1) := by decide +kernel
theorem d28 : decode yB 28 = .ok (.iload 6, 2) := by decide +kernel
theorem d30 : decode yB 30 = .ok (.i2b, 1) := by decide +kernel
theorem d31 : decode yB 31 = .ok (.bastore, 1) := by decide +kernel
theorem d32 : decode yB 32 = .ok (.iinc 1 1, 3) := by decide +kernel
theorem d35 : decode yB 35 = .ok (.iinc 3 1, 3) := by decide +kernel
theorem d38 : decode yB 38 = .ok (.iinc 5 1, 3) := by decide +kernel
theorem d41 : decode yB 41 = .ok (.goto (-38), 3) := by decide +kernel
theorem d44 : decode yB 44 = .ok (.iload 4, 2) := by decide +kernel
theorem d46 : decode yB 46 = .ok (.ireturn, 1) := by decide +kernel
def site : List Cond := []
def tab : Cond := tabOf yN yB 7 (some .int) site
def P (b : Addr) (A : Cell) (d : Addr) (B : Cell) (o q len : Nat) (args : Array Value) (s : State) : Prop := args = #[.ref b, .int (Int32.ofNat o), .ref d, .int (Int32.ofNat q), .int (Int32.ofNat len)] ∧ Ch b A s ∧ Arr .byte d B s ∧ b ≠ d ∧ o + len ≤ A.slots.size ∧ q + len ≤ B.slots.size ∧ ∀ i, i < len → ¬ 255 < cv A (o + i)
def E (b : Addr) (A : Cell) (d : Addr) (B : Cell) (o q len : Nat) (r : Option Value) (s u : State) : Prop := r = some (.int (Int32.ofNat len)) ∧ ∃ B', Put d B' s u ∧ Laid B B' q (q + len) (fun j => Value.int (lo8 (cv A (o + (j - q)))))
/-- no char of the range above 255: len; the places written hold each char's low byte -/
theorem law (l : Launch) (b : Addr) (A : Cell) (d : Addr) (B : Cell) (o q len : Nat) : Law l yN 5 5 0 0 yB 7 (some .int) site (P b A d B o q len) (E b A d B o q len) (copyLocs d q len) 0 0 := by
  refine Law.of_walk (plainFor_of_name (by decide +kernel)) (by decide +kernel) (by decide +kernel) (by decide) (fun _ _ h => by rw [h.1]; rfl) (fun _ U U' hal hh h => ⟨h.1, h.2.1.mv hal hh, h.2.2.1.mv hal hh, h.2.2.2⟩) (fun r U U' V V' h1 hal h2 h => ⟨h.1, h.2.elim fun B' q => ⟨B', q.1.mv h1 h2, q.2⟩⟩) ?_
  intro p e s m args below meth c s₁ X0 hexec hbytes hml hret hlk hnm hown hh0 W hP
  obtain ⟨rfl, hA, hB, hne, l1, l2, hp⟩ := hP
  have c1 : Steps p.tables e below (s₁.setTop (entryFrame m #[.ref b, .int (Int32.ofNat o), .ref d, .int (Int32.ofNat q), .int (Int32.ofNat len)] 7)) (s₁.setTop (mkF m 0 #[.val (.ref b), .val (.int (Int32.ofNat o)), .val (.ref d), .val (.int (Int32.ofNat q)), .val (.int (Int32.ofNat len)), .unset, .unset] [])) := entry rfl
  have hA0 := hA.1.mv X0.warmed.alike hh0
  have hB0 := hB.mv X0.warmed.alike hh0
  have a31 := hA.1.2.2.2
  have c2 : Steps p.tables e below (s₁.setTop (entryFrame m #[.ref b, .int (Int32.ofNat o), .ref d, .int (Int32.ofNat q), .int (Int32.ofNat len)] 7)) (s₁.setTop (mkF m 3 #[.val (.ref b), .val (.int (Int32.ofNat o)), .val (.ref d), .val (.int (Int32.ofNat q)), .val (.int (Int32.ofNat len)), .val (.int 0), .unset] [])) := c1.trans (by
    refine iconstV X0.here hexec rfl 0 (hb hbytes d0) (by decide) ?_
    refine XS.istore X0.here hexec rfl (hb hbytes d1) rfl rfl ?_
    exact Steps.refl _)
  have loop : ∀ (r i : Nat), i + r = len → ∀ (z : Slot), (z = .unset ∨ ∃ w, z = .val w ∧ w.category = 1) → ∀ (Tl : State) (Bk : Cell), Stand p l e { frames := 0, locals := 0, cells := 0, slots := 0 } s m #[.ref b, .int (Int32.ofNat o), .ref d, .int (Int32.ofNat q), .int (Int32.ofNat len)] below meth c Tl ([] ++ copyLocs d q i) 0 0 → Put d Bk s₁ Tl → Laid B Bk q (q + i) (fun j => Value.int (lo8 (cv A (o + (j - q))))) →
      Steps p.tables e below (s₁.setTop (entryFrame m #[.ref b, .int (Int32.ofNat o), .ref d, .int (Int32.ofNat q), .int (Int32.ofNat len)] 7)) (Tl.setTop (mkF m 3 #[.val (.ref b), .val (.int (Int32.ofNat (o + i))), .val (.ref d), .val (.int (Int32.ofNat (q + i))), .val (.int (Int32.ofNat len)), .val (.int (Int32.ofNat i)), z] [])) → ∃ (T' : State) (B' : Cell) (z' : Slot), Stand p l e { frames := 0, locals := 0, cells := 0, slots := 0 } s m #[.ref b, .int (Int32.ofNat o), .ref d, .int (Int32.ofNat q), .int (Int32.ofNat len)] below meth c T' ([] ++ copyLocs d q len) 0 0 ∧ Put d B' s₁ T' ∧ Laid B B' q (q + len) (fun j => Value.int (lo8 (cv A (o + (j - q))))) ∧
      Steps p.tables e below (s₁.setTop (entryFrame m #[.ref b, .int (Int32.ofNat o), .ref d, .int (Int32.ofNat q), .int (Int32.ofNat len)] 7)) (T'.setTop (mkF m 3 #[.val (.ref b), .val (.int (Int32.ofNat (o + len))), .val (.ref d), .val (.int (Int32.ofNat (q + len))), .val (.int (Int32.ofNat len)), .val (.int (Int32.ofNat len)), z'] [])) := by
    intro r
    induction r with
    | zero =>
      intro i hi z hz Tl Bk Xl pl fl cl
      have hil : i = len := by omega
      rw [hil] at Xl fl cl
      exact ⟨Tl, Bk, z, Xl, pl, fl, cl⟩
    | succ r ih =>
      intro i hi z hz Tl Bk Xl pl fl cl
      have all := X0.warmed.alike.symm.trans Xl.warmed.alike
      have hAl := hA0.keep all (pl.other hne hA0.1)
      have hBk := hB0.like all pl.1 fl.1 fl.2.1 fl.2.2.1
      have hlt : q + i < Bk.slots.size := by rw [fl.2.2.1]; omega
      have c3 : Steps p.tables e below (s₁.setTop (entryFrame m #[.ref b, .int (Int32.ofNat o), .ref d, .int (Int32.ofNat q), .int (Int32.ofNat len)] 7)) (Tl.setTop (mkF m 12 #[.val (.ref b), .val (.int (Int32.ofNat (o + i))), .val (.ref d), .val (.int (Int32.ofNat (q + i))), .val (.int (Int32.ofNat len)), .val (.int (Int32.ofNat i)), z] [.int (Int32.ofNat (o + i)), .ref b])) := cl.trans (by
        refine XS.iload Xl.here hexec rfl (hb hbytes d3) rfl ?_
        refine XS.iload Xl.here hexec rfl (hb hbytes d5) rfl ?_
        refine XS.icmpNo Xl.here hexec rfl (hb hbytes d7) rfl (ii_ge_f (lt32 (by omega) (by omega))) ?_
        refine XS.aloadN Xl.here hexec rfl (hb hbytes d10) rfl rfl ?_
        refine XS.iloadN Xl.here hexec rfl (hb hbytes d11) rfl ?_
        exact Steps.refl _)
      have c4 : Steps p.tables e below (s₁.setTop (entryFrame m #[.ref b, .int (Int32.ofNat o), .ref d, .int (Int32.ofNat q), .int (Int32.ofNat len)] 7)) (Tl.setTop (mkF m 13 #[.val (.ref b), .val (.int (Int32.ofNat (o + i))), .val (.ref d), .val (.int (Int32.ofNat (q + i))), .val (.int (Int32.ofNat len)), .val (.int (Int32.ofNat i)), z] [.int (cv A (o + i))])) := c3.trans (by
        refine Xl.aget hexec hAl rfl (hA.get (i := o + i) (by omega)) rfl rfl (hb hbytes d12) ?_
        exact Steps.refl _)
      have c5 : Steps p.tables e below (s₁.setTop (entryFrame m #[.ref b, .int (Int32.ofNat o), .ref d, .int (Int32.ofNat q), .int (Int32.ofNat len)] 7)) (Tl.setTop (mkF m 15 #[.val (.ref b), .val (.int (Int32.ofNat (o + i))), .val (.ref d), .val (.int (Int32.ofNat (q + i))), .val (.int (Int32.ofNat len)), .val (.int (Int32.ofNat i)), .val (.int (cv A (o + i)))] [])) := c4.trans (by
        refine XS.istoreS Xl.here hexec rfl (hb hbytes d13) rfl rfl hz ?_
        exact Steps.refl _)
      have c6 : Steps p.tables e below (s₁.setTop (entryFrame m #[.ref b, .int (Int32.ofNat o), .ref d, .int (Int32.ofNat q), .int (Int32.ofNat len)] 7)) (Tl.setTop (mkF m 31 #[.val (.ref b), .val (.int (Int32.ofNat (o + i))), .val (.ref d), .val (.int (Int32.ofNat (q + i))), .val (.int (Int32.ofNat len)), .val (.int (Int32.ofNat i)), .val (.int (cv A (o + i)))] [.int (lo8 (cv A (o + i))), .int (Int32.ofNat (q + i)), .ref d])) := c5.trans (by
        refine XS.iload Xl.here hexec rfl (hb hbytes d15) rfl ?_
        refine sipushV Xl.here hexec rfl 255 (hb hbytes d17) (by decide) ?_
        refine XS.icmpYes Xl.here hexec rfl (pc0 := 20) rfl (hb hbytes d20) rfl (ii_le_t (hp i (by omega))) (by decide) rfl ?_
        refine XS.aloadN Xl.here hexec rfl (hb hbytes d26) rfl rfl ?_
        refine XS.iloadN Xl.here hexec rfl (hb hbytes d27) rfl ?_
        refine XS.iload Xl.here hexec rfl (hb hbytes d28) rfl ?_
        refine i2b Xl.here hexec rfl (hb hbytes d30) rfl ?_
        exact Steps.refl _)
      obtain ⟨T7, X7, p7, st7⟩ := Xl.aput hexec hBk rfl hlt rfl (fits_lo8 (cv A (o + i))) (g := (mkF m 31 #[.val (.ref b), .val (.int (Int32.ofNat (o + i))), .val (.ref d), .val (.int (Int32.ofNat (q + i))), .val (.int (Int32.ofNat len)), .val (.int (Int32.ofNat i)), .val (.int (cv A (o + i)))] [.int (lo8 (cv A (o + i))), .int (Int32.ofNat (q + i)), .ref d])) rfl (rest := []) rfl (hb hbytes d31)
      have c8 : Steps p.tables e below (s₁.setTop (entryFrame m #[.ref b, .int (Int32.ofNat o), .ref d, .int (Int32.ofNat q), .int (Int32.ofNat len)] 7)) (T7.setTop (mkF m 32 #[.val (.ref b), .val (.int (Int32.ofNat (o + i))), .val (.ref d), .val (.int (Int32.ofNat (q + i))), .val (.int (Int32.ofNat len)), .val (.int (Int32.ofNat i)), .val (.int (cv A (o + i)))] [])) := c6.trans (st7 _ (Steps.refl _))
      have c9 : Steps p.tables e below (s₁.setTop (entryFrame m #[.ref b, .int (Int32.ofNat o), .ref d, .int (Int32.ofNat q), .int (Int32.ofNat len)] 7)) (T7.setTop (mkF m 3 #[.val (.ref b), .val (.int (Int32.ofNat (o + i) + 1)), .val (.ref d), .val (.int (Int32.ofNat (q + i) + 1)), .val (.int (Int32.ofNat len)), .val (.int (Int32.ofNat i + 1)), .val (.int (cv A (o + i)))] [])) := c8.trans (by
        refine iincV X7.here hexec rfl 1 (hb hbytes d32) (by decide) rfl rfl ?_
        refine iincV X7.here hexec rfl 1 (hb hbytes d35) (by decide) rfl rfl ?_
        refine iincV X7.here hexec rfl 1 (hb hbytes d38) (by decide) rfl rfl ?_
        refine XS.goto X7.here hexec rfl (pc0 := 41) rfl (hb hbytes d41) (by decide) rfl ?_
        exact Steps.refl _)
      have c10 : Steps p.tables e below (s₁.setTop (entryFrame m #[.ref b, .int (Int32.ofNat o), .ref d, .int (Int32.ofNat q), .int (Int32.ofNat len)] 7)) (T7.setTop (mkF m 3 #[.val (.ref b), .val (.int (Int32.ofNat (o + (i + 1)))), .val (.ref d), .val (.int (Int32.ofNat (q + (i + 1)))), .val (.int (Int32.ofNat len)), .val (.int (Int32.ofNat (i + 1))), .val (.int (cv A (o + i)))] [])) := by
        have := c9
        rw [succ32, succ32, succ32] at this
        exact this
      exact ih (i + 1) (by omega) _ (Or.inr ⟨_, rfl, rfl⟩) T7 _ (by rw [copyLocs_step, ← List.append_assoc]; exact X7) (pl.trans p7) (fl.step (by omega) hlt (by simp)) c10
  obtain ⟨T9, B9, z9, X9, p9, f9, g9⟩ := loop len 0 (by omega) .unset (Or.inl rfl) s₁ B (by simpa [copyLocs] using X0) ⟨hB0.1, fun _ _ => rfl, rfl⟩ (Laid.zero _ _ _) c2
  have c11 : Steps p.tables e below (s₁.setTop (entryFrame m #[.ref b, .int (Int32.ofNat o), .ref d, .int (Int32.ofNat q), .int (Int32.ofNat len)] 7)) (T9.setTop (mkF m 46 #[.val (.ref b), .val (.int (Int32.ofNat (o + len))), .val (.ref d), .val (.int (Int32.ofNat (q + len))), .val (.int (Int32.ofNat len)), .val (.int (Int32.ofNat len)), z9] [.int (Int32.ofNat len)])) := g9.trans (by
    refine XS.iload X9.here hexec rfl (hb hbytes d3) rfl ?_
    refine XS.iload X9.here hexec rfl (hb hbytes d5) rfl ?_
    refine XS.icmpYes X9.here hexec rfl (pc0 := 7) rfl (hb hbytes d7) rfl (ii_ge_t (nlt32 (by omega) (Nat.le_refl _))) (by decide) rfl ?_
    refine XS.iload X9.here hexec rfl (hb hbytes d44) rfl ?_
    exact Steps.refl _)
  exact ⟨T9, some (.int (Int32.ofNat len)), _, _, _, X9, by simp, rfl, rfl, (fun h => by cases h), ⟨rfl, B9, p9.from hh0, f9⟩, fun fs hl => c11.trans (X9.ireturnOut hexec hret rfl (Or.inl rfl) (hb hbytes d46) hl)⟩
end Cmp5
namespace Cmp3
def yN : MethodName := ⟨"java/lang/StringUTF16", "compress", "([CII)[B"⟩
abbrev yB : ByteArray := jdk_52_method_16_code
theorem d0 : decode yB 0 = .ok (.iload_n 2, 1) := by decide +kernel
theorem d1 : decode yB 1 = .ok (.newarray .byte, 2) := by decide +kernel
theorem d3 : decode yB 3 = .ok (.astore_n 3, 1) := by decide +kernel
theorem d4 : decode yB 4 = .ok (.aload_n 0, 1) := by decide +kernel
theorem d5 : decode yB 5 = .ok (.iload_n 1, 1) := by decide +kernel
theorem d6 : decode yB 6 = .ok (.aload_n 3, 1) := by decide +kernel
theorem d7 : decode yB 7 = .ok (.iconst 0, 1) := by decide +kernel
theorem d8 : decode yB 8 = .ok (.iload_n 2, 1) := by decide +kernel
theorem d9 : decode yB 9 = .ok (.invokestatic 115, 3) := by decide +kernel
theorem d12 : decode yB 12 = .ok (.istore 4, 2) := by decide +kernel
theorem d14 : decode yB 14 = .ok (.iload 4, 2) := by decide +kernel
theorem d16 : decode yB 16 = .ok (.iload_n 2, 1) := by decide +kernel
theorem d17 : decode yB 17 = .ok (.if_icmp (.eq) 40, 3) := by decide +kernel
theorem d57 : decode yB 57 = .ok (.aload_n 3, 1) := by decide +kernel
theorem d58 : decode yB 58 = .ok (.areturn, 1) := by decide +kernel
def site : List Cond := [.arrayClass .byte, Cmp5.tab] ++ staticW U16 115 Cmp5.yN
def tab : Cond := tabOf yN yB 6 (some (.array .byte)) site
def P (b : Addr) (A : Cell) (o len : Nat) (args : Array Value) (s : State) : Prop := args = #[.ref b, .int (Int32.ofNat o), .int (Int32.ofNat len)] ∧ Ch b A s ∧ o + len ≤ A.slots.size ∧ len ≤ 536870912 ∧ ∀ i, i < len → ¬ 255 < cv A (o + i)
def E (b : Addr) (A : Cell) (o len : Nat) (r : Option Value) (s u : State) : Prop := NewArr .byte "[B" len (fun j => .int (lo8 (cv A (o + j)))) r s u ∧ u.heap.size = s.heap.size + 1
/-- no char of the range above 255: a new byte[] of their low bytes -/
theorem law (l : Launch) (b : Addr) (A : Cell) (o len : Nat) : Law l yN 3 3 1 18 yB 6 (some (.array .byte)) site (P b A o len) (E b A o len) [] 1 len := by
  refine Law.of_walk (plainFor_of_name (by decide +kernel)) (by decide +kernel) (by decide +kernel) (by decide) (fun _ _ h => by rw [h.1]; rfl) (fun _ U U' hal hh h => ⟨h.1, h.2.1.mv hal hh, h.2.2⟩) (fun r U U' V V' h1 hal h2 h => ⟨NewArr.mv r U U' V V' h1 hal h2 h.1, by rw [h1, h2]; exact h.2⟩) ?_
  intro p e s m args below meth c s₁ X0 hexec hbytes hml hret hlk hnm hown hh0 W hP
  obtain ⟨rfl, hA, l1, l2, hp⟩ := hP
  have a31 := hA.1.2.2.2
  have c1 : Steps p.tables e below (s₁.setTop (entryFrame m #[.ref b, .int (Int32.ofNat o), .int (Int32.ofNat len)] 6)) (s₁.setTop (mkF m 0 #[.val (.ref b), .val (.int (Int32.ofNat o)), .val (.int (Int32.ofNat len)), .unset, .unset, .unset] [])) := entry rfl
  have c2 : Steps p.tables e below (s₁.setTop (entryFrame m #[.ref b, .int (Int32.ofNat o), .int (Int32.ofNat len)] 6)) (s₁.setTop (mkF m 1 #[.val (.ref b), .val (.int (Int32.ofNat o)), .val (.int (Int32.ofNat len)), .unset, .unset, .unset] [.int (Int32.ofNat len)])) := c1.trans (by
    refine XS.iloadN X0.here hexec rfl (hb hbytes d0) rfl ?_
    exact Steps.refl _)
  obtain ⟨T3, B3, X3, ba3, bs3, bv3, bh3, bf3, st3⟩ := X0.anew hexec (atype := .byte) (wk W (.arrayClass .byte)) rfl (by show len * 1 ≤ _; omega) (by omega) (g := (mkF m 1 #[.val (.ref b), .val (.int (Int32.ofNat o)), .val (.int (Int32.ofNat len)), .unset, .unset, .unset] [.int (Int32.ofNat len)])) rfl (hb hbytes d1) (rest := []) rfl (Nat.le_refl _) (by show 0 + len ≤ len; omega)
  rw [hh0] at ba3 st3
  have kp3 : XT.Kept s T3 := (XT.Kept.of_eq hh0).push bh3
  have hA3 := hA.keep X3.warmed.alike (kp3 _ _ hA.1.1)
  have hne : b ≠ s.heap.size := hA.1.ne
  have c4 : Steps p.tables e below (s₁.setTop (entryFrame m #[.ref b, .int (Int32.ofNat o), .int (Int32.ofNat len)] 6)) (T3.setTop (mkF m 3 #[.val (.ref b), .val (.int (Int32.ofNat o)), .val (.int (Int32.ofNat len)), .unset, .unset, .unset] [.ref s.heap.size])) := c2.trans (st3 _ (Steps.refl _))
  have c5 : Steps p.tables e below (s₁.setTop (entryFrame m #[.ref b, .int (Int32.ofNat o), .int (Int32.ofNat len)] 6)) (T3.setTop (mkF m 9 #[.val (.ref b), .val (.int (Int32.ofNat o)), .val (.int (Int32.ofNat len)), .val (.ref s.heap.size), .unset, .unset] [.int (Int32.ofNat len), .int 0, .ref s.heap.size, .int (Int32.ofNat o), .ref b])) := c4.trans (by
    refine XS.astoreN X3.here hexec rfl (hb hbytes d3) rfl rfl rfl ?_
    refine XS.aloadN X3.here hexec rfl (hb hbytes d4) rfl rfl ?_
    refine XS.iloadN X3.here hexec rfl (hb hbytes d5) rfl ?_
    refine XS.aloadN X3.here hexec rfl (hb hbytes d6) rfl rfl ?_
    refine iconstV X3.here hexec rfl 0 (hb hbytes d7) (by decide) ?_
    refine XS.iloadN X3.here hexec rfl (hb hbytes d8) rfl ?_
    exact Steps.refl _)
  obtain ⟨v6, T6, X6, E6, g6⟩ := X3.callS hexec (Cmp5.law l b A s.heap.size B3 o 0 len) hown (wks W (staticW U16 115 Cmp5.yN)) (wk W Cmp5.tab) (W := 0) (Nat.le_of_ble_eq_true rfl) (Nat.le_of_ble_eq_true rfl) (Nat.le_refl _) (by show 0 + len + 0 ≤ len; omega) (g := (mkF m 9 #[.val (.ref b), .val (.int (Int32.ofNat o)), .val (.int (Int32.ofNat len)), .val (.ref s.heap.size), .unset, .unset] [.int (Int32.ofNat len), .int (Int32.ofNat 0), .ref s.heap.size, .int (Int32.ofNat o), .ref b])) rfl (by rw [hml]; rfl) c5 (argsL := [.ref b, .int (Int32.ofNat o), .ref s.heap.size, .int (Int32.ofNat 0), .int (Int32.ofNat len)]) (rest := []) rfl rfl (by show 2 * 0 + 0 ≤ _; decide) (hb hbytes d9) (⟨rfl, hA3, ba3, hne, l1, by rw [bs3]; simp, hp⟩)
  obtain ⟨rfl, B6, p6, f6⟩ := E6
  have c7 : Steps p.tables e below (s₁.setTop (entryFrame m #[.ref b, .int (Int32.ofNat o), .int (Int32.ofNat len)] 6)) (T6.setTop (mkF m 12 #[.val (.ref b), .val (.int (Int32.ofNat o)), .val (.int (Int32.ofNat len)), .val (.ref s.heap.size), .unset, .unset] [.int (Int32.ofNat len)])) := g6
  have c8 : Steps p.tables e below (s₁.setTop (entryFrame m #[.ref b, .int (Int32.ofNat o), .int (Int32.ofNat len)] 6)) (T6.setTop (mkF m 58 #[.val (.ref b), .val (.int (Int32.ofNat o)), .val (.int (Int32.ofNat len)), .val (.ref s.heap.size), .val (.int (Int32.ofNat len)), .unset] [.ref s.heap.size])) := c7.trans (by
    refine XS.istore X6.here hexec rfl (hb hbytes d12) rfl rfl ?_
    refine XS.iload X6.here hexec rfl (hb hbytes d14) rfl ?_
    refine XS.iloadN X6.here hexec rfl (hb hbytes d16) rfl ?_
    refine XS.icmpYes X6.here hexec rfl (pc0 := 17) rfl (hb hbytes d17) rfl (ii_eq_t rfl) (by decide) rfl ?_
    refine XS.aloadN X6.here hexec rfl (hb hbytes d57) rfl rfl ?_
    exact Steps.refl _)
  have X8 := X6.wide (L' := []) (cells' := 1) (slots' := len) (fun x hx hlt => by
    simp only [List.nil_append, copyLocs, List.mem_map, List.mem_range] at hx
    obtain ⟨i, -, rfl⟩ := hx
    exact absurd hlt (Nat.lt_irrefl _)) (Nat.le_refl _) (by omega)
  exact ⟨T6, some (.ref s.heap.size), _, _, _, X8, rfl, rfl, rfl, (fun h => by cases h), ⟨⟨rfl, B6, ba3.like (X3.warmed.alike.symm.trans X6.warmed.alike) p6.1 f6.1 f6.2.1 f6.2.2.1, f6.2.1.trans bv3, by rw [X6.warmed.alike.findClass, f6.1]; exact bf3, by rw [f6.2.2.1, bs3]; simp, fun j hj => by rw [f6.2.2.2 j, if_pos (by omega)]; rfl, kp3.put p6 (Nat.le_refl _)⟩, by rw [p6.2.2, bh3, hh0]; simp⟩, fun fs hl => c8.trans (X8.areturnOut hexec rfl hret rfl (hb hbytes d58) hl)⟩
end Cmp3
namespace CodL
def yN : MethodName := ⟨"java/lang/StringUTF16", "coderFromArrayLen", "([BI)B"⟩
abbrev yB : ByteArray := jdk_52_method_15_code
theorem d0 : decode yB 0 = .ok (.iload_n 1, 1) := by decide +kernel
theorem d1 : decode yB 1 = .ok (.aload_n 0, 1) := by decide +kernel
theorem d2 : decode yB 2 = .ok (.arraylength, 1) := by decide +kernel
theorem d3 : decode yB 3 = .ok (.isub, 1) := by decide +kernel
theorem d4 : decode yB 4 = .ok (.bipush 31, 2) := by decide +kernel
theorem d6 : decode yB 6 = .ok (.iushr, 1) := by decide +kernel
theorem d7 : decode yB 7 = .ok (.i2b, 1) := by decide +kernel
theorem d8 : decode yB 8 = .ok (.ireturn, 1) := by decide +kernel
def site : List Cond := []
def tab : Cond := tabOf yN yB 2 (some .byte) site
def P (d : Addr) (B : Cell) (args : Array Value) (s : State) : Prop := args = #[.ref d, .int (Int32.ofNat B.slots.size)] ∧ Arr .byte d B s
def E (r : Option Value) (s u : State) : Prop := XT.PureE (some (.int 0)) r s u
/-- an array as long as the number of chars: LATIN1 -/
theorem law (l : Launch) (d : Addr) (B : Cell) : Law l yN 2 2 0 0 yB 2 (some .byte) site (P d B) E [] 0 0 := by
  refine Law.of_walk (plainFor_of_name (by decide +kernel)) (by decide +kernel) (by decide +kernel) (by decide) (fun _ _ h => by rw [h.1]; rfl) (fun _ U U' hal hh h => ⟨h.1, h.2.mv hal hh⟩) (fun r U U' V V' h1 hal h2 h => XT.PureE.mv r U U' V V' h1 hal h2 h) ?_
  intro p e s m args below meth c s₁ X0 hexec hbytes hml hret hlk hnm hown hh0 W hP
  obtain ⟨rfl, hB⟩ := hP
  have hB0 := hB.mv X0.warmed.alike hh0
  have c1 : Steps p.tables e below (s₁.setTop (entryFrame m #[.ref d, .int (Int32.ofNat B.slots.size)] 2)) (s₁.setTop (mkF m 0 #[.val (.ref d), .val (.int (Int32.ofNat B.slots.size))] [])) := entry rfl
  have c2 : Steps p.tables e below (s₁.setTop (entryFrame m #[.ref d, .int (Int32.ofNat B.slots.size)] 2)) (s₁.setTop (mkF m 2 #[.val (.ref d), .val (.int (Int32.ofNat B.slots.size))] [.ref d, .int (Int32.ofNat B.slots.size)])) := c1.trans (by
    refine XS.iloadN X0.here hexec rfl (hb hbytes d0) rfl ?_
    refine XS.aloadN X0.here hexec rfl (hb hbytes d1) rfl rfl ?_
    exact Steps.refl _)
  have c3 : Steps p.tables e below (s₁.setTop (entryFrame m #[.ref d, .int (Int32.ofNat B.slots.size)] 2)) (s₁.setTop (mkF m 8 #[.val (.ref d), .val (.int (Int32.ofNat B.slots.size))] [.int (lo8 (ushr (Int32.ofNat B.slots.size - Int32.ofNat B.slots.size) 31))])) := c2.trans (by
    refine X0.alen hexec hB0 rfl rfl (hb hbytes d2) ?_
    refine XS.isub X0.here hexec rfl (hb hbytes d3) rfl ?_
    refine bipushV X0.here hexec rfl 31 (hb hbytes d4) (by decide) ?_
    refine iushr X0.here hexec rfl (hb hbytes d6) rfl ?_
    refine i2b X0.here hexec rfl (hb hbytes d7) rfl ?_
    exact Steps.refl _)
  have e0 : lo8 (ushr (Int32.ofNat B.slots.size - Int32.ofNat B.slots.size) 31) = 0 := by rw [Int32.sub_self]; decide
  rw [e0] at c3
  exact ⟨s₁, some (.int 0), _, _, _, X0, rfl, rfl, rfl, (fun h => by cases h), ⟨rfl, hh0⟩, fun fs hl => c3.trans (X0.ireturnOut hexec hret rfl (Or.inr (Or.inr (Or.inl rfl))) (hb hbytes d8) hl)⟩
end CodL
/-- the String at a is Latin-1 over a new byte[] (the heap's one new cell): the low bytes of the len chars of A from o on; every cell but a is kept -/
def Got (a : Addr) (D : Cell) (fV fC : Field) (A : Cell) (o len : Nat) (r : Option Value) (s u : State) : Prop := r = none ∧ ∃ D' V : Cell, Blank "java/lang/String" a D' u ∧ Same D D' [fV.slot, fC.slot] ∧ D'.slots[fV.slot]? = some (.ref s.heap.size) ∧ D'.slots[fC.slot]? = some (.int 0) ∧ Arr .byte s.heap.size V u ∧ V.vm = .none ∧ u.vm.findClass "[B" = some V.cls ∧ V.slots.size = len ∧ (∀ j, j < len → V.slots[j]? = some (.int (lo8 (cv A (o + j))))) ∧ (∀ (y : Addr) (c : Cell), y ≠ a → s.heap[y]? = some c → u.heap[y]? = some c) ∧ u.heap.size = s.heap.size + 1
theorem Got.mv {a : Addr} {D A : Cell} {fV fC : Field} {o len : Nat} : ∀ r (U U' V V' : State), U'.heap = U.heap → V.vm.Alike V'.vm → V'.heap = V.heap → Got a D fV fC A o len r U V → Got a D fV fC A o len r U' V' :=
  fun r U U' V V' h1 hal h2 ⟨e0, D', X, a1, a2, a3, a4, a5, a6, a7, a8, a9, a10, a11⟩ => ⟨e0, D', X, a1.mv hal h2, a2, by rw [h1]; exact a3, a4, by rw [h1]; exact a5.mv hal h2, a6, by rw [hal.findClass]; exact a7, a8, a9, by rw [h1, h2]; exact a10, by rw [h1, h2]; exact a11⟩
namespace New4
def yN : MethodName := ⟨"java/lang/String", "<init>", "([CIILjava/lang/Void;)V"⟩
abbrev yB : ByteArray := jdk_42_method_149_code
theorem d0 : decode yB 0 = .ok (.aload_n 0, 1) := by decide +kernel
theorem d1 : decode yB 1 = .ok (.invokespecial 1, 3) := by decide +kernel
theorem d4 : decode yB 4 = .ok (.iload_n 3, 1) := by decide +kernel
theorem d5 : decode yB 5 = .ok (.ifCond (.ne) 22, 3) := by decide +kernel
theorem d27 : decode yB 27 = .ok (.getstatic 38, 3) := by decide +kernel
theorem d30 : decode yB 30 = .ok (.ifCond (.eq) 28, 3) := by decide +kernel
theorem d33 : decode yB 33 = .ok (.aload_n 1, 1) := by decide +kernel
theorem d34 : decode yB 34 = .ok (.iload_n 2, 1) := by decide +kernel
theorem d35 : decode yB 35 = .ok (.iload_n 3, 1) := by decide +kernel
theorem d36 : decode yB 36 = .ok (.invokestatic 177, 3) := by decide +kernel
theorem d39 : decode yB 39 = .ok (.astore 5, 2) := by decide +kernel
theorem d41 : decode yB 41 = .ok (.aload_n 0, 1) := by decide +kernel
theorem d42 : decode yB 42 = .ok (.aload 5, 2) := by decide +kernel
theorem d44 : decode yB 44 = .ok (.iload_n 3, 1) := by decide +kernel
theorem d45 : decode yB 45 = .ok (.invokestatic 47, 3) := by decide +kernel
theorem d48 : decode yB 48 = .ok (.putfield 15, 3) := by decide +kernel
theorem d51 : decode yB 51 = .ok (.aload_n 0, 1) := by decide +kernel
theorem d52 : decode yB 52 = .ok (.aload 5, 2) := by decide +kernel
theorem d54 : decode yB 54 = .ok (.putfield 9, 3) := by decide +kernel
theorem d57 : decode yB 57 = .ok (.return_, 1) := by decide +kernel
def site : List Cond := [.fieldLink "java/lang/String" 38 "java/lang/String" "COMPACT_STRINGS" "Z", Cmp3.tab, CodL.tab, .laysFinal "java/lang/String" "java/lang/String" "value" "[B", .fieldLink "java/lang/String" 9 "java/lang/String" "value" "[B", .laysFinal "java/lang/String" "java/lang/String" "coder" "B", .fieldLink "java/lang/String" 15 "java/lang/String" "coder" "B"] ++ objW "java/lang/String" 1 ++ staticW "java/lang/String" 177 Cmp3.yN ++ staticW "java/lang/String" 47 CodL.yN
def tab : Cond := tabOf yN yB 6 none site
def P (a : Addr) (D : Cell) (fV fC : Field) (b : Addr) (A : Cell) (z : Int32) (o len : Nat) (args : Array Value) (s : State) : Prop := args = #[.ref a, .ref b, .int (Int32.ofNat o), .int (Int32.ofNat len), .null] ∧ Blank "java/lang/String" a D s ∧ Found "java/lang/String" "value" "[B" fV s ∧ Found "java/lang/String" "coder" "B" fC s ∧ Ch b A s ∧ StaticIs s "java/lang/String" "COMPACT_STRINGS" "Z" (.int z) ∧ ¬ z = 0 ∧ 0 < len ∧ o + len ≤ A.slots.size ∧ len ≤ 536870912 ∧ ∀ i, i < len → ¬ 255 < cv A (o + i)
def E (a : Addr) (D : Cell) (fV fC : Field) (A : Cell) (o len : Nat) (r : Option Value) (s u : State) : Prop := Got a D fV fC A o len r s u
/-- len > 0, no char of the range above 255: a Latin-1 String of their low bytes -/
theorem law (l : Launch) (a : Addr) (D : Cell) (fV fC : Field) (b : Addr) (A : Cell) (z : Int32) (o len : Nat) : Law l yN 5 4 2 35 yB 6 none site (P a D fV fC b A z o len) (E a D fV fC A o len) [⟨a, fC.slot⟩, ⟨a, fV.slot⟩] 1 len := by
  refine Law.of_walk (plainFor_of_name (by decide +kernel)) (by decide +kernel) (by decide +kernel) (by decide) (fun _ _ h => by rw [h.1]; rfl) (fun _ U U' hal hh h => ⟨h.1, h.2.1.mv hal hh, h.2.2.1.al hal, h.2.2.2.1.al hal, h.2.2.2.2.1.mv hal hh, h.2.2.2.2.2.1.there hal hh, h.2.2.2.2.2.2⟩) (fun r U U' V V' h1 hal h2 h => Got.mv r U U' V V' h1 hal h2 h) ?_
  intro p e s m args below meth c s₁ X0 hexec hbytes hml hret hlk hnm hown hh0 W hP
  obtain ⟨rfl, hB, f1, f2, hA, s1, hz, l0, l1, l2, hp⟩ := hP
  have a31 := hA.1.2.2.2
  have c1 : Steps p.tables e below (s₁.setTop (entryFrame m #[.ref a, .ref b, .int (Int32.ofNat o), .int (Int32.ofNat len), .null] 6)) (s₁.setTop (mkF m 0 #[.val (.ref a), .val (.ref b), .val (.int (Int32.ofNat o)), .val (.int (Int32.ofNat len)), .val .null, .unset] [])) := entry rfl
  have c2 : Steps p.tables e below (s₁.setTop (entryFrame m #[.ref a, .ref b, .int (Int32.ofNat o), .int (Int32.ofNat len), .null] 6)) (s₁.setTop (mkF m 1 #[.val (.ref a), .val (.ref b), .val (.int (Int32.ofNat o)), .val (.int (Int32.ofNat len)), .val .null, .unset] [.ref a])) := c1.trans (by
    refine XS.aloadN X0.here hexec rfl (hb hbytes d0) rfl rfl ?_
    exact Steps.refl _)
  obtain ⟨T3, X3, q3, st3⟩ := X0.oinit hexec hown (wks W (objW "java/lang/String" 1)) (g := (mkF m 1 #[.val (.ref a), .val (.ref b), .val (.int (Int32.ofNat o)), .val (.int (Int32.ofNat len)), .val .null, .unset] [.ref a])) rfl (by rw [hml]; rfl) (rest := []) rfl (hb hbytes d1) (W := 0) (by show 2 * 0 + 0 ≤ _; decide) (Nat.le_of_ble_eq_true rfl) (Nat.le_of_ble_eq_true rfl)
  have hh3 := q3.trans hh0
  have c4 : Steps p.tables e below (s₁.setTop (entryFrame m #[.ref a, .ref b, .int (Int32.ofNat o), .int (Int32.ofNat len), .null] 6)) (T3.setTop (mkF m 27 #[.val (.ref a), .val (.ref b), .val (.int (Int32.ofNat o)), .val (.int (Int32.ofNat len)), .val .null, .unset] [])) := (c2.trans (st3 _ (Steps.refl _))).trans (by
    refine XS.iloadN X3.here hexec rfl (hb hbytes d4) rfl ?_
    refine XS.ifYes X3.here hexec rfl (pc0 := 5) rfl (hb hbytes d5) rfl (i0_ne_t (nz32 (by omega) l0)) (by decide) rfl ?_
    exact Steps.refl _)
  obtain ⟨T5, X5, q5, st5⟩ := X3.sget hexec hown (wk W (.fieldLink "java/lang/String" 38 "java/lang/String" "COMPACT_STRINGS" "Z")) s1 (fun _ _ h => by rw [hh3]; exact h) (g := (mkF m 27 #[.val (.ref a), .val (.ref b), .val (.int (Int32.ofNat o)), .val (.int (Int32.ofNat len)), .val .null, .unset] [])) rfl (hb hbytes d27)
  have hh5 := q5.trans hh3
  have c6 : Steps p.tables e below (s₁.setTop (entryFrame m #[.ref a, .ref b, .int (Int32.ofNat o), .int (Int32.ofNat len), .null] 6)) (T5.setTop (mkF m 30 #[.val (.ref a), .val (.ref b), .val (.int (Int32.ofNat o)), .val (.int (Int32.ofNat len)), .val .null, .unset] [.int z])) := c4.trans (st5 _ (Steps.refl _))
  have c7 : Steps p.tables e below (s₁.setTop (entryFrame m #[.ref a, .ref b, .int (Int32.ofNat o), .int (Int32.ofNat len), .null] 6)) (T5.setTop (mkF m 36 #[.val (.ref a), .val (.ref b), .val (.int (Int32.ofNat o)), .val (.int (Int32.ofNat len)), .val .null, .unset] [.int (Int32.ofNat len), .int (Int32.ofNat o), .ref b])) := c6.trans (by
    refine XS.ifNo X5.here hexec rfl (hb hbytes d30) rfl (i0_eq_f hz) ?_
    refine XS.aloadN X5.here hexec rfl (hb hbytes d33) rfl rfl ?_
    refine XS.iloadN X5.here hexec rfl (hb hbytes d34) rfl ?_
    refine XS.iloadN X5.here hexec rfl (hb hbytes d35) rfl ?_
    exact Steps.refl _)
  obtain ⟨v8, T8, X8, E8, g8⟩ := X5.callS hexec (Cmp3.law l b A o len) hown (wks W (staticW "java/lang/String" 177 Cmp3.yN)) (wk W Cmp3.tab) (W := 0) (Nat.le_of_ble_eq_true rfl) (Nat.le_of_ble_eq_true rfl) (Nat.le_refl _) (by show 0 + len ≤ len; omega) (g := (mkF m 36 #[.val (.ref a), .val (.ref b), .val (.int (Int32.ofNat o)), .val (.int (Int32.ofNat len)), .val .null, .unset] [.int (Int32.ofNat len), .int (Int32.ofNat o), .ref b])) rfl (by rw [hml]; rfl) c7 (argsL := [.ref b, .int (Int32.ofNat o), .int (Int32.ofNat len)]) (rest := []) rfl rfl (by show 2 * 0 + 0 ≤ _; decide) (hb hbytes d36) (⟨rfl, hA.mv X5.warmed.alike hh5, l1, l2, hp⟩)
  obtain ⟨e8, z8⟩ := E8
  obtain ⟨rfl, N, n1, n2, n3, n4, n5, n6⟩ := NewArr.mv _ T5 s _ _ hh5.symm (Vm.Alike.refl _) rfl e8
  rw [hh5] at z8
  have hB1 := hB.keep X8.warmed.alike (n6 _ _ hB.1)
  have hne : s.heap.size ≠ a := (Nat.ne_of_lt (Array.getElem?_eq_some_iff.mp hB.1).1).symm
  have c9 : Steps p.tables e below (s₁.setTop (entryFrame m #[.ref a, .ref b, .int (Int32.ofNat o), .int (Int32.ofNat len), .null] 6)) (T8.setTop (mkF m 39 #[.val (.ref a), .val (.ref b), .val (.int (Int32.ofNat o)), .val (.int (Int32.ofNat len)), .val .null, .unset] [.ref s.heap.size])) := g8
  have c10 : Steps p.tables e below (s₁.setTop (entryFrame m #[.ref a, .ref b, .int (Int32.ofNat o), .int (Int32.ofNat len), .null] 6)) (T8.setTop (mkF m 45 #[.val (.ref a), .val (.ref b), .val (.int (Int32.ofNat o)), .val (.int (Int32.ofNat len)), .val .null, .val (.ref s.heap.size)] [.int (Int32.ofNat N.slots.size), .ref s.heap.size, .ref a])) := by
    have hc : Steps p.tables e below (s₁.setTop (entryFrame m #[.ref a, .ref b, .int (Int32.ofNat o), .int (Int32.ofNat len), .null] 6)) (T8.setTop (mkF m 45 #[.val (.ref a), .val (.ref b), .val (.int (Int32.ofNat o)), .val (.int (Int32.ofNat len)), .val .null, .val (.ref s.heap.size)] [.int (Int32.ofNat len), .ref s.heap.size, .ref a])) := c9.trans (by
      refine XS.astore X8.here hexec rfl (hb hbytes d39) rfl rfl rfl ?_
      refine XS.aloadN X8.here hexec rfl (hb hbytes d41) rfl rfl ?_
      refine XS.aload X8.here hexec rfl (hb hbytes d42) rfl rfl ?_
      refine XS.iloadN X8.here hexec rfl (hb hbytes d44) rfl ?_
      exact Steps.refl _)
    rw [n4]; exact hc
  obtain ⟨v11, T11, X11, E11, g11⟩ := X8.callS hexec (CodL.law l s.heap.size N) hown (wks W (staticW "java/lang/String" 47 CodL.yN)) (wk W CodL.tab) (W := 1) (Nat.le_of_ble_eq_true rfl) (Nat.le_of_ble_eq_true rfl) (Nat.le_refl _) (by show 0 + len + 0 ≤ len; omega) (g := (mkF m 45 #[.val (.ref a), .val (.ref b), .val (.int (Int32.ofNat o)), .val (.int (Int32.ofNat len)), .val .null, .val (.ref s.heap.size)] [.int (Int32.ofNat N.slots.size), .ref s.heap.size, .ref a])) rfl (by rw [hml]; rfl) c10 (argsL := [.ref s.heap.size, .int (Int32.ofNat N.slots.size)]) (rest := [.ref a]) rfl rfl (by show 2 * 0 + (1 + 0) ≤ _; decide) (hb hbytes d45) (⟨rfl, n1⟩)
  obtain ⟨rfl, q11⟩ := E11
  have hB11 := hB1.mv (X8.warmed.alike.symm.trans X11.warmed.alike) q11
  have c12 : Steps p.tables e below (s₁.setTop (entryFrame m #[.ref a, .ref b, .int (Int32.ofNat o), .int (Int32.ofNat len), .null] 6)) (T11.setTop (mkF m 48 #[.val (.ref a), .val (.ref b), .val (.int (Int32.ofNat o)), .val (.int (Int32.ofNat len)), .val .null, .val (.ref s.heap.size)] [.int 0, .ref a])) := g11
  obtain ⟨T13, X13, p13, bl13, sl13, st13⟩ := X11.finit hexec hown (wk W (.fieldLink "java/lang/String" 15 "java/lang/String" "coder" "B")) (Or.inr ⟨_, (wk W (.laysFinal "java/lang/String" "java/lang/String" "coder" "B"))⟩) (Or.inl ⟨rfl, hnm⟩) f2 (Or.inl rfl) hB11 (t := .byte) (by decide +kernel) rfl (g := (mkF m 48 #[.val (.ref a), .val (.ref b), .val (.int (Int32.ofNat o)), .val (.int (Int32.ofNat len)), .val .null, .val (.ref s.heap.size)] [.int 0, .ref a])) rfl (rest := []) rfl (hb hbytes d48)
  have c14 : Steps p.tables e below (s₁.setTop (entryFrame m #[.ref a, .ref b, .int (Int32.ofNat o), .int (Int32.ofNat len), .null] 6)) (T13.setTop (mkF m 54 #[.val (.ref a), .val (.ref b), .val (.int (Int32.ofNat o)), .val (.int (Int32.ofNat len)), .val .null, .val (.ref s.heap.size)] [.ref s.heap.size, .ref a])) := (c12.trans (st13 _ (Steps.refl _))).trans (by
    refine XS.aloadN X13.here hexec rfl (hb hbytes d51) rfl rfl ?_
    refine XS.aload X13.here hexec rfl (hb hbytes d52) rfl rfl ?_
    exact Steps.refl _)
  obtain ⟨T15, X15, p15, bl15, sl15, st15⟩ := X13.finit hexec hown (wk W (.fieldLink "java/lang/String" 9 "java/lang/String" "value" "[B")) (Or.inr ⟨_, (wk W (.laysFinal "java/lang/String" "java/lang/String" "value" "[B"))⟩) (Or.inl ⟨rfl, hnm⟩) f1 (Or.inl rfl) bl13 (t := (.array .byte)) (by decide +kernel) rfl (g := (mkF m 54 #[.val (.ref a), .val (.ref b), .val (.int (Int32.ofNat o)), .val (.int (Int32.ofNat len)), .val .null, .val (.ref s.heap.size)] [.ref s.heap.size, .ref a])) rfl (rest := []) rfl (hb hbytes d54)
  have c16 : Steps p.tables e below (s₁.setTop (entryFrame m #[.ref a, .ref b, .int (Int32.ofNat o), .int (Int32.ofNat len), .null] 6)) (T15.setTop (mkF m 57 #[.val (.ref a), .val (.ref b), .val (.int (Int32.ofNat o)), .val (.int (Int32.ofNat len)), .val .null, .val (.ref s.heap.size)] [])) := c14.trans (st15 _ (Steps.refl _))
  have ap := apart (Or.inr ⟨_, (wk W (.laysFinal "java/lang/String" "java/lang/String" "value" "[B"))⟩) (Or.inr ⟨_, (wk W (.laysFinal "java/lang/String" "java/lang/String" "coder" "B"))⟩) f1 f2 (t₁ := .array .byte) (t₂ := .byte) (by decide +kernel) (by decide +kernel) (by decide)
  have al := X8.warmed.alike.symm.trans X15.warmed.alike
  have n7 : T11.heap[s.heap.size]? = some N := by rw [q11]; exact n1.1
  exact ⟨T15, none, _, _, _, X15, by simp, rfl, by omega, (fun _ => rfl), ⟨rfl, _, N, bl15, ((Same.refl D _).set _ (by simp)).set _ (by simp), sl15, (Cell.slots_setSlot_ne _ ap).trans sl13, n1.keep al (p15.other hne (p13.other hne n7)), n2, by rw [al.findClass]; exact n3, n4, n5, fun y c h1 h2 => p15.other h1 (p13.other h1 (by rw [q11]; exact n6 y c h2)), by rw [p15.2.2, p13.2.2, q11]; exact z8⟩, fun fs hl => c16.trans (X15.returnOut hexec hret (hb hbytes d57) hl)⟩
end New4
namespace New1
def yN : MethodName := ⟨"java/lang/String", "<init>", "([C)V"⟩
abbrev yB : ByteArray := jdk_42_method_3_code
theorem d0 : decode yB 0 = .ok (.aload_n 0, 1) := by decide +kernel
theorem d1 : decode yB 1 = .ok (.aload_n 1, 1) := by decide +kernel
theorem d2 : decode yB 2 = .ok (.iconst 0, 1) := by decide +kernel
theorem d3 : decode yB 3 = .ok (.aload_n 1, 1) := by decide +kernel
theorem d4 : decode yB 4 = .ok (.arraylength, 1) := by decide +kernel
theorem d5 : decode yB 5 = .ok (.aconst_null, 1) := by decide +kernel
theorem d6 : decode yB 6 = .ok (.invokespecial 27, 3) := by decide +kernel
theorem d9 : decode yB 9 = .ok (.return_, 1) := by decide +kernel
def site : List Cond := [New4.tab] ++ initW "java/lang/String" 27 New4.yN
def tab : Cond := tabOf yN yB 2 none site
def P (a : Addr) (D : Cell) (fV fC : Field) (b : Addr) (A : Cell) (z : Int32) (args : Array Value) (s : State) : Prop := args = #[.ref a, .ref b] ∧ Blank "java/lang/String" a D s ∧ Found "java/lang/String" "value" "[B" fV s ∧ Found "java/lang/String" "coder" "B" fC s ∧ Ch b A s ∧ StaticIs s "java/lang/String" "COMPACT_STRINGS" "Z" (.int z) ∧ ¬ z = 0 ∧ 0 < A.slots.size ∧ A.slots.size ≤ 536870912 ∧ ∀ i, i < A.slots.size → ¬ 255 < cv A i
def E (a : Addr) (D : Cell) (fV fC : Field) (A : Cell) (r : Option Value) (s u : State) : Prop := Got a D fV fC A 0 A.slots.size r s u
/-- new String(chars), not empty, no char above 255: a Latin-1 String of their low bytes -/
theorem law (l : Launch) (a : Addr) (D : Cell) (fV fC : Field) (b : Addr) (A : Cell) (z : Int32) : Law l yN 2 1 3 52 yB 2 none site (P a D fV fC b A z) (E a D fV fC A) [⟨a, fC.slot⟩, ⟨a, fV.slot⟩] 1 A.slots.size := by
  refine Law.of_walk (plainFor_of_name (by decide +kernel)) (by decide +kernel) (by decide +kernel) (by decide) (fun _ _ h => by rw [h.1]; rfl) (fun _ U U' hal hh h => ⟨h.1, h.2.1.mv hal hh, h.2.2.1.al hal, h.2.2.2.1.al hal, h.2.2.2.2.1.mv hal hh, h.2.2.2.2.2.1.there hal hh, h.2.2.2.2.2.2⟩) (fun r U U' V V' h1 hal h2 h => Got.mv r U U' V V' h1 hal h2 h) ?_
  intro p e s m args below meth c s₁ X0 hexec hbytes hml hret hlk hnm hown hh0 W hP
  obtain ⟨rfl, hB, f1, f2, hA, s1, hz, l0, l2, hp⟩ := hP
  have c1 : Steps p.tables e below (s₁.setTop (entryFrame m #[.ref a, .ref b] 2)) (s₁.setTop (mkF m 0 #[.val (.ref a), .val (.ref b)] [])) := entry rfl
  have c2 : Steps p.tables e below (s₁.setTop (entryFrame m #[.ref a, .ref b] 2)) (s₁.setTop (mkF m 6 #[.val (.ref a), .val (.ref b)] [.null, .int (Int32.ofNat A.slots.size), .int 0, .ref b, .ref a])) := c1.trans (by
    refine XS.aloadN X0.here hexec rfl (hb hbytes d0) rfl rfl ?_
    refine XS.aloadN X0.here hexec rfl (hb hbytes d1) rfl rfl ?_
    refine iconstV X0.here hexec rfl 0 (hb hbytes d2) (by decide) ?_
    refine XS.aloadN X0.here hexec rfl (hb hbytes d3) rfl rfl ?_
    refine X0.alen hexec (hA.1.mv X0.warmed.alike hh0) rfl rfl (hb hbytes d4) ?_
    refine XS.aconstNull X0.here hexec rfl (hb hbytes d5) ?_
    exact Steps.refl _)
  obtain ⟨v3, T3, X3, E3, g3⟩ := X0.callN hexec (New4.law l a D fV fC b A z 0 A.slots.size) rfl hown (wks W (initW "java/lang/String" 27 New4.yN)) (W New4.tab (by simp only [site, List.mem_cons, List.mem_append, true_or, or_true])) (W := 0) (Nat.le_of_ble_eq_true rfl) (Nat.le_of_ble_eq_true rfl) (Nat.le_refl _) (by show 0 + A.slots.size ≤ A.slots.size; omega) (g := (mkF m 6 #[.val (.ref a), .val (.ref b)] [.null, .int (Int32.ofNat A.slots.size), .int (Int32.ofNat 0), .ref b, .ref a])) rfl (by rw [hml]; rfl) c2 (argsL := [.ref b, .int (Int32.ofNat 0), .int (Int32.ofNat A.slots.size), .null]) (rest := []) rfl rfl (by show 2 * 0 + 0 ≤ _; decide) (hb hbytes d6) (⟨rfl, hB.mv X0.warmed.alike hh0, f1.al X0.warmed.alike, f2.al X0.warmed.alike, hA.mv X0.warmed.alike hh0, s1.there X0.warmed.alike hh0, hz, l0, by omega, l2, fun i hi => by rw [Nat.zero_add]; exact hp i hi⟩)
  have e0 := Got.mv _ s₁ s _ _ hh0.symm (Vm.Alike.refl _) rfl E3
  obtain rfl := e0.1
  have c4 : Steps p.tables e below (s₁.setTop (entryFrame m #[.ref a, .ref b] 2)) (T3.setTop (mkF m 9 #[.val (.ref a), .val (.ref b)] [])) := g3
  exact ⟨T3, none, _, _, _, X3, by simp, rfl, by omega, (fun _ => rfl), e0, fun fs hl => c4.trans (X3.returnOut hexec hret (hb hbytes d9) hl)⟩
theorem pays {l : Launch} {R : Room} {p : Program} {e : Env} {below : List Frame} {s : State} {sargs : Array Value} {len W : Nat} (a : Addr) (D : Cell) (fV fC : Field) (b : Addr) (A : Cell) (z : Int32) (htab : tab.before sargs s = true) (hfr : 4 ≤ R.frames) (hlo : W + 65 ≤ R.locals) :
    Back l R p e below s sargs yN len W (fun A₁ a₁ => A₁.cells + 1 ≤ R.cells ∧ A₁.slots + A.slots.size ≤ R.slots ∧ P a D fV fC b A z a₁ A₁.U) (fun A₁ _ v₁ B₁ => E a D fV fC A v₁ A₁.U B₁.U ∧ B₁.locs = A₁.locs ++ [⟨a, fC.slot⟩, ⟨a, fV.slot⟩] ∧ B₁.cells = A₁.cells + 1 ∧ B₁.slots = A₁.slots + A.slots.size) :=
  (law l a D fV fC b A z).pays htab hfr (by omega)
end New1
/-- the byte, read back as charAt reads it, is the char -/
theorem lo8_mask {x : Int32} (h0 : ¬ x < 0) (h1 : ¬ 255 < x) : lo8 x &&& 255 = x := by
  have t : ∀ k : Fin 256, lo8 (Int32.ofNat k.val) &&& 255 = Int32.ofNat k.val := by decide +kernel
  rw [Int32.lt_iff_toInt_lt] at h0 h1
  have e0 : (0 : Int32).toInt = 0 := rfl
  have e1 : (255 : Int32).toInt = 255 := rfl
  obtain ⟨k, hk⟩ : ∃ k : Nat, x.toInt = k := ⟨x.toInt.toNat, by omega⟩
  have hx : x = Int32.ofNat k := Int32.toInt_inj.mp (by rw [hk, Int32.toInt_ofNat_small (by omega)])
  rw [hx]
  exact t ⟨k, by omega⟩
end StrChars
namespace StrChars.Road
open Jvm Sem ClassFile Op Lib Jvm.Stand Jvm.Free Jvm.Free.XT
open Jvm.Lib.Cold (StaticIs)
abbrev ST : String := "java/lang/String"
/-- every table word that New1's law asks, flat -/
abbrev words : List Jvm.Cond := [.code New1.yN New1.yB 2 none, .initialized ST, .methodLink ST 27 New4.yN, .instanceMethod New4.yN,
  .code New4.yN New4.yB 6 none, .fieldLink ST 38 ST "COMPACT_STRINGS" "Z", .laysFinal ST ST "value" "[B", .fieldLink ST 9 ST "value" "[B", .laysFinal ST ST "coder" "B", .fieldLink ST 15 ST "coder" "B",
  .methodLink ST 1 Lib.objectInit, .instanceMethod Lib.objectInit, .code Lib.objectInit ⟨#[0xb1]⟩ 1 none, .methodLink ST 177 Cmp3.yN, .static Cmp3.yN, .methodLink ST 47 CodL.yN, .static CodL.yN,
  .code Cmp3.yN Cmp3.yB 6 (some (.array .byte)), .initialized U16, .arrayClass .byte, .methodLink U16 115 Cmp5.yN, .static Cmp5.yN, .code Cmp5.yN Cmp5.yB 7 (some .int), .code CodL.yN CodL.yB 2 (some .byte)]
theorem tab_of {a : Array Value} {s : State} (h : ∀ w ∈ words, w.before a s = true) : New1.tab.before a s = true := by
  have h5 : Cmp5.tab.before a s = true := unparts (wk h (.code Cmp5.yN Cmp5.yB 7 (some .int))) (wks h (.initialized Cmp5.yN.cls :: Cmp5.site))
  have hc : CodL.tab.before a s = true := unparts (wk h (.code CodL.yN CodL.yB 2 (some .byte))) (wks h (.initialized CodL.yN.cls :: CodL.site))
  have q5 : ∀ w ∈ Cmp5.tab :: words, w.before a s = true := fun w hw => (List.mem_cons.mp hw).elim (fun e => e ▸ h5) (h w)
  have h3 : Cmp3.tab.before a s = true := unparts (wk q5 (.code Cmp3.yN Cmp3.yB 6 (some (.array .byte)))) (wks q5 (.initialized Cmp3.yN.cls :: Cmp3.site))
  have q3 : ∀ w ∈ Cmp3.tab :: CodL.tab :: words, w.before a s = true := fun w hw => (List.mem_cons.mp hw).elim (fun e => e ▸ h3) fun hw => (List.mem_cons.mp hw).elim (fun e => e ▸ hc) (h w)
  have h4 : New4.tab.before a s = true := unparts (wk q3 (.code New4.yN New4.yB 6 none)) (wks q3 (.initialized New4.yN.cls :: New4.site))
  have q4 : ∀ w ∈ New4.tab :: words, w.before a s = true := fun w hw => (List.mem_cons.mp hw).elim (fun e => e ▸ h4) (h w)
  exact unparts (wk q4 (.code New1.yN New1.yB 2 none)) (wks q4 (.initialized New1.yN.cls :: New1.site))
/-- the words ride from the start Z to the walk's own state -/
theorem moved {Z s : State} {a0 args : Array Value} (hZ : Z.Warmed39 s.vm) (hw : ∀ d ∈ words, d.before a0 Z = true) : ∀ d ∈ words, d.before args s = true := fun d hd => by
  have q := hw d hd
  have t : ∀ d ∈ words, d = .arrayClass .byte ∨ (d.onTables && d.keepsFace) = true := by decide +kernel
  rcases t d hd with rfl | t
  · exact RoadKit.mvA hZ q
  · exact RoadKit.mv hZ q t
/-- WHAT COMES BACK, over the tables of the start Z: h the heap at the call, h' behind it -/
def Q (Z : State) (x : Addr) (A : Cell) (h : Heap) (v : Option Value) (h' : Heap) (L : List Loc) : Prop := v = none ∧ (∀ y ∈ L, y.base = x) ∧ RoadKit.Keep h h' [x] ∧ h'.size = h.size + 1 ∧ RoadKit.Exa Z h' x ST ∧ RoadKit.Fld Z h' x ST "value" "[B" (.ref h.size) ∧ RoadKit.Fld Z h' x ST "coder" "B" (.int 0) ∧
  (∃ V : Cell, RoadKit.Arr Z h' h.size V .byte ∧ V.vm = .none ∧ Z.vm.findClass "[B" = some V.cls ∧ V.slots.size = A.slots.size ∧ ∀ j, j < A.slots.size → V.slots[j]? = some (.int (lo8 (cv A j)))) ∧
  ∀ (O n d : String) (w : Value), RoadKit.Fld Z h x O n d w → RoadKit.slotOf Z O n d ≠ RoadKit.slotOf Z ST "value" "[B" → RoadKit.slotOf Z O n d ≠ RoadKit.slotOf Z ST "coder" "B" → RoadKit.Fld Z h' x O n d w
/-- **new String(chars) AT A CALL, IN THE ROAD'S FORM**: for specialBack behind newO: x the fresh String, b the char[] with the cell A -/
theorem back {p : Program} {l : Launch} {e : Env} {R : Room} {s : State} {args : Array Value} {below : List Frame} {len W : Nat} {Z : State} {a0 : Array Value} {h : Heap} (hZ : Z.Warmed39 s.vm) (hw : ∀ d ∈ words, d.before a0 Z = true) {kI : Nat} (wi : (Jvm.Cond.instantiable ST kI).before a0 Z = true)
    {x b : Addr} {A : Cell} {z : Int32} {v0 c0 : Value} (E : RoadKit.Exa Z h x ST) (V : RoadKit.Fld Z h x ST "value" "[B" v0) (C : RoadKit.Fld Z h x ST "coder" "B" c0) (K : RoadKit.Arr Z h b A .char) (hty : Typed .char A) (S : RoadKit.Sta Z h ST "COMPACT_STRINGS" "Z" (.int z)) (hz : ¬ z = 0)
    (l0 : 0 < A.slots.size) (l2 : A.slots.size ≤ 536870912) (hp : ∀ i, i < A.slots.size → ¬ 255 < cv A i) (hfr : 4 ≤ R.frames) (hlo : W + 65 ≤ R.locals) :
    Back l R p e below s args New1.yN len W (fun P a => a = #[.ref x, .ref b] ∧ P.U.heap = h ∧ P.cells + 1 ≤ R.cells ∧ P.slots + A.slots.size ≤ R.slots)
      (fun P _ v B => ∃ L, Q Z x A h v B.U.heap L ∧ B.locs = P.locs ++ L ∧ B.cells = P.cells + 1 ∧ B.slots = P.slots + A.slots.size) := by
  intro m meth c P g ig mk a X hg hsize hdg hW hn hp'
  obtain ⟨rfl, rfl, r1, r2⟩ := hp'
  have al : Z.vm.Alike P.U.vm := hZ.alike.trans X.warmed.alike
  obtain ⟨D, cfV, kV, iV, fV, hD, gV, stV, knV, obV, asV, slV⟩ := id V
  obtain ⟨D', cfC, kC, iC, fC, hD', gC, stC, -, -, asC, slC⟩ := id C
  cases hD.symm.trans hD'
  obtain ⟨D2, kD, e1, e2, e3, e4, e5⟩ := id E
  cases hD.symm.trans e1
  obtain ⟨c2, k2, i1, i2, i3, -⟩ := Cond.instantiable_spec wi
  cases e2.symm.trans i1
  cases e3.symm.trans i2
  obtain ⟨kU, u1, u2⟩ := al.2.2 _ _ e3
  have hB : Blank ST x D P.U := ⟨hD, ⟨knV, fun q hq => by rw [hq] at obV; cases obV⟩, by rw [al.findClass]; exact e2, kU, u1, by rw [u2]; exact i3, by rw [u2]; exact e5 i3⟩
  have F1 : Found ST "value" "[B" fV P.U := ⟨SBG.found_only al ⟨cfV, kV, iV, gV⟩, stV⟩
  have F2 : Found ST "coder" "B" fC P.U := ⟨SBG.found_only al ⟨cfC, kC, iC, gC⟩, stC⟩
  have hA : Ch b A P.U := ⟨⟨K.1, State.isArrayOf_alike al K.2.1, K.2.2, by omega⟩, hty⟩
  have hS : StaticIs P.U ST "COMPACT_STRINGS" "Z" (.int z) := by
    obtain ⟨cfS, iS, kS, fS, st, cS, t1, t2, t3, t4, t5, t6, t7⟩ := S
    exact StaticIs.there (s := { Z with heap := P.U.heap }) ⟨cfS, iS, kS, fS, st, cS, t1, t2, t3, t4, t5, (fun q => by rw [q] at t6; cases t6), t7⟩ al rfl
  obtain ⟨v, B, X', ⟨⟨hv, E', V', q1, q2, q3, q4, q5, q6, q7, q8, q9, q10, q11⟩, hl, hc, hs⟩, st⟩ := New1.pays x D fV fC b A z (tab_of (moved hZ hw)) hfr hlo m meth c P g ig mk _ X hg hsize hdg hW hn ⟨r1, r2, rfl, hB, F1, F2, hA, hS, hz, l0, l2, hp⟩
  have al' : Z.vm.Alike B.U.vm := hZ.alike.trans X'.warmed.alike
  have hsz : E'.slots.size = D.slots.size := by
    obtain ⟨-, -, -, kB, w1, w2, w3⟩ := q1
    obtain ⟨kB', y1, y2⟩ := al'.2.2 _ _ e3
    rw [q2.2.1] at w1
    cases w1.symm.trans y1
    rw [w3, e5 i3, y2]
  refine ⟨v, B, X', ⟨_, ⟨hv, ?_, ⟨by omega, fun y cy hy hn' => q10 y cy (by simpa using hn') hy, fun y cy hy => ?_⟩, q11, ⟨E', _, q1.1, by rw [q2.2.1]; exact e2, by rw [q2.2.1]; exact e3, by rw [q2.1]; exact obV, fun _ => by rw [hsz]; exact e5 i3⟩,
    ⟨E', cfV, kV, iV, fV, q1.1, gV, stV, by rw [q2.1]; exact knV, by rw [q2.1]; exact obV, by rw [q2.2.1]; exact asV, q3⟩, ⟨E', cfC, kC, iC, fC, q1.1, gC, stC, by rw [q2.1]; exact knV, by rw [q2.1]; exact obV, by rw [q2.2.1]; exact asC, q4⟩,
    ⟨V', ⟨q5.1, State.isArrayOf_alike al'.symm q5.2.1, q5.2.2.1⟩, q6, by rw [← al'.findClass]; exact q7, q8, fun j hj => by have := q9 j hj; rwa [Nat.zero_add] at this⟩, fun O n d w F n1 n2 => ?_⟩, hl, hc, hs⟩, st⟩
  · intro y hy
    simp only [List.mem_cons, List.not_mem_nil, or_false] at hy
    rcases hy with rfl | rfl <;> rfl
  · by_cases q : y = x
    · subst q
      cases hD.symm.trans hy
      exact ⟨E', q1.1, q2.2.1, q2.1, hsz⟩
    · exact ⟨cy, q10 y cy q hy, rfl, rfl, rfl⟩
  · obtain ⟨D3, cf, k, i, f, g1, g2, g3, g4, g5, g6, g7⟩ := F
    cases hD.symm.trans g1
    simp only [RoadKit.slotOf, g2, gV, gC, Option.map_some, Option.getD_some] at n1 n2
    exact ⟨E', cf, k, i, f, q1.1, g2, g3, by rw [q2.1]; exact g4, by rw [q2.1]; exact g5, by rw [q2.2.1]; exact g6, by rw [q2.2.2 f.slot (by simp [n1, n2])]; exact g7⟩
end StrChars.Road
namespace StrChars.Road
open Jvm Sem ClassFile Op Lib Jvm.Stand Jvm.Free Jvm.Free.XT
/-- WHAT COMES BACK, the byte[] as a list of values -/
def QA (Z : State) (x : Addr) (zn : Int32) (cs : List Int32) (h : Heap) (v : Option Value) (h' : Heap) (L : List Loc) : Prop := v = none ∧ (∀ y ∈ L, y.base = x) ∧ RoadKit.Keep h h' [x] ∧ h'.size = h.size + 1 ∧ RoadKit.Exa Z h' x ST ∧ RoadKit.Fld Z h' x ST "value" "[B" (.ref h.size) ∧ RoadKit.Fld Z h' x ST "coder" "B" (.int 0) ∧
  (∃ kb, Z.vm.findClass "[B" = some kb ∧ RoadKit.Arv Z h' h.size kb .byte zn (cs.map fun c => .int (lo8 c)) (.int 0)) ∧
  ∀ (O n d : String) (w : Value), RoadKit.Fld Z h x O n d w → RoadKit.slotOf Z O n d ≠ RoadKit.slotOf Z ST "value" "[B" → RoadKit.slotOf Z O n d ≠ RoadKit.slotOf Z ST "coder" "B" → RoadKit.Fld Z h' x O n d w
/-- **new String(chars) AT A CALL, THE ARRAYS AS LISTS**: the char[] at b holds cs, not empty, no char above 255 -/
theorem backArv {p : Program} {l : Launch} {e : Env} {R : Room} {s : State} {args : Array Value} {below : List Frame} {len W : Nat} {Z : State} {a0 : Array Value} {h : Heap} (hZ : Z.Warmed39 s.vm) (hw : ∀ d ∈ words, d.before a0 Z = true) {kI : Nat} (wi : (Jvm.Cond.instantiable ST kI).before a0 Z = true)
    {x b : Addr} {k : ClassId} {zn z : Int32} {cs : List Int32} {dv v0 c0 : Value} (E : RoadKit.Exa Z h x ST) (V : RoadKit.Fld Z h x ST "value" "[B" v0) (C : RoadKit.Fld Z h x ST "coder" "B" c0) (K : RoadKit.Arv Z h b k .char zn (cs.map Value.int) dv) (S : RoadKit.Sta Z h ST "COMPACT_STRINGS" "Z" (.int z)) (hz : ¬ z = 0)
    (hlen : zn.toNatClampNeg = cs.length) (h0 : 0 < cs.length) (hbig : cs.length ≤ 536870912) (hall : ∀ c ∈ cs, ¬ 255 < c) (hfr : 4 ≤ R.frames) (hlo : W + 65 ≤ R.locals) :
    Back l R p e below s args New1.yN len W (fun P a => a = #[.ref x, .ref b] ∧ P.U.heap = h ∧ P.cells + 1 ≤ R.cells ∧ P.slots + cs.length ≤ R.slots)
      (fun P _ v B => ∃ L, QA Z x zn cs h v B.U.heap L ∧ B.locs = P.locs ++ L ∧ B.cells = P.cells + 1 ∧ B.slots = P.slots + cs.length) := by
  obtain ⟨A, K1, K2, K3, K4, K5, K6⟩ := K
  have e : A.slots.size = cs.length := K3.trans hlen
  have hat : ∀ (i : Nat) (hi : i < cs.length), A.slots[i]? = some (.int cs[i]) := fun i hi => by rw [K5 i (by omega)]; simp [List.getD_eq_getElem?_getD, hi]
  have hcv : ∀ (i : Nat) (hi : i < cs.length), cv A i = cs[i] := fun i hi => by unfold cv; rw [hat i hi]
  have hty : Typed .char A := fun i v hv => by
    have hi : i < A.slots.size := (Array.getElem?_eq_some_iff.mp hv).1
    have q := K5 i hi
    rw [hv] at q
    rw [Option.some.inj q]
    exact K6 i hi
  refine Back.mono (back hZ hw wi E V C K1 hty S hz (by omega) (by omega) (fun i hi => by rw [hcv i (by omega)]; exact hall _ (List.getElem_mem _)) hfr hlo) (fun P a hp => ⟨hp.1, hp.2.1, hp.2.2.1, by rw [e]; exact hp.2.2.2⟩) (fun P a v B hp hq => ?_)
  obtain ⟨L, ⟨q1, q2, q3, q4, q5, q6, q7, ⟨V', v1, v2, v3, v4, v5⟩, q9⟩, hl, hc, hs⟩ := hq
  refine ⟨L, ⟨q1, q2, q3, q4, q5, q6, q7, ⟨V'.cls, v3, V', v1, rfl, by rw [v4, e, hlen], K4, fun i hi => ?_, fun i hi => ?_⟩, q9⟩, hl, hc, by rw [hs, e]⟩
  · have hi' : i < cs.length := by omega
    rw [v5 i (by omega), hcv i hi']; simp [List.getD_eq_getElem?_getD, hi']
  · have hi' : i < cs.length := by omega
    simp only [List.getD_eq_getElem?_getD, List.getElem?_map, List.getElem?_eq_getElem hi', Option.map_some, Option.getD_some]
    exact fits_lo8 _
end StrChars.Road
namespace StrChars.Road
open Jvm Sem ClassFile Op Lib Jvm.Stand Jvm.Free Jvm.Free.XT
/-- WHAT COMES BACK, in the writer's own shape -/
def QV (Z : State) (x : Addr) (N : Int32) (bs : List Int32) (h : Heap) (n0 : Nat) (v : Option Value) (h' : Heap) (L : List Loc) : Prop := v = none ∧ RoadKit.Fr n0 L ∧ RoadKit.Keep h h' [x] ∧ RoadKit.Exa Z h' x ST ∧ RoadKit.Fld Z h' x ST "coder" "B" (.int 0) ∧
  ∃ (t : Addr) (kb : ClassId), n0 ≤ t ∧ h.size ≤ t ∧ ¬ t = x ∧ RoadKit.Fld Z h' x ST "value" "[B" (.ref t) ∧ RoadKit.Arv Z h' t kb .byte N (bs.map Value.int) (.int 0)
/-- **new String(chars) AT A CALL, FOR THE WRITER**: a char[] of n known ints, each 0 to 255 -/
theorem backV {p : Program} {l : Launch} {e : Env} {R : Room} {s : State} {args : Array Value} {below : List Frame} {len W : Nat} {Z : State} {a0 : Array Value} {h : Heap} (hZ : Z.Warmed39 s.vm) (hw : ∀ d ∈ words, d.before a0 Z = true) {kI : Nat} (wi : (Jvm.Cond.instantiable ST kI).before a0 Z = true)
    {x b : Addr} {kC : ClassId} {cs bs : List Int32} {d v0 c0 : Value} {z N : Int32} {n n0 : Nat} (hx0 : n0 ≤ x) (hh0 : n0 ≤ h.size) (E : RoadKit.Exa Z h x ST) (V : RoadKit.Fld Z h x ST "value" "[B" v0) (C : RoadKit.Fld Z h x ST "coder" "B" c0) (K : RoadKit.Arv Z h b kC .char N (cs.map Value.int) d) (S : RoadKit.Sta Z h ST "COMPACT_STRINGS" "Z" (.int z)) (hz : ¬ z = 0)
    (hn : cs.length = n) (hN : N = Int32.ofNat n) (l0 : 0 < n) (l2 : n ≤ 4000) (hp : ∀ c ∈ cs, ¬ c < 0 ∧ ¬ (255 : Int32) < c) (hb : bs = cs.map (fun c => c.toInt8.toInt32)) (hfr : 4 ≤ R.frames) (hlo : W + 65 ≤ R.locals) :
    Back l R p e below s args (⟨"java/lang/String", "<init>", "([C)V"⟩ : MethodName) len W (fun P a => a = #[.ref x, .ref b] ∧ P.U.heap = h ∧ P.cells + 1 ≤ R.cells ∧ P.slots + n ≤ R.slots)
      (fun P _ v B => ∃ L, QV Z x N bs h n0 v B.U.heap L ∧ B.locs = P.locs ++ L ∧ B.cells = P.cells + 1 ∧ B.slots = P.slots + n) := by
  subst hn hN hb
  refine Back.mono (backArv hZ hw wi E V C K S hz (n32 (by omega)) l0 (by omega) (fun c hc => (hp c hc).2) hfr hlo) (fun P a hp => hp) (fun P a v B hp hq => ?_)
  obtain ⟨L, ⟨q1, q2, q3, q4, q5, q6, q7, ⟨kb, v1, v2⟩, q9⟩, hl, hc, hs⟩ := hq
  exact ⟨L, ⟨q1, fun y hy => by rw [q2 y hy]; exact hx0, q3, q5, q7, h.size, kb, hh0, Nat.le_refl _, Nat.ne_of_gt E.lt, q6, by rw [List.map_map]; exact v2⟩, hl, hc, hs⟩
end StrChars.Road
namespace StrChars
open Jvm Sem ClassFile Op Lib Jvm.Stand Jvm.Free.XT Jvm.Free.ALB Jvm.Free.JM Jvm.Free
open Jvm.Lib.Cold (StaticIs)
def hi8 (x : Int32) : Int32 := lo8 (x >>> ((8 : Int32) &&& 31))
/-- what StringUTF16.getChar makes of two bytes -/
def pairCh (u v : Int32) : Int32 := (((u &&& 255) <<< ((0 : Int32) &&& 31)) ||| ((v &&& 255) <<< ((8 : Int32) &&& 31))).toUInt32.toUInt16.toUInt32.toInt32
theorem shr0 (c : Int32) : c >>> ((0 : Int32) &&& 31) = c := by
  have e : ((0 : Int32) &&& 31) = 0 := by decide
  rw [e]
  apply Int32.toBitVec_inj.mp
  rw [Int32.toBitVec_shiftRight]
  have e1 : ((0 : Int32).toBitVec.smod 32) = 0#32 := by decide
  rw [e1, BitVec.sshiftRight_eq']
  exact BitVec.sshiftRight_zero
theorem lo8_and (x : Int32) : (lo8 x &&& 255).toBitVec.toNat = x.toBitVec.toNat % 256 := by
  have h : (lo8 x).toBitVec = (x.toBitVec.signExtend 8).signExtend 32 := by rw [lo8, Int8.toBitVec_toInt32, Int32.toBitVec_toInt8]
  rw [Int32.toBitVec_and, BitVec.toNat_and, h]
  have e : ((x.toBitVec.signExtend 8).signExtend 32).toNat % 256 = x.toBitVec.toNat % 256 := by
    rw [BitVec.toNat_signExtend]
    have hlt := x.toBitVec.isLt
    simp only [BitVec.toNat_setWidth, BitVec.toNat_signExtend]
    split <;> split <;> omega
  rw [← e]
  exact Nat.and_two_pow_sub_one_eq_mod _ 8
theorem pair_says {c : Int32} (h0 : ¬ c < 0) (h1 : ¬ 65535 < c) : pairCh (lo8 c) (hi8 c) = c := by
  rw [Int32.lt_iff_toInt_lt] at h0 h1
  have e0 : (0 : Int32).toInt = 0 := rfl
  have e1 : (65535 : Int32).toInt = 65535 := rfl
  have hc : c.toInt = c.toBitVec.toNat := by
    have := c.toBitVec.isLt
    have e : c.toInt = c.toBitVec.toInt := rfl
    rw [e] at h0 h1
    rw [e]
    rw [BitVec.toInt_eq_toNat_cond] at h0 h1 ⊢
    split at h0 <;> split <;> omega
  have hn : c.toBitVec.toNat < 65536 := by omega
  have a1 := lo8_and c
  have a2 : (hi8 c &&& 255).toBitVec.toNat = c.toBitVec.toNat / 256 := by
    rw [hi8, lo8_and]
    have e : ((8 : Int32) &&& 31) = 8 := by decide
    rw [e, Int32.toBitVec_shiftRight]
    have e2 : ((8 : Int32).toBitVec.smod 32) = 8#32 := by decide
    rw [e2, BitVec.sshiftRight_eq', BitVec.toNat_sshiftRight_of_msb_false (by rw [BitVec.msb_eq_false_iff_two_mul_lt]; omega)]
    show c.toBitVec.toNat >>> 8 % 256 = _
    rw [Nat.shiftRight_eq_div_pow]
    omega
  unfold pairCh
  apply Int32.toBitVec_inj.mp
  apply BitVec.eq_of_toNat_eq
  have f0 : ((0 : Int32) &&& 31) = 0 := by decide
  have f8 : ((8 : Int32) &&& 31) = 8 := by decide
  rw [f0, f8]
  have g : (((lo8 c &&& 255) <<< (0 : Int32)) ||| ((hi8 c &&& 255) <<< (8 : Int32))).toBitVec.toNat = c.toBitVec.toNat := by
    rw [Int32.toBitVec_or, Int32.toBitVec_shiftLeft, Int32.toBitVec_shiftLeft]
    have s0 : ((0 : Int32).toBitVec.smod 32) = 0#32 := by decide
    have s8 : ((8 : Int32).toBitVec.smod 32) = 8#32 := by decide
    rw [s0, s8, BitVec.toNat_or]
    simp only [BitVec.shiftLeft_eq', BitVec.toNat_shiftLeft, a1, a2]
    show (c.toBitVec.toNat % 256) <<< 0 % 2 ^ 32 ||| (c.toBitVec.toNat / 256) <<< 8 % 2 ^ 32 = _
    rw [Nat.shiftLeft_zero, Nat.mod_eq_of_lt (show c.toBitVec.toNat % 256 < 2 ^ 32 by omega), Nat.mod_eq_of_lt (show (c.toBitVec.toNat / 256) <<< 8 < 2 ^ 32 by rw [Nat.shiftLeft_eq]; omega), Nat.or_comm, ← Nat.shiftLeft_add_eq_or_of_lt (by omega), Nat.shiftLeft_eq]
    omega
  show BitVec.toNat (((((lo8 c &&& 255) <<< (0 : Int32)) ||| ((hi8 c &&& 255) <<< (8 : Int32))).toBitVec.setWidth 16).setWidth 32) = _
  rw [BitVec.toNat_setWidth, BitVec.toNat_setWidth, g]
  omega
end StrChars
namespace StrChars
open Jvm Sem ClassFile Op Lib Jvm.Stand Jvm.Free.XT Jvm.Free.ALB Jvm.Free.JM Jvm.Free
open Jvm.Lib.Cold (StaticIs)
theorem shr1 {n : Nat} (h : 2 * n < 2 ^ 31) : Int32.ofNat (2 * n) >>> ((1 : Int32) &&& 31) = Int32.ofNat n := by
  have e : ((1 : Int32) &&& 31) = 1 := by decide
  rw [e]
  apply Int32.toBitVec_inj.mp
  rw [Int32.toBitVec_shiftRight]
  have e1 : ((1 : Int32).toBitVec.smod 32) = 1#32 := by decide
  have hm : (BitVec.ofNat 32 (2 * n)).toNat = 2 * n := by rw [BitVec.toNat_ofNat, Nat.mod_eq_of_lt (by omega)]
  rw [e1, BitVec.sshiftRight_eq']
  apply BitVec.eq_of_toNat_eq
  show ((BitVec.ofNat 32 (2 * n)).sshiftRight 1).toNat = (BitVec.ofNat 32 n).toNat
  rw [BitVec.toNat_sshiftRight_of_msb_false (by rw [BitVec.msb_eq_false_iff_two_mul_lt, hm]; omega), hm, BitVec.toNat_ofNat, Nat.shiftRight_eq_div_pow]
  omega
/-- charAt's cast of a byte read back -/
def chr8 (u : Int32) : Int32 := (u &&& 255).toUInt32.toUInt16.toUInt32.toInt32
theorem chr8_lo8 {c : Int32} (h0 : ¬ c < 0) (h1 : ¬ 255 < c) : chr8 (lo8 c) = c := by
  have t : ∀ k : Fin 256, (Int32.ofNat k.val).toUInt32.toUInt16.toUInt32.toInt32 = Int32.ofNat k.val := by decide +kernel
  unfold chr8
  rw [lo8_mask h0 h1]
  rw [Int32.lt_iff_toInt_lt] at h0 h1
  have e0 : (0 : Int32).toInt = 0 := rfl
  have e1 : (255 : Int32).toInt = 255 := rfl
  obtain ⟨k, hk⟩ : ∃ k : Nat, c.toInt = k := ⟨c.toInt.toNat, by omega⟩
  have hx : c = Int32.ofNat k := Int32.toInt_inj.mp (by rw [hk, Int32.toInt_ofNat_small (by omega)])
  rw [hx]
  exact t ⟨k, by omega⟩
theorem narrow_ch {c : Int32} (h0 : ¬ c < 0) (h1 : ¬ 65535 < c) : narrow .char (.int c) = .int c := by
  have q : narrow .char (.int (pairCh (lo8 c) (hi8 c))) = .int (pairCh (lo8 c) (hi8 c)) := narrow_c _
  rwa [pair_says h0 h1] at q
/-- the array's cell V codes the n chars f 0 .. f (n - 1) by the coder cd, as the JDK does: coder 1 just where some char is above 255 -/
def Cod (cd : Int32) (n : Nat) (f : Nat → Int32) (V : Cell) : Prop := (cd = 0 ∧ V.slots.size = n ∧ ∀ j, j < n → V.slots[j]? = some (.int (lo8 (f j))) ∧ ¬ 255 < f j) ∨ (cd = 1 ∧ V.slots.size = 2 * n ∧ (∀ j, j < n → V.slots[2 * j]? = some (.int (lo8 (f j))) ∧ V.slots[2 * j + 1]? = some (.int (hi8 (f j)))) ∧ ∃ j, j < n ∧ 255 < f j)
theorem Cod.cd {cd : Int32} {n : Nat} {f : Nat → Int32} {V : Cell} (h : Cod cd n f V) : cd = 0 ∨ cd = 1 := h.imp (fun q => q.1) fun q => q.1
theorem Cod.len {cd : Int32} {n : Nat} {f : Nat → Int32} {V : Cell} (h : Cod cd n f V) (hs : V.slots.size < 2 ^ 31) : Int32.ofNat V.slots.size >>> (cd &&& 31) = Int32.ofNat n := by
  rcases h with ⟨rfl, h, -⟩ | ⟨rfl, h, -⟩
  · rw [shr0, h]
  · rw [h, shr1 (by omega)]
/-- **x is a String of the n chars f 0 .. f (n - 1)**, Latin-1 or UTF-16; its array at t has the cell V -/
def Txt (x t : Addr) (V : Cell) (cd : Int32) (n : Nat) (f : Nat → Int32) (U : State) : Prop := Exact "java/lang/String" x U ∧ Has x "java/lang/String" "value" "[B" (.ref t) U ∧ Has x "java/lang/String" "coder" "B" (.int cd) U ∧ XT.Arr .byte t V U ∧ Cod cd n f V ∧ ∀ j, j < n → ¬ f j < 0 ∧ ¬ 65535 < f j
theorem Txt.mv {x t : Addr} {V : Cell} {cd : Int32} {n : Nat} {f : Nat → Int32} {U U' : State} (h : Txt x t V cd n f U) (hal : U.vm.Alike U'.vm) (hh : U'.heap = U.heap) : Txt x t V cd n f U' := ⟨h.1.mv hal hh, h.2.1.mv hal hh, h.2.2.1.mv hal hh, h.2.2.2.1.mv hal hh, h.2.2.2.2⟩
namespace Cdr
def yN : MethodName := ⟨"java/lang/String", "coder", "()B"⟩
abbrev yB : ByteArray := jdk_42_method_152_code
theorem d0 : decode yB 0 = .ok (.getstatic 38, 3) := by decide +kernel
theorem d3 : decode yB 3 = .ok (.ifCond (.eq) 10, 3) := by decide +kernel
theorem d6 : decode yB 6 = .ok (.aload_n 0, 1) := by decide +kernel
theorem d7 : decode yB 7 = .ok (.getfield 15, 3) := by decide +kernel
theorem d10 : decode yB 10 = .ok (.goto 4, 3) := by decide +kernel
theorem d14 : decode yB 14 = .ok (.ireturn, 1) := by decide +kernel
def site : List Cond := [.fieldLink "java/lang/String" 38 "java/lang/String" "COMPACT_STRINGS" "Z", .fieldLink "java/lang/String" 15 "java/lang/String" "coder" "B"]
def tab : Cond := tabOf yN yB 1 (some .byte) site
def P (x : Addr) (cd z : Int32) (args : Array Value) (s : State) : Prop := args = #[.ref x] ∧ Has x "java/lang/String" "coder" "B" (.int cd) s ∧ (cd = 0 ∨ cd = 1) ∧ StaticIs s "java/lang/String" "COMPACT_STRINGS" "Z" (.int z) ∧ ¬ z = 0
def E (cd : Int32) (r : Option Value) (s u : State) : Prop := XT.PureE (some (.int cd)) r s u
theorem law (l : Launch) (x : Addr) (cd z : Int32) : Law l yN 1 0 0 0 yB 1 (some .byte) site (P x cd z) (E cd) [] 0 0 := by
  refine Law.of_walk (plainFor_of_name (by decide +kernel)) (by decide +kernel) (by decide +kernel) (by decide) (fun _ _ h => by rw [h.1]; rfl) (fun _ U U' hal hh h => ⟨h.1, h.2.1.mv hal hh, h.2.2.1, h.2.2.2.1.there hal hh, h.2.2.2.2⟩) (fun r U U' V V' h1 hal h2 h => XT.PureE.mv r U U' V V' h1 hal h2 h) ?_
  intro p e s m args below meth c s₁ X0 hexec hbytes hml hret hlk hnm hown hh0 W hP
  obtain ⟨rfl, hx, hc, s1, hz⟩ := hP
  have c1 : Steps p.tables e below (s₁.setTop (entryFrame m #[.ref x] 1)) (s₁.setTop (mkF m 0 #[.val (.ref x)] [])) := entry rfl
  obtain ⟨T2, X2, q2, st2⟩ := X0.sget hexec hown (wk W (.fieldLink "java/lang/String" 38 "java/lang/String" "COMPACT_STRINGS" "Z")) s1 (fun _ _ h => by rw [hh0]; exact h) (g := (mkF m 0 #[.val (.ref x)] [])) rfl (hb hbytes d0)
  have hh2 := q2.trans hh0
  have c3 : Steps p.tables e below (s₁.setTop (entryFrame m #[.ref x] 1)) (T2.setTop (mkF m 7 #[.val (.ref x)] [.ref x])) := (c1.trans (st2 _ (Steps.refl _))).trans (by
    refine XS.ifNo X2.here hexec rfl (hb hbytes d3) rfl (i0_eq_f hz) ?_
    refine XS.aloadN X2.here hexec rfl (hb hbytes d6) rfl rfl ?_
    exact Steps.refl _)
  obtain ⟨T4, X4, q4, st4⟩ := X2.hget hexec hown (wk W (.fieldLink "java/lang/String" 15 "java/lang/String" "coder" "B")) (hx.mv X2.warmed.alike hh2) (g := (mkF m 7 #[.val (.ref x)] [.ref x])) rfl (rest := []) rfl (hb hbytes d7)
  have c5 : Steps p.tables e below (s₁.setTop (entryFrame m #[.ref x] 1)) (T4.setTop (mkF m 14 #[.val (.ref x)] [.int cd])) := (c3.trans (st4 _ (Steps.refl _))).trans (by
    refine XS.goto X4.here hexec rfl (pc0 := 10) rfl (hb hbytes d10) (by decide) rfl ?_
    exact Steps.refl _)
  exact ⟨T4, some (.int cd), _, _, _, X4, rfl, rfl, rfl, (fun h => by cases h), ⟨rfl, q4.trans hh2⟩, fun fs hl => c5.trans (X4.ireturnOut hexec hret (by rcases hc with rfl | rfl <;> rfl) (Or.inr (Or.inr (Or.inl rfl))) (hb hbytes d14) hl)⟩
end Cdr
namespace Len
def yN : MethodName := ⟨"java/lang/String", "length", "()I"⟩
abbrev yB : ByteArray := jdk_42_method_54_code
theorem d0 : decode yB 0 = .ok (.aload_n 0, 1) := by decide +kernel
theorem d1 : decode yB 1 = .ok (.getfield 9, 3) := by decide +kernel
theorem d4 : decode yB 4 = .ok (.arraylength, 1) := by decide +kernel
theorem d5 : decode yB 5 = .ok (.aload_n 0, 1) := by decide +kernel
theorem d6 : decode yB 6 = .ok (.invokevirtual 335, 3) := by decide +kernel
theorem d9 : decode yB 9 = .ok (.ishr, 1) := by decide +kernel
theorem d10 : decode yB 10 = .ok (.ireturn, 1) := by decide +kernel
def site : List Cond := [.fieldLink "java/lang/String" 9 "java/lang/String" "value" "[B", Cdr.tab] ++ virtW "java/lang/String" 335 "java/lang/String" Cdr.yN Cdr.yN
def tab : Cond := tabOf yN yB 1 (some .int) site
def P (x t : Addr) (V : Cell) (cd : Int32) (n : Nat) (f : Nat → Int32) (z : Int32) (args : Array Value) (s : State) : Prop := args = #[.ref x] ∧ Txt x t V cd n f s ∧ StaticIs s "java/lang/String" "COMPACT_STRINGS" "Z" (.int z) ∧ ¬ z = 0
def E (n : Nat) (r : Option Value) (s u : State) : Prop := XT.PureE (some (.int (Int32.ofNat n))) r s u
/-- length() of a String of n chars, in either coding -/
theorem law (l : Launch) (x t : Addr) (V : Cell) (cd : Int32) (n : Nat) (f : Nat → Int32) (z : Int32) : Law l yN 1 0 1 13 yB 1 (some .int) site (P x t V cd n f z) (E n) [] 0 0 := by
  refine Law.of_walk (plainFor_of_name (by decide +kernel)) (by decide +kernel) (by decide +kernel) (by decide) (fun _ _ h => by rw [h.1]; rfl) (fun _ U U' hal hh h => ⟨h.1, h.2.1.mv hal hh, h.2.2.1.there hal hh, h.2.2.2⟩) (fun r U U' V V' h1 hal h2 h => XT.PureE.mv r U U' V V' h1 hal h2 h) ?_
  intro p e s m args below meth c s₁ X0 hexec hbytes hml hret hlk hnm hown hh0 W hP
  obtain ⟨rfl, hx, s1, hz⟩ := hP
  have v31 := hx.2.2.2.1.2.2.2
  have c1 : Steps p.tables e below (s₁.setTop (entryFrame m #[.ref x] 1)) (s₁.setTop (mkF m 1 #[.val (.ref x)] [.ref x])) := Steps.trans (entry rfl) (by
    show Steps p.tables e below (s₁.setTop (mkF m 0 #[.val (.ref x)] [])) _
    refine XS.aloadN X0.here hexec rfl (hb hbytes d0) rfl rfl ?_
    exact Steps.refl _)
  obtain ⟨T2, X2, q2, st2⟩ := X0.hget hexec hown (wk W (.fieldLink "java/lang/String" 9 "java/lang/String" "value" "[B")) (hx.mv X0.warmed.alike hh0).2.1 (g := (mkF m 1 #[.val (.ref x)] [.ref x])) rfl (rest := []) rfl (hb hbytes d1)
  have hh2 := q2.trans hh0
  have hx2 := hx.mv X2.warmed.alike hh2
  have c3 : Steps p.tables e below (s₁.setTop (entryFrame m #[.ref x] 1)) (T2.setTop (mkF m 6 #[.val (.ref x)] [.ref x, .int (Int32.ofNat V.slots.size)])) := (c1.trans (st2 _ (Steps.refl _))).trans (by
    refine X2.alen hexec hx2.2.2.2.1 rfl rfl (hb hbytes d4) ?_
    refine XS.aloadN X2.here hexec rfl (hb hbytes d5) rfl rfl ?_
    exact Steps.refl _)
  obtain ⟨v4, T4, X4, E4, g4⟩ := X2.callV hexec (Cdr.law l x cd z) hown (wks W (virtW "java/lang/String" 335 "java/lang/String" Cdr.yN Cdr.yN)) rfl (by decide) (wk W Cdr.tab) (W := 1) (Nat.le_of_ble_eq_true rfl) (Nat.le_of_ble_eq_true rfl) (Nat.le_refl _) (Nat.le_refl _) (hx2.1.fc X2.warmed.alike) hx2.1.is (g := (mkF m 6 #[.val (.ref x)] [.ref x, .int (Int32.ofNat V.slots.size)])) rfl (by rw [hml]; rfl) c3 (argsL := []) (rest := [.int (Int32.ofNat V.slots.size)]) rfl rfl (by show 2 * 0 + (1 + 0) ≤ _; decide) (hb hbytes d6) (⟨rfl, hx2.2.2.1, hx.2.2.2.2.1.cd, s1.there X2.warmed.alike hh2, hz⟩)
  obtain ⟨rfl, q4⟩ := E4
  have c5 : Steps p.tables e below (s₁.setTop (entryFrame m #[.ref x] 1)) (T4.setTop (mkF m 10 #[.val (.ref x)] [.int (Int32.ofNat V.slots.size >>> (cd &&& 31))])) := Steps.trans g4 (by
    refine ishr X4.here hexec rfl (hb hbytes d9) rfl ?_
    exact Steps.refl _)
  rw [hx.2.2.2.2.1.len v31] at c5
  exact ⟨T4, some (.int (Int32.ofNat n)), _, _, _, X4, rfl, rfl, rfl, (fun h => by cases h), ⟨rfl, q4.trans hh2⟩, fun fs hl => c5.trans (X4.ireturnOut hexec hret rfl (Or.inl rfl) (hb hbytes d10) hl)⟩
theorem pays {l : Launch} {R : Room} {p : Program} {e : Env} {below : List Frame} {s : State} {sargs : Array Value} {len W : Nat} (x t : Addr) (V : Cell) (cd : Int32) (n : Nat) (f : Nat → Int32) (z : Int32) (htab : tab.before sargs s = true) (hfr : 2 ≤ R.frames) (hlo : W + 25 ≤ R.locals) :
    Back l R p e below s sargs yN len W (fun A₁ a₁ => A₁.cells + 0 ≤ R.cells ∧ A₁.slots + 0 ≤ R.slots ∧ P x t V cd n f z a₁ A₁.U) (fun A₁ _ v₁ B₁ => E n v₁ A₁.U B₁.U ∧ B₁.locs = A₁.locs ++ [] ∧ B₁.cells = A₁.cells + 0 ∧ B₁.slots = A₁.slots + 0) :=
  (law l x t V cd n f z).pays htab hfr (by omega)
end Len
namespace IsL
def yN : MethodName := ⟨"java/lang/String", "isLatin1", "()Z"⟩
abbrev yB : ByteArray := jdk_42_method_154_code
theorem d0 : decode yB 0 = .ok (.getstatic 38, 3) := by decide +kernel
theorem d3 : decode yB 3 = .ok (.ifCond (.eq) 14, 3) := by decide +kernel
theorem d6 : decode yB 6 = .ok (.aload_n 0, 1) := by decide +kernel
theorem d7 : decode yB 7 = .ok (.getfield 15, 3) := by decide +kernel
theorem d10 : decode yB 10 = .ok (.ifCond (.ne) 7, 3) := by decide +kernel
theorem d13 : decode yB 13 = .ok (.iconst 1, 1) := by decide +kernel
theorem d14 : decode yB 14 = .ok (.goto 4, 3) := by decide +kernel
theorem d17 : decode yB 17 = .ok (.iconst 0, 1) := by decide +kernel
theorem d18 : decode yB 18 = .ok (.ireturn, 1) := by decide +kernel
def site : List Cond := [.fieldLink "java/lang/String" 38 "java/lang/String" "COMPACT_STRINGS" "Z", .fieldLink "java/lang/String" 15 "java/lang/String" "coder" "B"]
def tab : Cond := tabOf yN yB 1 (some .boolean) site
def P (x : Addr) (cd z : Int32) (args : Array Value) (s : State) : Prop := args = #[.ref x] ∧ Has x "java/lang/String" "coder" "B" (.int cd) s ∧ (cd = 0 ∨ cd = 1) ∧ StaticIs s "java/lang/String" "COMPACT_STRINGS" "Z" (.int z) ∧ ¬ z = 0
def E (cd : Int32) (r : Option Value) (s u : State) : Prop := XT.PureE (some (.int (1 - cd))) r s u
theorem law (l : Launch) (x : Addr) (cd z : Int32) : Law l yN 1 0 0 0 yB 1 (some .boolean) site (P x cd z) (E cd) [] 0 0 := by
  refine Law.of_walk (plainFor_of_name (by decide +kernel)) (by decide +kernel) (by decide +kernel) (by decide) (fun _ _ h => by rw [h.1]; rfl) (fun _ U U' hal hh h => ⟨h.1, h.2.1.mv hal hh, h.2.2.1, h.2.2.2.1.there hal hh, h.2.2.2.2⟩) (fun r U U' V V' h1 hal h2 h => XT.PureE.mv r U U' V V' h1 hal h2 h) ?_
  intro p e s m args below meth c s₁ X0 hexec hbytes hml hret hlk hnm hown hh0 W hP
  obtain ⟨rfl, hx, hc, s1, hz⟩ := hP
  have c1 : Steps p.tables e below (s₁.setTop (entryFrame m #[.ref x] 1)) (s₁.setTop (mkF m 0 #[.val (.ref x)] [])) := entry rfl
  obtain ⟨T2, X2, q2, st2⟩ := X0.sget hexec hown (wk W (.fieldLink "java/lang/String" 38 "java/lang/String" "COMPACT_STRINGS" "Z")) s1 (fun _ _ h => by rw [hh0]; exact h) (g := (mkF m 0 #[.val (.ref x)] [])) rfl (hb hbytes d0)
  have hh2 := q2.trans hh0
  have c3 : Steps p.tables e below (s₁.setTop (entryFrame m #[.ref x] 1)) (T2.setTop (mkF m 7 #[.val (.ref x)] [.ref x])) := (c1.trans (st2 _ (Steps.refl _))).trans (by
    refine XS.ifNo X2.here hexec rfl (hb hbytes d3) rfl (i0_eq_f hz) ?_
    refine XS.aloadN X2.here hexec rfl (hb hbytes d6) rfl rfl ?_
    exact Steps.refl _)
  obtain ⟨T4, X4, q4, st4⟩ := X2.hget hexec hown (wk W (.fieldLink "java/lang/String" 15 "java/lang/String" "coder" "B")) (hx.mv X2.warmed.alike hh2) (g := (mkF m 7 #[.val (.ref x)] [.ref x])) rfl (rest := []) rfl (hb hbytes d7)
  have c5 : Steps p.tables e below (s₁.setTop (entryFrame m #[.ref x] 1)) (T4.setTop (mkF m 10 #[.val (.ref x)] [.int cd])) := c3.trans (st4 _ (Steps.refl _))
  have c6 : Steps p.tables e below (s₁.setTop (entryFrame m #[.ref x] 1)) (T4.setTop (mkF m 18 #[.val (.ref x)] [.int (1 - cd)])) := by
    rcases hc with rfl | rfl
    · exact c5.trans (by
        refine XS.ifNo X4.here hexec rfl (hb hbytes d10) rfl (i0_ne_f rfl) ?_
        refine iconstV X4.here hexec rfl 1 (hb hbytes d13) (by decide) ?_
        refine XS.goto X4.here hexec rfl (pc0 := 14) rfl (hb hbytes d14) (by decide) rfl ?_
        exact Steps.refl _)
    · exact c5.trans (by
        refine XS.ifYes X4.here hexec rfl (pc0 := 10) rfl (hb hbytes d10) rfl (i0_ne_t (by decide)) (by decide) rfl ?_
        refine iconstV X4.here hexec rfl 0 (hb hbytes d17) (by decide) ?_
        exact Steps.refl _)
  exact ⟨T4, some (.int (1 - cd)), _, _, _, X4, rfl, rfl, rfl, (fun h => by cases h), ⟨rfl, q4.trans hh2⟩, fun fs hl => c6.trans (X4.ireturnOut hexec hret (by rcases hc with rfl | rfl <;> rfl) (Or.inr (Or.inl rfl)) (hb hbytes d18) hl)⟩
end IsL
namespace LChA
def yN : MethodName := ⟨"java/lang/StringLatin1", "charAt", "([BI)C"⟩
abbrev yB : ByteArray := jdk_43_method_2_code
theorem d0 : decode yB 0 = .ok (.iload_n 1, 1) := by decide +kernel
theorem d1 : decode yB 1 = .ok (.aload_n 0, 1) := by decide +kernel
theorem d2 : decode yB 2 = .ok (.arraylength, 1) := by decide +kernel
theorem d3 : decode yB 3 = .ok (.invokestatic 9, 3) := by decide +kernel
theorem d6 : decode yB 6 = .ok (.aload_n 0, 1) := by decide +kernel
theorem d7 : decode yB 7 = .ok (.iload_n 1, 1) := by decide +kernel
theorem d8 : decode yB 8 = .ok (.baload, 1) := by decide +kernel
theorem d9 : decode yB 9 = .ok (.sipush 255, 3) := by decide +kernel
theorem d12 : decode yB 12 = .ok (.iand, 1) := by decide +kernel
theorem d13 : decode yB 13 = .ok (.i2c, 1) := by decide +kernel
theorem d14 : decode yB 14 = .ok (.ireturn, 1) := by decide +kernel
def site : List Cond := [JO.Str_checkIndex.tab] ++ staticW "java/lang/StringLatin1" 9 JO.Str_checkIndex.yN
def tab : Cond := tabOf yN yB 2 (some .char) site
def P (t : Addr) (V : Cell) (i : Nat) (u : Int32) (fm : Value) (args : Array Value) (s : State) : Prop := args = #[.ref t, .int (Int32.ofNat i)] ∧ XT.Arr .byte t V s ∧ V.slots[i]? = some (.int u) ∧ (StaticIs s "jdk/internal/util/Preconditions" "SIOOBE_FORMATTER" "Ljava/util/function/BiFunction;" fm ∧ fm.isRef = true)
def E (u : Int32) (r : Option Value) (s w : State) : Prop := XT.PureE (some (.int (chr8 u))) r s w
theorem law (l : Launch) (t : Addr) (V : Cell) (i : Nat) (u : Int32) (fm : Value) : Law l yN 2 2 2 27 yB 2 (some .char) site (P t V i u fm) (E u) [] 0 0 := by
  refine Law.of_walk (plainFor_of_name (by decide +kernel)) (by decide +kernel) (by decide +kernel) (by decide) (fun _ _ h => by rw [h.1]; rfl) (fun _ U U' hal hh h => ⟨h.1, h.2.1.mv hal hh, h.2.2.1, h.2.2.2.1.there hal hh, h.2.2.2.2⟩) (fun r U U' V V' h1 hal h2 h => XT.PureE.mv r U U' V V' h1 hal h2 h) ?_
  intro p e s m args below meth c s₁ X0 hexec hbytes hml hret hlk hnm hown hh0 W hP
  obtain ⟨rfl, hV, hu, s1, rf⟩ := hP
  have v31 := hV.2.2.2
  have hi : i < V.slots.size := (Array.getElem?_eq_some_iff.mp hu).1
  have c1 : Steps p.tables e below (s₁.setTop (entryFrame m #[.ref t, .int (Int32.ofNat i)] 2)) (s₁.setTop (mkF m 0 #[.val (.ref t), .val (.int (Int32.ofNat i))] [])) := entry rfl
  have c2 : Steps p.tables e below (s₁.setTop (entryFrame m #[.ref t, .int (Int32.ofNat i)] 2)) (s₁.setTop (mkF m 3 #[.val (.ref t), .val (.int (Int32.ofNat i))] [.int (Int32.ofNat V.slots.size), .int (Int32.ofNat i)])) := c1.trans (by
    refine XS.iloadN X0.here hexec rfl (hb hbytes d0) rfl ?_
    refine XS.aloadN X0.here hexec rfl (hb hbytes d1) rfl rfl ?_
    refine X0.alen hexec (hV.mv X0.warmed.alike hh0) rfl rfl (hb hbytes d2) ?_
    exact Steps.refl _)
  obtain ⟨v3, T3, X3, E3, g3⟩ := X0.callS hexec (JO.Str_checkIndex.law l (Int32.ofNat i) (Int32.ofNat V.slots.size) fm) hown (wks W (staticW "java/lang/StringLatin1" 9 JO.Str_checkIndex.yN)) (wk W JO.Str_checkIndex.tab) (W := 0) (Nat.le_of_ble_eq_true rfl) (Nat.le_of_ble_eq_true rfl) (Nat.le_refl _) (Nat.le_refl _) (g := (mkF m 3 #[.val (.ref t), .val (.int (Int32.ofNat i))] [.int (Int32.ofNat V.slots.size), .int (Int32.ofNat i)])) rfl (by rw [hml]; rfl) c2 (argsL := [.int (Int32.ofNat i), .int (Int32.ofNat V.slots.size)]) (rest := []) rfl rfl (by show 2 * 0 + 0 ≤ _; decide) (hb hbytes d3) (⟨rfl, rf, s1.there X0.warmed.alike hh0, Int32.ofNat_not_neg (by omega), lt32 v31 hi⟩)
  obtain ⟨rfl, q3⟩ := E3
  have hh3 := q3.trans hh0
  have c4 : Steps p.tables e below (s₁.setTop (entryFrame m #[.ref t, .int (Int32.ofNat i)] 2)) (T3.setTop (mkF m 14 #[.val (.ref t), .val (.int (Int32.ofNat i))] [.int (chr8 u)])) := Steps.trans g3 (by
    refine XS.aloadN X3.here hexec rfl (hb hbytes d6) rfl rfl ?_
    refine XS.iloadN X3.here hexec rfl (hb hbytes d7) rfl ?_
    refine X3.aget hexec (hV.mv X3.warmed.alike hh3) rfl hu rfl rfl (hb hbytes d8) ?_
    refine sipushV X3.here hexec rfl 255 (hb hbytes d9) (by decide) ?_
    refine XS.iand X3.here hexec rfl (hb hbytes d12) rfl ?_
    refine i2c X3.here hexec rfl (hb hbytes d13) rfl ?_
    exact Steps.refl _)
  exact ⟨T3, some (.int (chr8 u)), _, _, _, X3, rfl, rfl, rfl, (fun h => by cases h), ⟨rfl, hh3⟩, fun fs hl => c4.trans (X3.ireturnOut hexec hret (narrow_c _) (Or.inr (Or.inr (Or.inr (Or.inl rfl)))) (hb hbytes d14) hl)⟩
end LChA
end StrChars
namespace StrChars.Road
open Jvm Sem ClassFile Op Lib Jvm.Stand Jvm.Free Jvm.Free.XT
open Jvm.Lib.Cold (StaticIs)
theorem consq {a : Array Value} {s : State} {c : Jvm.Cond} {L : List Jvm.Cond} (h0 : c.before a s = true) (h : ∀ w ∈ L, w.before a s = true) : ∀ w ∈ c :: L, w.before a s = true := fun w hw => (List.mem_cons.mp hw).elim (fun e => e ▸ h0) (h w)
/-- the words of String.length(), either coding -/
abbrev wordsLen : List Jvm.Cond := [.code Len.yN Len.yB 1 (some .int), .initialized ST, .fieldLink ST 9 ST "value" "[B", .fieldLink ST 38 ST "COMPACT_STRINGS" "Z", .fieldLink ST 15 ST "coder" "B", .code Cdr.yN Cdr.yB 1 (some .byte), .methodLink ST 335 Cdr.yN, .declares Cdr.yN, .selects ST Cdr.yN Cdr.yN, .instanceMethod Cdr.yN]
theorem tabLen_of {a : Array Value} {s : State} (h : ∀ w ∈ wordsLen, w.before a s = true) : Len.tab.before a s = true := by
  have hc : Cdr.tab.before a s = true := unparts (wk h (.code Cdr.yN Cdr.yB 1 (some .byte))) (wks h (.initialized Cdr.yN.cls :: Cdr.site))
  have q := consq hc h
  exact unparts (wk q (.code Len.yN Len.yB 1 (some .int))) (wks q (.initialized Len.yN.cls :: Len.site))
theorem movedLen {Z s : State} {a0 args : Array Value} (hZ : Z.Warmed39 s.vm) (hw : ∀ d ∈ wordsLen, d.before a0 Z = true) : ∀ d ∈ wordsLen, d.before args s = true := fun d hd => by
  have q := hw d hd
  have t : ∀ d ∈ wordsLen, d = .arrayClass .byte ∨ (d.onTables && d.keepsFace) = true := by decide +kernel
  rcases t d hd with rfl | t
  · exact RoadKit.mvA hZ q
  · exact RoadKit.mv hZ q t
/-- the bytes of the chars cs, low before high -/
def wideBytes : List Int32 → List Value
  | [] => []
  | c :: cs => .int (lo8 c) :: .int (hi8 c) :: wideBytes cs
theorem wide_lo (d : Value) : ∀ (cs : List Int32) (j : Nat), j < cs.length → (wideBytes cs).getD (2 * j) d = .int (lo8 (cs.getD j 0))
  | [], j, h => absurd h (Nat.not_lt_zero j)
  | c :: cs, 0, _ => rfl
  | c :: cs, j + 1, h => by
    have q := wide_lo d cs j (by simpa using h)
    rw [show 2 * (j + 1) = 2 * j + 1 + 1 from by omega]
    simpa [wideBytes] using q
theorem wide_hi (d : Value) : ∀ (cs : List Int32) (j : Nat), j < cs.length → (wideBytes cs).getD (2 * j + 1) d = .int (hi8 (cs.getD j 0))
  | [], j, h => absurd h (Nat.not_lt_zero j)
  | c :: cs, 0, _ => rfl
  | c :: cs, j + 1, h => by
    have q := wide_hi d cs j (by simpa using h)
    rw [show 2 * (j + 1) + 1 = 2 * j + 1 + 1 + 1 from by omega]
    simpa [wideBytes] using q
theorem low_at (d : Value) (cs : List Int32) (j : Nat) (h : j < cs.length) : (cs.map fun c => Value.int (lo8 c)).getD j d = .int (lo8 (cs.getD j 0)) := by
  simp [List.getD_eq_getElem?_getD, h]
/-- an array of N2 bytes vs codes the chars cs by the coder cd -/
def CodA (cs : List Int32) (cd N2 : Int32) (vs : List Value) : Prop := (cd = 0 ∧ N2 = Int32.ofNat cs.length ∧ vs = (cs.map fun c => Value.int (lo8 c)) ∧ ∀ c ∈ cs, ¬ 255 < c) ∨ (cd = 1 ∧ N2 = Int32.ofNat (2 * cs.length) ∧ vs = wideBytes cs ∧ ∃ c ∈ cs, 255 < c)
theorem CodA.cod {cs : List Int32} {cd N2 : Int32} {vs : List Value} {V : Cell} (h : CodA cs cd N2 vs) (hn : 2 * cs.length < 2 ^ 31) (hs : V.slots.size = N2.toNatClampNeg) (hv : RoadKit.Has V vs (.int 0)) : Cod cd cs.length (fun j => cs.getD j 0) V := by
  rcases h with ⟨rfl, rfl, rfl, h⟩ | ⟨rfl, rfl, rfl, c, hc, hw⟩
  · rw [n32 (by omega)] at hs
    exact Or.inl ⟨rfl, hs, fun j hj => ⟨by rw [hv j (by omega), low_at _ _ _ hj], by
      have e : cs.getD j 0 = cs[j] := by simp [List.getD_eq_getElem?_getD, hj]
      show ¬ 255 < cs.getD j 0
      rw [e]; exact h _ (List.getElem_mem _)⟩⟩
  · rw [n32 (by omega)] at hs
    obtain ⟨j, hj, rfl⟩ := List.getElem_of_mem hc
    exact Or.inr ⟨rfl, hs, fun j hj => ⟨by rw [hv _ (by omega), wide_lo _ _ _ hj], by rw [hv _ (by omega), wide_hi _ _ _ hj]⟩, j, hj, by
      have e : cs.getD j 0 = cs[j] := by simp [List.getD_eq_getElem?_getD, hj]
      show 255 < cs.getD j 0
      rw [e]; exact hw⟩
/-- an object of exactly java/lang/String, its two fields found: as the laws ask it -/
theorem strObj {Z U : State} {a0 : Array Value} {kI : Nat} (wi : (Jvm.Cond.instantiable ST kI).before a0 Z = true) (al : Z.vm.Alike U.vm) {x : Addr} {v0 c0 : Value} (E : RoadKit.Exa Z U.heap x ST) (V : RoadKit.Fld Z U.heap x ST "value" "[B" v0) (C : RoadKit.Fld Z U.heap x ST "coder" "B" c0) :
    ∃ (D : Cell) (fV fC : Field), Blank ST x D U ∧ Found ST "value" "[B" fV U ∧ Found ST "coder" "B" fC U ∧ D.slots[fV.slot]? = some v0 ∧ D.slots[fC.slot]? = some c0 ∧ RoadKit.slotOf Z ST "value" "[B" = fV.slot ∧ RoadKit.slotOf Z ST "coder" "B" = fC.slot := by
  obtain ⟨D, cfV, kV, iV, fV, hD, gV, stV, knV, obV, asV, slV⟩ := V
  obtain ⟨D', cfC, kC, iC, fC, hD', gC, stC, -, -, asC, slC⟩ := C
  cases hD.symm.trans hD'
  obtain ⟨D2, kD, e1, e2, e3, e4, e5⟩ := E
  cases hD.symm.trans e1
  obtain ⟨c2, k2, i1, i2, i3, -⟩ := Cond.instantiable_spec wi
  cases e2.symm.trans i1
  cases e3.symm.trans i2
  obtain ⟨kU, u1, u2⟩ := al.2.2 _ _ e3
  exact ⟨D, fV, fC, ⟨hD, ⟨knV, fun q hq => by rw [hq] at obV; cases obV⟩, by rw [al.findClass]; exact e2, kU, u1, by rw [u2]; exact i3, by rw [u2]; exact e5 i3⟩, ⟨SBG.found_only al ⟨cfV, kV, iV, gV⟩, stV⟩, ⟨SBG.found_only al ⟨cfC, kC, iC, gC⟩, stC⟩, slV, slC, by simp [RoadKit.slotOf, gV], by simp [RoadKit.slotOf, gC]⟩
theorem sta_is {Z U : State} (al : Z.vm.Alike U.vm) {C n d : String} {v : Value} (S : RoadKit.Sta Z U.heap C n d v) : StaticIs U C n d v := by
  obtain ⟨cfS, iS, kS, fS, st, cS, t1, t2, t3, t4, t5, t6, t7⟩ := S
  exact StaticIs.there (s := { Z with heap := U.heap }) ⟨cfS, iS, kS, fS, st, cS, t1, t2, t3, t4, t5, (fun q => by rw [q] at t6; cases t6), t7⟩ al rfl
/-- **length() OF SUCH A STRING** -/
theorem lenW {p : Program} {l : Launch} {e : Env} {R : Room} {s : State} {args : Array Value} {below : List Frame} {len W : Nat} {Z : State} {a0 : Array Value} {h : Heap} (hZ : Z.Warmed39 s.vm) (hw : ∀ d ∈ wordsLen, d.before a0 Z = true) {kI : Nat} (wi : (Jvm.Cond.instantiable ST kI).before a0 Z = true)
    {x t : Addr} {kb : ClassId} {cs : List Int32} {cd N2 z : Int32} {vs : List Value} (E : RoadKit.Exa Z h x ST) (V : RoadKit.Fld Z h x ST "value" "[B" (.ref t)) (C : RoadKit.Fld Z h x ST "coder" "B" (.int cd)) (K : RoadKit.Arv Z h t kb .byte N2 vs (.int 0)) (hc : CodA cs cd N2 vs) (hb : ∀ c ∈ cs, ¬ c < 0 ∧ ¬ (65535 : Int32) < c)
    (S : RoadKit.Sta Z h ST "COMPACT_STRINGS" "Z" (.int z)) (hz : ¬ z = 0) (l2 : cs.length ≤ 4000) (hfr : 2 ≤ R.frames) (hlo : W + 25 ≤ R.locals) :
    Back l R p e below s args (⟨"java/lang/String", "length", "()I"⟩ : MethodName) len W (fun P a => a = #[.ref x] ∧ P.U.heap = h ∧ P.cells + 0 ≤ R.cells ∧ P.slots + 0 ≤ R.slots)
      (fun P _ v B => ∃ L, (v = some (.int (Int32.ofNat cs.length)) ∧ L = [] ∧ B.U.heap = h) ∧ B.locs = P.locs ++ L ∧ B.cells = P.cells + 0 ∧ B.slots = P.slots + 0) := by
  obtain ⟨A, K1, K2, K3, K4, K5, K6⟩ := K
  have hcod := hc.cod (by omega) K3 K5
  intro m meth c P g ig mk a X hg hsize hdg hW hn hp'
  obtain ⟨rfl, rfl, r1, r2⟩ := hp'
  have al : Z.vm.Alike P.U.vm := hZ.alike.trans X.warmed.alike
  obtain ⟨D, fV, fC, hB, F1, F2, g1, g2, -, -⟩ := strObj wi al E V C
  have hx : Txt x t A cd cs.length (fun j => cs.getD j 0) P.U := ⟨⟨_, hB.2.2.1, D, hB.1, rfl, by cases q : D.vm <;> first | rfl | exact absurd q (hB.2.1.2 _)⟩, Has.of hB F1 g1, Has.of hB F2 g2, ⟨K1.1, State.isArrayOf_alike al K1.2.1, K1.2.2, by rcases hcod with ⟨-, q, -⟩ | ⟨-, q, -⟩ <;> omega⟩, hcod, fun j hj => by
    have e : cs.getD j 0 = cs[j] := by simp [List.getD_eq_getElem?_getD, hj]
    show ¬ cs.getD j 0 < 0 ∧ ¬ 65535 < cs.getD j 0
    rw [e]; exact hb _ (List.getElem_mem _)⟩
  obtain ⟨v, B, X', ⟨⟨hv, hh⟩, hl, hk, hs⟩, st⟩ := Len.pays x t A cd cs.length (fun j => cs.getD j 0) z (tabLen_of (movedLen hZ hw)) hfr hlo m meth c P g ig mk _ X hg hsize hdg hW hn ⟨r1, r2, rfl, hx, sta_is al S, hz⟩
  exact ⟨v, B, X', ⟨[], ⟨hv, rfl, hh⟩, hl, hk, hs⟩, st⟩
end StrChars.Road
namespace StrChars
open Jvm Sem ClassFile Op Lib Jvm.Stand Jvm.Free.XT Jvm.Free.ALB Jvm.Free.JM Jvm.Free
open Jvm.Lib.Cold (StaticIs)
/-- what place i of a byte[]'s cell holds -/
def yv (A : Cell) (i : Nat) : Int32 := match A.slots[i]? with | some (.int x) => x | _ => 0
theorem yv_get {a : Addr} {A : Cell} {U : State} (h : XT.Arr .byte a A U) (ht : Typed .byte A) {i : Nat} (hi : i < A.slots.size) : A.slots[i]? = some (.int (yv A i)) := by
  have e := Array.getElem?_eq_getElem hi
  have f := ht i _ e
  unfold yv; rw [e]
  generalize A.slots[i] = v at f
  cases v <;> simp [fits] at f ⊢
/-- the two arrays are equal, place for place -/
def EqC (A B : Cell) : Prop := A.slots.size = B.slots.size ∧ ∀ i, i < A.slots.size → yv A i = yv B i
/-- a boolean that says whether p -/
def Says01 (q : Prop) (r : Option Value) (s u : State) : Prop := ∃ v : Int32, r = some (.int v) ∧ u.heap = s.heap ∧ ((v = 1 ∧ q) ∨ (v = 0 ∧ ¬ q))
theorem Says01.mv {q : Prop} : ∀ r (U U' V V' : State), U'.heap = U.heap → V.vm.Alike V'.vm → V'.heap = V.heap → Says01 q r U V → Says01 q r U' V' :=
  fun r U U' V V' h1 _ h2 ⟨v, a, b, c⟩ => ⟨v, a, by rw [h1, h2]; exact b, c⟩
namespace LEq
def yN : MethodName := ⟨"java/lang/StringLatin1", "equals", "([B[B)Z"⟩
abbrev yB : ByteArray := jdk_43_method_13_code
theorem d0 : decode yB 0 = .ok (.aload_n 0, 1) := by decide +kernel
theorem d1 : decode yB 1 = .ok (.arraylength, 1) := by decide +kernel
theorem d2 : decode yB 2 = .ok (.aload_n 1, 1) := by decide +kernel
theorem d3 : decode yB 3 = .ok (.arraylength, 1) := by decide +kernel
theorem d4 : decode yB 4 = .ok (.if_icmp (.ne) 30, 3) := by decide +kernel
theorem d7 : decode yB 7 = .ok (.iconst 0, 1) := by decide +kernel
theorem d8 : decode yB 8 = .ok (.istore_n 2, 1) := by decide +kernel
theorem d9 : decode yB 9 = .ok (.iload_n 2, 1) := by decide +kernel
theorem d10 : decode yB 10 = .ok (.aload_n 0, 1) := by decide +kernel
theorem d11 : decode yB 11 = .ok (.arraylength, 1) := by decide +kernel
theorem d12 : decode yB 12 = .ok (.if_icmp (.ge) 20, 3) := by decide +kernel
theorem d15 : decode yB 15 = .ok (.aload_n 0, 1) := by decide +kernel
theorem d16 : decode yB 16 = .ok (.iload_n 2, 1) := by decide +kernel
theorem d17 : decode yB 17 = .ok (.baload, 1) := by decide +kernel
theorem d18 : decode yB 18 = .ok (.aload_n 1, 1) := by decide +kernel
theorem d19 : decode yB 19 = .ok (.iload_n 2, 1) := by decide +kernel
theorem d20 : decode yB 20 = .ok (.baload, 1) := by decide +kernel
theorem d21 : decode yB 21 = .ok (.if_icmp (.eq) 5, 3) := by decide +kernel
theorem d24 : decode yB 24 = .ok (.iconst 0, 1) := by decide +kernel
theorem d25 : decode yB 25 = .ok (.ireturn, 1) := by decide +kernel
theorem d26 : decode yB 26 = .ok (.iinc 2 1, 3) := by decide +kernel
theorem d29 : decode yB 29 = .ok (.goto (-20), 3) := by decide +kernel
theorem d32 : decode yB 32 = .ok (.iconst 1, 1) := by decide +kernel
theorem d33 : decode yB 33 = .ok (.ireturn, 1) := by decide +kernel
theorem d34 : decode yB 34 = .ok (.iconst 0, 1) := by decide +kernel
theorem d35 : decode yB 35 = .ok (.ireturn, 1) := by decide +kernel
def site : List Cond := []
def tab : Cond := tabOf yN yB 3 (some .boolean) site
def P (a : Addr) (A : Cell) (b : Addr) (B : Cell) (args : Array Value) (s : State) : Prop := args = #[.ref a, .ref b] ∧ XT.Arr .byte a A s ∧ Typed .byte A ∧ XT.Arr .byte b B s ∧ Typed .byte B
/-- whether two byte[] are equal, place for place -/
theorem law (l : Launch) (a : Addr) (A : Cell) (b : Addr) (B : Cell) : Law l yN 2 2 0 0 yB 3 (some .boolean) site (P a A b B) (Says01 (EqC A B)) [] 0 0 := by
  refine Law.of_walk (plainFor_of_name (by decide +kernel)) (by decide +kernel) (by decide +kernel) (by decide) (fun _ _ h => by rw [h.1]; rfl) (fun _ U U' hal hh h => ⟨h.1, h.2.1.mv hal hh, h.2.2.1, h.2.2.2.1.mv hal hh, h.2.2.2.2⟩) (fun r U U' V V' h1 hal h2 h => Says01.mv r U U' V V' h1 hal h2 h) ?_
  intro p e s m args below meth c s₁ X0 hexec hbytes hml hret hlk hnm hown hh0 W hP
  obtain ⟨rfl, hA, tA, hB, tB⟩ := hP
  have a31 := hA.2.2.2
  have b31 := hB.2.2.2
  have hA0 := hA.mv X0.warmed.alike hh0
  have hB0 := hB.mv X0.warmed.alike hh0
  have c1 : Steps p.tables e below (s₁.setTop (entryFrame m #[.ref a, .ref b] 3)) (s₁.setTop (mkF m 0 #[.val (.ref a), .val (.ref b), .unset] [])) := entry rfl
  have c2 : Steps p.tables e below (s₁.setTop (entryFrame m #[.ref a, .ref b] 3)) (s₁.setTop (mkF m 4 #[.val (.ref a), .val (.ref b), .unset] [.int (Int32.ofNat B.slots.size), .int (Int32.ofNat A.slots.size)])) := c1.trans (by
    refine XS.aloadN X0.here hexec rfl (hb hbytes d0) rfl rfl ?_
    refine X0.alen hexec hA0 rfl rfl (hb hbytes d1) ?_
    refine XS.aloadN X0.here hexec rfl (hb hbytes d2) rfl rfl ?_
    refine X0.alen hexec hB0 rfl rfl (hb hbytes d3) ?_
    exact Steps.refl _)
  by_cases hs : A.slots.size = B.slots.size
  · have c3 : Steps p.tables e below (s₁.setTop (entryFrame m #[.ref a, .ref b] 3)) (s₁.setTop (mkF m 9 #[.val (.ref a), .val (.ref b), .val (.int 0)] [])) := c2.trans (by
      refine XS.icmpNo X0.here hexec rfl (hb hbytes d4) rfl (ii_ne_f (by rw [hs])) ?_
      refine iconstV X0.here hexec rfl 0 (hb hbytes d7) (by decide) ?_
      refine XS.istoreN X0.here hexec rfl (hb hbytes d8) rfl rfl ?_
      exact Steps.refl _)
    have loop : ∀ (r i : Nat), i + r = A.slots.size → (∀ j, j < i → yv A j = yv B j) → Steps p.tables e below (s₁.setTop (entryFrame m #[.ref a, .ref b] 3)) (s₁.setTop (mkF m 9 #[.val (.ref a), .val (.ref b), .val (.int (Int32.ofNat i))] [])) → ∃ (pc : Nat) (Ls : Array Slot) (v : Int32), (pc = 25 ∨ pc = 33) ∧ ((v = 1 ∧ EqC A B) ∨ (v = 0 ∧ ¬ EqC A B)) ∧ Steps p.tables e below (s₁.setTop (entryFrame m #[.ref a, .ref b] 3)) (s₁.setTop (mkF m pc Ls [.int v])) := by
      intro r
      induction r with
      | zero =>
        intro i hi he cl
        exact ⟨33, _, 1, Or.inr rfl, Or.inl ⟨rfl, hs, fun j hj => he j (by omega)⟩, cl.trans (by
          refine XS.iloadN X0.here hexec rfl (hb hbytes d9) rfl ?_
          refine XS.aloadN X0.here hexec rfl (hb hbytes d10) rfl rfl ?_
          refine X0.alen hexec hA0 rfl rfl (hb hbytes d11) ?_
          refine XS.icmpYes X0.here hexec rfl (pc0 := 12) rfl (hb hbytes d12) rfl (ii_ge_t (nlt32 (by omega) (by omega))) (by decide) rfl ?_
          refine iconstV X0.here hexec rfl 1 (hb hbytes d32) (by decide) ?_
          exact Steps.refl _)⟩
      | succ r ih =>
        intro i hi he cl
        have c4 : Steps p.tables e below (s₁.setTop (entryFrame m #[.ref a, .ref b] 3)) (s₁.setTop (mkF m 21 #[.val (.ref a), .val (.ref b), .val (.int (Int32.ofNat i))] [.int (yv B i), .int (yv A i)])) := cl.trans (by
          refine XS.iloadN X0.here hexec rfl (hb hbytes d9) rfl ?_
          refine XS.aloadN X0.here hexec rfl (hb hbytes d10) rfl rfl ?_
          refine X0.alen hexec hA0 rfl rfl (hb hbytes d11) ?_
          refine XS.icmpNo X0.here hexec rfl (hb hbytes d12) rfl (ii_ge_f (lt32 (by omega) (by omega))) ?_
          refine XS.aloadN X0.here hexec rfl (hb hbytes d15) rfl rfl ?_
          refine XS.iloadN X0.here hexec rfl (hb hbytes d16) rfl ?_
          refine X0.aget hexec hA0 rfl (yv_get hA tA (i := i) (by omega)) rfl rfl (hb hbytes d17) ?_
          refine XS.aloadN X0.here hexec rfl (hb hbytes d18) rfl rfl ?_
          refine XS.iloadN X0.here hexec rfl (hb hbytes d19) rfl ?_
          refine X0.aget hexec hB0 rfl (yv_get hB tB (i := i) (by omega)) rfl rfl (hb hbytes d20) ?_
          exact Steps.refl _)
        by_cases hv : yv A i = yv B i
        · have c5 : Steps p.tables e below (s₁.setTop (entryFrame m #[.ref a, .ref b] 3)) (s₁.setTop (mkF m 9 #[.val (.ref a), .val (.ref b), .val (.int (Int32.ofNat i + 1))] [])) := c4.trans (by
            refine XS.icmpYes X0.here hexec rfl (pc0 := 21) rfl (hb hbytes d21) rfl (ii_eq_t hv) (by decide) rfl ?_
            refine iincV X0.here hexec rfl 1 (hb hbytes d26) (by decide) rfl rfl ?_
            refine XS.goto X0.here hexec rfl (pc0 := 29) rfl (hb hbytes d29) (by decide) rfl ?_
            exact Steps.refl _)
          rw [succ32] at c5
          exact ih (i + 1) (by omega) (fun j hj => by
            by_cases e : j = i
            · rw [e]; exact hv
            · exact he j (by omega)) c5
        · exact ⟨25, _, 0, Or.inl rfl, Or.inr ⟨rfl, fun q => hv (q.2 i (by omega))⟩, c4.trans (by
            refine XS.icmpNo X0.here hexec rfl (hb hbytes d21) rfl (ii_eq_f hv) ?_
            refine iconstV X0.here hexec rfl 0 (hb hbytes d24) (by decide) ?_
            exact Steps.refl _)⟩
    obtain ⟨pc, Ls, v, hpc, hv, cz⟩ := loop A.slots.size 0 (by omega) (fun j hj => absurd hj (Nat.not_lt_zero j)) c3
    have nv : narrow .boolean (.int v) = .int v := by rcases hv with ⟨rfl, -⟩ | ⟨rfl, -⟩ <;> rfl
    rcases hpc with rfl | rfl
    · exact ⟨s₁, some (.int v), _, _, _, X0, rfl, rfl, rfl, (fun h => by cases h), ⟨v, rfl, hh0, hv⟩, fun fs hl => cz.trans (X0.ireturnOut hexec hret nv (Or.inr (Or.inl rfl)) (hb hbytes d25) hl)⟩
    · exact ⟨s₁, some (.int v), _, _, _, X0, rfl, rfl, rfl, (fun h => by cases h), ⟨v, rfl, hh0, hv⟩, fun fs hl => cz.trans (X0.ireturnOut hexec hret nv (Or.inr (Or.inl rfl)) (hb hbytes d33) hl)⟩
  · have c3 : Steps p.tables e below (s₁.setTop (entryFrame m #[.ref a, .ref b] 3)) (s₁.setTop (mkF m 35 #[.val (.ref a), .val (.ref b), .unset] [.int 0])) := c2.trans (by
      refine XS.icmpYes X0.here hexec rfl (pc0 := 4) rfl (hb hbytes d4) rfl (ii_ne_t (ne32 a31 b31 hs)) (by decide) rfl ?_
      refine iconstV X0.here hexec rfl 0 (hb hbytes d34) (by decide) ?_
      exact Steps.refl _)
    exact ⟨s₁, some (.int 0), _, _, _, X0, rfl, rfl, rfl, (fun h => by cases h), ⟨0, rfl, hh0, Or.inr ⟨rfl, fun q => hs q.1⟩⟩, fun fs hl => c3.trans (X0.ireturnOut hexec hret rfl (Or.inr (Or.inl rfl)) (hb hbytes d35) hl)⟩
end LEq
theorem Cod.ty {cd : Int32} {n : Nat} {f : Nat → Int32} {V : Cell} (h : Cod cd n f V) : Typed .byte V := fun i v hv => by
  have hi : i < V.slots.size := (Array.getElem?_eq_some_iff.mp hv).1
  rcases h with ⟨-, k1, k2⟩ | ⟨-, k1, k2, -⟩
  · rw [(k2 i (by omega)).1] at hv; cases hv; exact fits_lo8 _
  · rcases Nat.mod_two_eq_zero_or_one i with e | e
    · obtain ⟨j, rfl⟩ : ∃ j, i = 2 * j := ⟨i / 2, by omega⟩
      rw [(k2 j (by omega)).1] at hv; cases hv; exact fits_lo8 _
    · obtain ⟨j, rfl⟩ : ∃ j, i = 2 * j + 1 := ⟨i / 2, by omega⟩
      rw [(k2 j (by omega)).2] at hv; cases hv; exact fits_lo8 _
/-- the same text -/
def SameT (n : Nat) (f : Nat → Int32) (k : Nat) (g : Nat → Int32) : Prop := n = k ∧ ∀ j, j < n → f j = g j
theorem lo8_inj {x y : Int32} (h0 : ¬ x < 0) (h1 : ¬ 255 < x) (k0 : ¬ y < 0) (k1 : ¬ 255 < y) (h : lo8 x = lo8 y) : x = y := by
  rw [← lo8_mask h0 h1, ← lo8_mask k0 k1, h]
/-- arrays coded by one coder are equal just where the texts are -/
theorem Cod.eqv {cd : Int32} {n k : Nat} {f g : Nat → Int32} {V V' : Cell} (h : Cod cd n f V) (h' : Cod cd k g V') (hf : ∀ j, j < n → ¬ f j < 0 ∧ ¬ 65535 < f j) (hg : ∀ j, j < k → ¬ g j < 0 ∧ ¬ 65535 < g j) : EqC V V' ↔ SameT n f k g := by
  have yvv : ∀ {W : Cell} {i : Nat} {x : Int32}, W.slots[i]? = some (.int x) → yv W i = x := fun q => by unfold yv; rw [q]
  rcases h with ⟨rfl, k1, k2⟩ | ⟨rfl, k1, k2, -⟩
  · rcases h' with ⟨-, m1, m2⟩ | ⟨e, -⟩
    · constructor
      · rintro ⟨e1, e2⟩
        refine ⟨by omega, fun j hj => ?_⟩
        have q := e2 j (by omega)
        rw [yvv (k2 j hj).1, yvv (m2 j (by omega)).1] at q
        exact lo8_inj (hf j hj).1 (k2 j hj).2 (hg j (by omega)).1 (m2 j (by omega)).2 q
      · rintro ⟨rfl, e2⟩
        refine ⟨by omega, fun j hj => ?_⟩
        rw [yvv (k2 j (by omega)).1, yvv (m2 j (by omega)).1, e2 j (by omega)]
    · exact absurd e (by decide)
  · rcases h' with ⟨e, -⟩ | ⟨-, m1, m2, -⟩
    · exact absurd e (by decide)
    · constructor
      · rintro ⟨e1, e2⟩
        refine ⟨by omega, fun j hj => ?_⟩
        have q1 := e2 (2 * j) (by omega)
        have q2 := e2 (2 * j + 1) (by omega)
        rw [yvv (k2 j hj).1, yvv (m2 j (by omega)).1] at q1
        rw [yvv (k2 j hj).2, yvv (m2 j (by omega)).2] at q2
        rw [← pair_says (hf j hj).1 (hf j hj).2, ← pair_says (hg j (by omega)).1 (hg j (by omega)).2, q1, q2]
      · rintro ⟨rfl, e2⟩
        refine ⟨by omega, fun i hi => ?_⟩
        rcases Nat.mod_two_eq_zero_or_one i with e | e
        · obtain ⟨j, rfl⟩ : ∃ j, i = 2 * j := ⟨i / 2, by omega⟩
          rw [yvv (k2 j (by omega)).1, yvv (m2 j (by omega)).1, e2 j (by omega)]
        · obtain ⟨j, rfl⟩ : ∃ j, i = 2 * j + 1 := ⟨i / 2, by omega⟩
          rw [yvv (k2 j (by omega)).2, yvv (m2 j (by omega)).2, e2 j (by omega)]
/-- two codings differ: so do the texts -/
theorem Cod.dif {cd cd' : Int32} {n k : Nat} {f g : Nat → Int32} {V V' : Cell} (h : Cod cd n f V) (h' : Cod cd' k g V') (hne : ¬ cd = cd') : ¬ SameT n f k g := by
  rintro ⟨rfl, e⟩
  rcases h with ⟨rfl, -, k2⟩ | ⟨rfl, -, -, j, hj, hw⟩
  · rcases h' with ⟨rfl, -⟩ | ⟨-, -, -, j, hj, hw⟩
    · exact hne rfl
    · exact (k2 j hj).2 (by rw [e j hj]; exact hw)
  · rcases h' with ⟨-, -, m2⟩ | ⟨rfl, -⟩
    · exact (m2 j hj).2 (by rw [← e j hj]; exact hw)
    · exact hne rfl
/-- an object of exactly C is an instance of C -/
theorem cinst {p : Program} {l : Launch} {e : Env} {R : Room} {s : State} {m : MethodId} {args : Array Value} {below : List Frame} {meth : Method} {c : Code} {T : State} {locs : List Loc} {cells slots : Nat} (X : Stand p l e R s m args below meth c T locs cells slots) (hexec : p.tables.exec = Jvm.exec) {own C : String} {index : Nat} (hown : s.vm.findClass own = some m.cls) (hlink : (Cond.classLink own index C).before args s = true) {a : Addr} (hE : Exact C a T)
    {g : JFrame} (hg : g.method = m) {rest : List Value} (hstack : g.stack = .ref a :: rest) (hdg : decode c.code g.pc = .ok (.instanceof index, 3)) :
    ∃ T', Stand p l e R s m args below meth c T' locs cells slots ∧ T'.heap = T.heap ∧ ∀ target, Steps p.tables e below (T'.setTop { g with pc := g.pc + 3, stack := .int 1 :: rest }) target → Steps p.tables e below (T.setTop g) target := by
  obtain ⟨cB, h1, D, h2, h3, h4⟩ := hE
  have h1' : s.vm.findClass C = some cB := by rw [← X.warmed.alike.findClass]; exact h1
  obtain ⟨vm', X', st⟩ := X.instanceofYes hexec hown hlink h2 h4 h1' (by rw [h3]; exact Jvm.Free.SB.assignable_self _ _) hg hstack hdg
  exact ⟨_, X', rfl, st⟩
theorem cself {p : Program} {l : Launch} {e : Env} {R : Room} {s : State} {m : MethodId} {args : Array Value} {below : List Frame} {meth : Method} {c : Code} {T : State} {locs : List Loc} {cells slots : Nat} (X : Stand p l e R s m args below meth c T locs cells slots) (hexec : p.tables.exec = Jvm.exec) {own C : String} {index : Nat} (hown : s.vm.findClass own = some m.cls) (hlink : (Cond.classLink own index C).before args s = true) {a : Addr} (hE : Exact C a T)
    {g : JFrame} (hg : g.method = m) {rest : List Value} (hstack : g.stack = .ref a :: rest) (hdg : decode c.code g.pc = .ok (.checkcast index, 3)) :
    ∃ T', Stand p l e R s m args below meth c T' locs cells slots ∧ T'.heap = T.heap ∧ ∀ target, Steps p.tables e below (T'.setTop { g with pc := g.pc + 3, stack := .ref a :: rest }) target → Steps p.tables e below (T.setTop g) target := by
  obtain ⟨cB, h1, D, h2, h3, h4⟩ := hE
  have h1' : s.vm.findClass C = some cB := by rw [← X.warmed.alike.findClass]; exact h1
  obtain ⟨vm', X', st⟩ := X.checkcastYes hexec hown hlink h2 h4 h1' (by rw [h3]; exact Jvm.Free.SB.assignable_self _ _) hg hstack hdg
  exact ⟨_, X', rfl, fun t h => st t (by rw [← hstack] at h; exact h)⟩
namespace SEq
def yN : MethodName := ⟨"java/lang/String", "equals", "(Ljava/lang/Object;)Z"⟩
abbrev yB : ByteArray := jdk_42_method_66_code
theorem d0 : decode yB 0 = .ok (.aload_n 0, 1) := by decide +kernel
theorem d1 : decode yB 1 = .ok (.aload_n 1, 1) := by decide +kernel
theorem d2 : decode yB 2 = .ok (.if_acmp (.ne) 5, 3) := by decide +kernel
theorem d5 : decode yB 5 = .ok (.iconst 1, 1) := by decide +kernel
theorem d6 : decode yB 6 = .ok (.ireturn, 1) := by decide +kernel
theorem d7 : decode yB 7 = .ok (.aload_n 1, 1) := by decide +kernel
theorem d8 : decode yB 8 = .ok (.instanceof 10, 3) := by decide +kernel
theorem d11 : decode yB 11 = .ok (.ifCond (.eq) 43, 3) := by decide +kernel
theorem d14 : decode yB 14 = .ok (.aload_n 1, 1) := by decide +kernel
theorem d15 : decode yB 15 = .ok (.checkcast 10, 3) := by decide +kernel
theorem d18 : decode yB 18 = .ok (.astore_n 2, 1) := by decide +kernel
theorem d19 : decode yB 19 = .ok (.getstatic 38, 3) := by decide +kernel
theorem d22 : decode yB 22 = .ok (.ifCond (.eq) 14, 3) := by decide +kernel
theorem d25 : decode yB 25 = .ok (.aload_n 0, 1) := by decide +kernel
theorem d26 : decode yB 26 = .ok (.getfield 15, 3) := by decide +kernel
theorem d29 : decode yB 29 = .ok (.aload_n 2, 1) := by decide +kernel
theorem d30 : decode yB 30 = .ok (.getfield 15, 3) := by decide +kernel
theorem d33 : decode yB 33 = .ok (.if_icmp (.ne) 21, 3) := by decide +kernel
theorem d36 : decode yB 36 = .ok (.aload_n 0, 1) := by decide +kernel
theorem d37 : decode yB 37 = .ok (.getfield 9, 3) := by decide +kernel
theorem d40 : decode yB 40 = .ok (.aload_n 2, 1) := by decide +kernel
theorem d41 : decode yB 41 = .ok (.getfield 9, 3) := by decide +kernel
theorem d44 : decode yB 44 = .ok (.invokestatic 541, 3) := by decide +kernel
theorem d47 : decode yB 47 = .ok (.ifCond (.eq) 7, 3) := by decide +kernel
theorem d50 : decode yB 50 = .ok (.iconst 1, 1) := by decide +kernel
theorem d51 : decode yB 51 = .ok (.goto 4, 3) := by decide +kernel
theorem d54 : decode yB 54 = .ok (.iconst 0, 1) := by decide +kernel
theorem d55 : decode yB 55 = .ok (.ireturn, 1) := by decide +kernel
def site : List Cond := [.classLink "java/lang/String" 10 "java/lang/String", .fieldLink "java/lang/String" 38 "java/lang/String" "COMPACT_STRINGS" "Z", .fieldLink "java/lang/String" 15 "java/lang/String" "coder" "B", .fieldLink "java/lang/String" 9 "java/lang/String" "value" "[B", LEq.tab] ++ staticW "java/lang/String" 541 LEq.yN
def tab : Cond := tabOf yN yB 3 (some .boolean) site
def P (x t : Addr) (V : Cell) (cd : Int32) (n : Nat) (f : Nat → Int32) (y t' : Addr) (V' : Cell) (cd' : Int32) (k : Nat) (g : Nat → Int32) (z : Int32) (args : Array Value) (s : State) : Prop := args = #[.ref x, .ref y] ∧ Txt x t V cd n f s ∧ Txt y t' V' cd' k g s ∧ StaticIs s "java/lang/String" "COMPACT_STRINGS" "Z" (.int z) ∧ ¬ z = 0
/-- equals(Object) of two Strings: whether the texts are the same -/
theorem law (l : Launch) (x t : Addr) (V : Cell) (cd : Int32) (n : Nat) (f : Nat → Int32) (y t' : Addr) (V' : Cell) (cd' : Int32) (k : Nat) (g : Nat → Int32) (z : Int32) : Law l yN 2 1 1 14 yB 3 (some .boolean) site (P x t V cd n f y t' V' cd' k g z) (Says01 (SameT n f k g)) [] 0 0 := by
  refine Law.of_walk (plainFor_of_name (by decide +kernel)) (by decide +kernel) (by decide +kernel) (by decide) (fun _ _ h => by rw [h.1]; rfl) (fun _ U U' hal hh h => ⟨h.1, h.2.1.mv hal hh, h.2.2.1.mv hal hh, h.2.2.2.1.there hal hh, h.2.2.2.2⟩) (fun r U U' V V' h1 hal h2 h => Says01.mv r U U' V V' h1 hal h2 h) ?_
  intro p e s m args below meth c s₁ X0 hexec hbytes hml hret hlk hnm hown hh0 W hP
  obtain ⟨rfl, hx, hy, s1, hz⟩ := hP
  have c1 : Steps p.tables e below (s₁.setTop (entryFrame m #[.ref x, .ref y] 3)) (s₁.setTop (mkF m 2 #[.val (.ref x), .val (.ref y), .unset] [.ref y, .ref x])) := Steps.trans (entry rfl) (by
    show Steps p.tables e below (s₁.setTop (mkF m 0 #[.val (.ref x), .val (.ref y), .unset] [])) _
    refine XS.aloadN X0.here hexec rfl (hb hbytes d0) rfl rfl ?_
    refine XS.aloadN X0.here hexec rfl (hb hbytes d1) rfl rfl ?_
    exact Steps.refl _)
  by_cases hxy : x = y
  · have c2 : Steps p.tables e below (s₁.setTop (entryFrame m #[.ref x, .ref y] 3)) (s₁.setTop (mkF m 6 #[.val (.ref x), .val (.ref y), .unset] [.int 1])) := c1.trans (by
      refine acmpNo X0.here hexec rfl (hb hbytes d2) rfl rfl rfl (by simp [acmp, hxy]) ?_
      refine iconstV X0.here hexec rfl 1 (hb hbytes d5) (by decide) ?_
      exact Steps.refl _)
    subst hxy
    have ec : cd = cd' := by
      obtain ⟨D, fd, a1, a2, a3⟩ := hx.2.2.1
      obtain ⟨D', fd', b1, b2, b3⟩ := hy.2.2.1
      cases a1.symm.trans b1
      obtain ⟨q1, q2, q3, q4⟩ := a2.1
      obtain ⟨r1, r2, r3, r4⟩ := b2.1
      cases q4.symm.trans r4
      cases a3.symm.trans b3; rfl
    have et : t = t' := by
      obtain ⟨D, fd, a1, a2, a3⟩ := hx.2.1
      obtain ⟨D', fd', b1, b2, b3⟩ := hy.2.1
      cases a1.symm.trans b1
      obtain ⟨q1, q2, q3, q4⟩ := a2.1
      obtain ⟨r1, r2, r3, r4⟩ := b2.1
      cases q4.symm.trans r4
      cases a3.symm.trans b3; rfl
    subst ec et
    have ev : V = V' := by cases hx.2.2.2.1.1.symm.trans hy.2.2.2.1.1; rfl
    subst ev
    have hs : SameT n f k g := (Cod.eqv hx.2.2.2.2.1 hy.2.2.2.2.1 hx.2.2.2.2.2 hy.2.2.2.2.2).mp ⟨rfl, fun _ _ => rfl⟩
    exact ⟨s₁, some (.int 1), _, _, _, X0, rfl, rfl, rfl, (fun h => by cases h), ⟨1, rfl, hh0, Or.inl ⟨rfl, hs⟩⟩, fun fs hl => c2.trans (X0.ireturnOut hexec hret rfl (Or.inr (Or.inl rfl)) (hb hbytes d6) hl)⟩
  · have c2 : Steps p.tables e below (s₁.setTop (entryFrame m #[.ref x, .ref y] 3)) (s₁.setTop (mkF m 8 #[.val (.ref x), .val (.ref y), .unset] [.ref y])) := c1.trans (by
      refine acmpYes X0.here hexec rfl (pc0 := 2) rfl (hb hbytes d2) rfl rfl rfl (by simp [acmp, hxy]) (by decide) rfl ?_
      refine XS.aloadN X0.here hexec rfl (hb hbytes d7) rfl rfl ?_
      exact Steps.refl _)
    obtain ⟨T3, X3, q3, st3⟩ := cinst X0 hexec hown (wk W (.classLink "java/lang/String" 10 "java/lang/String")) (hy.mv X0.warmed.alike hh0).1 (g := (mkF m 8 #[.val (.ref x), .val (.ref y), .unset] [.ref y])) rfl (rest := []) rfl (hb hbytes d8)
    have hh3 := q3.trans hh0
    have c4 : Steps p.tables e below (s₁.setTop (entryFrame m #[.ref x, .ref y] 3)) (T3.setTop (mkF m 15 #[.val (.ref x), .val (.ref y), .unset] [.ref y])) := (c2.trans (st3 _ (Steps.refl _))).trans (by
      refine XS.ifNo X3.here hexec rfl (hb hbytes d11) rfl (i0_eq_f (by decide)) ?_
      refine XS.aloadN X3.here hexec rfl (hb hbytes d14) rfl rfl ?_
      exact Steps.refl _)
    obtain ⟨T5, X5, q5, st5⟩ := cself X3 hexec hown (wk W (.classLink "java/lang/String" 10 "java/lang/String")) (hy.mv X3.warmed.alike hh3).1 (g := (mkF m 15 #[.val (.ref x), .val (.ref y), .unset] [.ref y])) rfl (rest := []) rfl (hb hbytes d15)
    have hh5 := q5.trans hh3
    have c6 : Steps p.tables e below (s₁.setTop (entryFrame m #[.ref x, .ref y] 3)) (T5.setTop (mkF m 19 #[.val (.ref x), .val (.ref y), .val (.ref y)] [])) := (c4.trans (st5 _ (Steps.refl _))).trans (by
      refine XS.astoreN X5.here hexec rfl (hb hbytes d18) rfl rfl rfl ?_
      exact Steps.refl _)
    obtain ⟨T7, X7, q7, st7⟩ := X5.sget hexec hown (wk W (.fieldLink "java/lang/String" 38 "java/lang/String" "COMPACT_STRINGS" "Z")) s1 (fun _ _ h => by rw [hh5]; exact h) (g := (mkF m 19 #[.val (.ref x), .val (.ref y), .val (.ref y)] [])) rfl (hb hbytes d19)
    have hh7 := q7.trans hh5
    have c8 : Steps p.tables e below (s₁.setTop (entryFrame m #[.ref x, .ref y] 3)) (T7.setTop (mkF m 26 #[.val (.ref x), .val (.ref y), .val (.ref y)] [.ref x])) := (c6.trans (st7 _ (Steps.refl _))).trans (by
      refine XS.ifNo X7.here hexec rfl (hb hbytes d22) rfl (i0_eq_f hz) ?_
      refine XS.aloadN X7.here hexec rfl (hb hbytes d25) rfl rfl ?_
      exact Steps.refl _)
    obtain ⟨T9, X9, q9, st9⟩ := X7.hget hexec hown (wk W (.fieldLink "java/lang/String" 15 "java/lang/String" "coder" "B")) (hx.mv X7.warmed.alike hh7).2.2.1 (g := (mkF m 26 #[.val (.ref x), .val (.ref y), .val (.ref y)] [.ref x])) rfl (rest := []) rfl (hb hbytes d26)
    have hh9 := q9.trans hh7
    have c10 : Steps p.tables e below (s₁.setTop (entryFrame m #[.ref x, .ref y] 3)) (T9.setTop (mkF m 30 #[.val (.ref x), .val (.ref y), .val (.ref y)] [.ref y, .int cd])) := (c8.trans (st9 _ (Steps.refl _))).trans (by
      refine XS.aloadN X9.here hexec rfl (hb hbytes d29) rfl rfl ?_
      exact Steps.refl _)
    obtain ⟨T11, X11, q11, st11⟩ := X9.hget hexec hown (wk W (.fieldLink "java/lang/String" 15 "java/lang/String" "coder" "B")) (hy.mv X9.warmed.alike hh9).2.2.1 (g := (mkF m 30 #[.val (.ref x), .val (.ref y), .val (.ref y)] [.ref y, .int cd])) rfl (rest := [.int cd]) rfl (hb hbytes d30)
    have hh11 := q11.trans hh9
    have c12 : Steps p.tables e below (s₁.setTop (entryFrame m #[.ref x, .ref y] 3)) (T11.setTop (mkF m 33 #[.val (.ref x), .val (.ref y), .val (.ref y)] [.int cd', .int cd])) := c10.trans (st11 _ (Steps.refl _))
    by_cases hcd : cd = cd'
    · subst hcd
      have c13 : Steps p.tables e below (s₁.setTop (entryFrame m #[.ref x, .ref y] 3)) (T11.setTop (mkF m 37 #[.val (.ref x), .val (.ref y), .val (.ref y)] [.ref x])) := c12.trans (by
        refine XS.icmpNo X11.here hexec rfl (hb hbytes d33) rfl (ii_ne_f rfl) ?_
        refine XS.aloadN X11.here hexec rfl (hb hbytes d36) rfl rfl ?_
        exact Steps.refl _)
      obtain ⟨T14, X14, q14, st14⟩ := X11.hget hexec hown (wk W (.fieldLink "java/lang/String" 9 "java/lang/String" "value" "[B")) (hx.mv X11.warmed.alike hh11).2.1 (g := (mkF m 37 #[.val (.ref x), .val (.ref y), .val (.ref y)] [.ref x])) rfl (rest := []) rfl (hb hbytes d37)
      have hh14 := q14.trans hh11
      have c15 : Steps p.tables e below (s₁.setTop (entryFrame m #[.ref x, .ref y] 3)) (T14.setTop (mkF m 41 #[.val (.ref x), .val (.ref y), .val (.ref y)] [.ref y, .ref t])) := (c13.trans (st14 _ (Steps.refl _))).trans (by
        refine XS.aloadN X14.here hexec rfl (hb hbytes d40) rfl rfl ?_
        exact Steps.refl _)
      obtain ⟨T16, X16, q16, st16⟩ := X14.hget hexec hown (wk W (.fieldLink "java/lang/String" 9 "java/lang/String" "value" "[B")) (hy.mv X14.warmed.alike hh14).2.1 (g := (mkF m 41 #[.val (.ref x), .val (.ref y), .val (.ref y)] [.ref y, .ref t])) rfl (rest := [.ref t]) rfl (hb hbytes d41)
      have hh16 := q16.trans hh14
      have c17 : Steps p.tables e below (s₁.setTop (entryFrame m #[.ref x, .ref y] 3)) (T16.setTop (mkF m 44 #[.val (.ref x), .val (.ref y), .val (.ref y)] [.ref t', .ref t])) := c15.trans (st16 _ (Steps.refl _))
      obtain ⟨v18, T18, X18, E18, g18⟩ := X16.callS hexec (LEq.law l t V t' V') hown (wks W (staticW "java/lang/String" 541 LEq.yN)) (wk W LEq.tab) (W := 0) (Nat.le_of_ble_eq_true rfl) (Nat.le_of_ble_eq_true rfl) (Nat.le_refl _) (Nat.le_refl _) (g := (mkF m 44 #[.val (.ref x), .val (.ref y), .val (.ref y)] [.ref t', .ref t])) rfl (by rw [hml]; rfl) c17 (argsL := [.ref t, .ref t']) (rest := []) rfl rfl (by show 2 * 0 + 0 ≤ _; decide) (hb hbytes d44) (⟨rfl, hx.2.2.2.1.mv X16.warmed.alike hh16, hx.2.2.2.2.1.ty, hy.2.2.2.1.mv X16.warmed.alike hh16, hy.2.2.2.2.1.ty⟩)
      obtain ⟨v, rfl, q18, hv⟩ := E18
      have iff := Cod.eqv hx.2.2.2.2.1 hy.2.2.2.2.1 hx.2.2.2.2.2 hy.2.2.2.2.2
      rcases hv with ⟨rfl, he⟩ | ⟨rfl, he⟩
      · have c19 : Steps p.tables e below (s₁.setTop (entryFrame m #[.ref x, .ref y] 3)) (T18.setTop (mkF m 55 #[.val (.ref x), .val (.ref y), .val (.ref y)] [.int 1])) := Steps.trans g18 (by
          refine XS.ifNo X18.here hexec rfl (hb hbytes d47) rfl (i0_eq_f (by decide)) ?_
          refine iconstV X18.here hexec rfl 1 (hb hbytes d50) (by decide) ?_
          refine XS.goto X18.here hexec rfl (pc0 := 51) rfl (hb hbytes d51) (by decide) rfl ?_
          exact Steps.refl _)
        exact ⟨T18, some (.int 1), _, _, _, X18, rfl, rfl, rfl, (fun h => by cases h), ⟨1, rfl, q18.trans hh16, Or.inl ⟨rfl, iff.mp he⟩⟩, fun fs hl => c19.trans (X18.ireturnOut hexec hret rfl (Or.inr (Or.inl rfl)) (hb hbytes d55) hl)⟩
      · have c19 : Steps p.tables e below (s₁.setTop (entryFrame m #[.ref x, .ref y] 3)) (T18.setTop (mkF m 55 #[.val (.ref x), .val (.ref y), .val (.ref y)] [.int 0])) := Steps.trans g18 (by
          refine XS.ifYes X18.here hexec rfl (pc0 := 47) rfl (hb hbytes d47) rfl (i0_eq_t rfl) (by decide) rfl ?_
          refine iconstV X18.here hexec rfl 0 (hb hbytes d54) (by decide) ?_
          exact Steps.refl _)
        exact ⟨T18, some (.int 0), _, _, _, X18, rfl, rfl, rfl, (fun h => by cases h), ⟨0, rfl, q18.trans hh16, Or.inr ⟨rfl, fun q => he (iff.mpr q)⟩⟩, fun fs hl => c19.trans (X18.ireturnOut hexec hret rfl (Or.inr (Or.inl rfl)) (hb hbytes d55) hl)⟩
    · have c13 : Steps p.tables e below (s₁.setTop (entryFrame m #[.ref x, .ref y] 3)) (T11.setTop (mkF m 55 #[.val (.ref x), .val (.ref y), .val (.ref y)] [.int 0])) := c12.trans (by
        refine XS.icmpYes X11.here hexec rfl (pc0 := 33) rfl (hb hbytes d33) rfl (ii_ne_t hcd) (by decide) rfl ?_
        refine iconstV X11.here hexec rfl 0 (hb hbytes d54) (by decide) ?_
        exact Steps.refl _)
      exact ⟨T11, some (.int 0), _, _, _, X11, rfl, rfl, rfl, (fun h => by cases h), ⟨0, rfl, hh11, Or.inr ⟨rfl, Cod.dif hx.2.2.2.2.1 hy.2.2.2.2.1 hcd⟩⟩, fun fs hl => c13.trans (X11.ireturnOut hexec hret rfl (Or.inr (Or.inl rfl)) (hb hbytes d55) hl)⟩
theorem pays {l : Launch} {R : Room} {p : Program} {e : Env} {below : List Frame} {s : State} {sargs : Array Value} {len W : Nat} (x t : Addr) (V : Cell) (cd : Int32) (n : Nat) (f : Nat → Int32) (y t' : Addr) (V' : Cell) (cd' : Int32) (k : Nat) (g : Nat → Int32) (z : Int32) (htab : tab.before sargs s = true) (hfr : 2 ≤ R.frames) (hlo : W + 28 ≤ R.locals) :
    Back l R p e below s sargs yN len W (fun A₁ a₁ => A₁.cells + 0 ≤ R.cells ∧ A₁.slots + 0 ≤ R.slots ∧ P x t V cd n f y t' V' cd' k g z a₁ A₁.U) (fun A₁ _ v₁ B₁ => Says01 (SameT n f k g) v₁ A₁.U B₁.U ∧ B₁.locs = A₁.locs ++ [] ∧ B₁.cells = A₁.cells + 0 ∧ B₁.slots = A₁.slots + 0) :=
  (law l x t V cd n f y t' V' cd' k g z).pays htab hfr (by omega)
end SEq
end StrChars
namespace StrChars.Road
open Jvm Sem ClassFile Op Lib Jvm.Stand Jvm.Free Jvm.Free.XT
open Jvm.Lib.Cold (StaticIs)
/-- the words of String.equals(Object) -/
abbrev wordsEq : List Jvm.Cond := [.code SEq.yN SEq.yB 3 (some .boolean), .initialized ST, .classLink ST 10 ST, .fieldLink ST 38 ST "COMPACT_STRINGS" "Z", .fieldLink ST 15 ST "coder" "B", .fieldLink ST 9 ST "value" "[B", .methodLink ST 541 LEq.yN, .static LEq.yN, .code LEq.yN LEq.yB 3 (some .boolean), .initialized "java/lang/StringLatin1"]
theorem tabEq_of {a : Array Value} {s : State} (h : ∀ w ∈ wordsEq, w.before a s = true) : SEq.tab.before a s = true := by
  have hl : LEq.tab.before a s = true := unparts (wk h (.code LEq.yN LEq.yB 3 (some .boolean))) (wks h (.initialized LEq.yN.cls :: LEq.site))
  have q := consq hl h
  exact unparts (wk q (.code SEq.yN SEq.yB 3 (some .boolean))) (wks q (.initialized SEq.yN.cls :: SEq.site))
theorem movedEq {Z s : State} {a0 args : Array Value} (hZ : Z.Warmed39 s.vm) (hw : ∀ d ∈ wordsEq, d.before a0 Z = true) : ∀ d ∈ wordsEq, d.before args s = true := fun d hd => by
  have t : ∀ d ∈ wordsEq, (d.onTables && d.keepsFace) = true := by decide +kernel
  exact RoadKit.mv hZ (hw d hd) (t d hd)
/-- the road's facts of a String, as the laws ask it -/
theorem txt_of {Z U : State} {a0 : Array Value} {kI : Nat} (wi : (Jvm.Cond.instantiable ST kI).before a0 Z = true) (al : Z.vm.Alike U.vm) {x t : Addr} {kb : ClassId} {cs : List Int32} {cd N2 : Int32} {vs : List Value} (E : RoadKit.Exa Z U.heap x ST) (V : RoadKit.Fld Z U.heap x ST "value" "[B" (.ref t)) (C : RoadKit.Fld Z U.heap x ST "coder" "B" (.int cd)) (K : RoadKit.Arv Z U.heap t kb .byte N2 vs (.int 0)) (hc : CodA cs cd N2 vs) (hb : ∀ c ∈ cs, ¬ c < 0 ∧ ¬ (65535 : Int32) < c) (l2 : cs.length ≤ 4000) :
    ∃ A, Txt x t A cd cs.length (fun j => cs.getD j 0) U := by
  obtain ⟨A, K1, K2, K3, K4, K5, K6⟩ := K
  have hcod := hc.cod (by omega) K3 K5
  obtain ⟨D, fV, fC, hB, F1, F2, g1, g2, -, -⟩ := strObj wi al E V C
  exact ⟨A, ⟨_, hB.2.2.1, D, hB.1, rfl, by cases q : D.vm <;> first | rfl | exact absurd q (hB.2.1.2 _)⟩, Has.of hB F1 g1, Has.of hB F2 g2, ⟨K1.1, State.isArrayOf_alike al K1.2.1, K1.2.2, by rcases hcod with ⟨-, q, -⟩ | ⟨-, q, -⟩ <;> omega⟩, hcod, fun j hj => by
    have e : cs.getD j 0 = cs[j] := by simp [List.getD_eq_getElem?_getD, hj]
    show ¬ cs.getD j 0 < 0 ∧ ¬ 65535 < cs.getD j 0
    rw [e]; exact hb _ (List.getElem_mem _)⟩
theorem same_list (cs ds : List Int32) : SameT cs.length (fun j => cs.getD j 0) ds.length (fun j => ds.getD j 0) ↔ cs = ds := by
  constructor
  · rintro ⟨e, q⟩
    refine List.ext_getElem e fun j h1 h2 => ?_
    have := q j h1
    simpa [List.getD_eq_getElem?_getD, h1, h2] using this
  · rintro rfl
    exact ⟨rfl, fun _ _ => rfl⟩
/-- **equals(Object) OF TWO SUCH STRINGS**: 1 just where the chars are the same -/
theorem eqW {p : Program} {l : Launch} {e : Env} {R : Room} {s : State} {args : Array Value} {below : List Frame} {len W : Nat} {Z : State} {a0 : Array Value} {h : Heap} (hZ : Z.Warmed39 s.vm) (hw : ∀ d ∈ wordsEq, d.before a0 Z = true) {kI : Nat} (wi : (Jvm.Cond.instantiable ST kI).before a0 Z = true)
    {x t : Addr} {kb : ClassId} {cs : List Int32} {cd N2 : Int32} {vs : List Value} (E : RoadKit.Exa Z h x ST) (V : RoadKit.Fld Z h x ST "value" "[B" (.ref t)) (C : RoadKit.Fld Z h x ST "coder" "B" (.int cd)) (K : RoadKit.Arv Z h t kb .byte N2 vs (.int 0)) (hc : CodA cs cd N2 vs) (hb : ∀ c ∈ cs, ¬ c < 0 ∧ ¬ (65535 : Int32) < c) (l2 : cs.length ≤ 4000)
    {y t' : Addr} {kb' : ClassId} {ds : List Int32} {cd' N2' : Int32} {vs' : List Value} (E' : RoadKit.Exa Z h y ST) (V' : RoadKit.Fld Z h y ST "value" "[B" (.ref t')) (C' : RoadKit.Fld Z h y ST "coder" "B" (.int cd')) (K' : RoadKit.Arv Z h t' kb' .byte N2' vs' (.int 0)) (hc' : CodA ds cd' N2' vs') (hb' : ∀ c ∈ ds, ¬ c < 0 ∧ ¬ (65535 : Int32) < c) (l2' : ds.length ≤ 4000)
    {z : Int32} (S : RoadKit.Sta Z h ST "COMPACT_STRINGS" "Z" (.int z)) (hz : ¬ z = 0) (hfr : 2 ≤ R.frames) (hlo : W + 28 ≤ R.locals) :
    Back l R p e below s args (⟨"java/lang/String", "equals", "(Ljava/lang/Object;)Z"⟩ : MethodName) len W (fun P a => a = #[.ref x, .ref y] ∧ P.U.heap = h ∧ P.cells + 0 ≤ R.cells ∧ P.slots + 0 ≤ R.slots)
      (fun P _ v B => ∃ L, (((v = some (.int 1) ∧ cs = ds) ∨ (v = some (.int 0) ∧ ¬ cs = ds)) ∧ L = [] ∧ B.U.heap = h) ∧ B.locs = P.locs ++ L ∧ B.cells = P.cells + 0 ∧ B.slots = P.slots + 0) := by
  intro m meth c P g ig mk a X hg hsize hdg hW hn hp'
  obtain ⟨rfl, rfl, r1, r2⟩ := hp'
  have al : Z.vm.Alike P.U.vm := hZ.alike.trans X.warmed.alike
  obtain ⟨A, hx⟩ := txt_of wi al E V C K hc hb l2
  obtain ⟨A', hy⟩ := txt_of wi al E' V' C' K' hc' hb' l2'
  obtain ⟨v, B, X', ⟨⟨w, hv, hh, hq⟩, hl, hk, hs⟩, st⟩ := SEq.pays x t A cd cs.length (fun j => cs.getD j 0) y t' A' cd' ds.length (fun j => ds.getD j 0) z (tabEq_of (movedEq hZ hw)) hfr hlo m meth c P g ig mk _ X hg hsize hdg hW hn ⟨r1, r2, rfl, hx, hy, sta_is al S, hz⟩
  refine ⟨v, B, X', ⟨[], ⟨?_, rfl, hh⟩, hl, hk, hs⟩, st⟩
  rcases hq with ⟨rfl, q⟩ | ⟨rfl, q⟩
  · exact Or.inl ⟨hv, (same_list cs ds).mp q⟩
  · exact Or.inr ⟨hv, fun e => q ((same_list cs ds).mpr e)⟩
end StrChars.Road
namespace StrChars
open Jvm Sem ClassFile Op Lib Jvm.Stand Jvm.Free.XT Jvm.Free.ALB Jvm.Free.JM Jvm.Free
open Jvm.Lib.Cold (StaticIs)
namespace ChN
def yN : MethodName := ⟨"java/lang/String", "charAt", "(I)C"⟩
abbrev yB : ByteArray := jdk_42_method_56_code
theorem d0 : decode yB 0 = .ok (.aload_n 0, 1) := by decide +kernel
theorem d1 : decode yB 1 = .ok (.invokevirtual 492, 3) := by decide +kernel
theorem d4 : decode yB 4 = .ok (.ifCond (.eq) 12, 3) := by decide +kernel
theorem d7 : decode yB 7 = .ok (.aload_n 0, 1) := by decide +kernel
theorem d8 : decode yB 8 = .ok (.getfield 9, 3) := by decide +kernel
theorem d11 : decode yB 11 = .ok (.iload_n 1, 1) := by decide +kernel
theorem d12 : decode yB 12 = .ok (.invokestatic 495, 3) := by decide +kernel
theorem d15 : decode yB 15 = .ok (.ireturn, 1) := by decide +kernel
def site : List Cond := [.fieldLink "java/lang/String" 9 "java/lang/String" "value" "[B", IsL.tab, LChA.tab] ++ virtW "java/lang/String" 492 "java/lang/String" IsL.yN IsL.yN ++ staticW "java/lang/String" 495 LChA.yN
def tab : Cond := tabOf yN yB 2 (some .char) site
def P (x t : Addr) (V : Cell) (n : Nat) (f : Nat → Int32) (z : Int32) (fm : Value) (i : Nat) (args : Array Value) (s : State) : Prop := args = #[.ref x, .int (Int32.ofNat i)] ∧ Txt x t V 0 n f s ∧ i < n ∧ StaticIs s "java/lang/String" "COMPACT_STRINGS" "Z" (.int z) ∧ ¬ z = 0 ∧ StaticIs s "jdk/internal/util/Preconditions" "SIOOBE_FORMATTER" "Ljava/util/function/BiFunction;" fm ∧ fm.isRef = true
def E (f : Nat → Int32) (i : Nat) (r : Option Value) (s u : State) : Prop := XT.PureE (some (.int (f i))) r s u
/-- charAt(i) of a Latin-1 String of n chars, i < n: f i -/
theorem law (l : Launch) (x t : Addr) (V : Cell) (n : Nat) (f : Nat → Int32) (z : Int32) (fm : Value) (i : Nat) : Law l yN 2 1 3 40 yB 2 (some .char) site (P x t V n f z fm i) (E f i) [] 0 0 := by
  refine Law.of_walk (plainFor_of_name (by decide +kernel)) (by decide +kernel) (by decide +kernel) (by decide) (fun _ _ h => by rw [h.1]; rfl) (fun _ U U' hal hh h => ⟨h.1, h.2.1.mv hal hh, h.2.2.1, h.2.2.2.1.there hal hh, h.2.2.2.2.1, h.2.2.2.2.2.1.there hal hh, h.2.2.2.2.2.2⟩) (fun r U U' V V' h1 hal h2 h => XT.PureE.mv r U U' V V' h1 hal h2 h) ?_
  intro p e s m args below meth c s₁ X0 hexec hbytes hml hret hlk hnm hown hh0 W hP
  obtain ⟨rfl, hx, hi, s1, hz, s3, rf⟩ := hP
  have v31 := hx.2.2.2.1.2.2.2
  have hr := hx.2.2.2.2.2 i hi
  have hx0 := hx.mv X0.warmed.alike hh0
  have c1 : Steps p.tables e below (s₁.setTop (entryFrame m #[.ref x, .int (Int32.ofNat i)] 2)) (s₁.setTop (mkF m 1 #[.val (.ref x), .val (.int (Int32.ofNat i))] [.ref x])) := Steps.trans (entry rfl) (by
    show Steps p.tables e below (s₁.setTop (mkF m 0 #[.val (.ref x), .val (.int (Int32.ofNat i))] [])) _
    refine XS.aloadN X0.here hexec rfl (hb hbytes d0) rfl rfl ?_
    exact Steps.refl _)
  obtain ⟨v2, T2, X2, E2, g2⟩ := X0.callV hexec (IsL.law l x 0 z) hown (wks W (virtW "java/lang/String" 492 "java/lang/String" IsL.yN IsL.yN)) rfl (by decide) (wk W IsL.tab) (W := 0) (Nat.le_of_ble_eq_true rfl) (Nat.le_of_ble_eq_true rfl) (Nat.le_refl _) (Nat.le_refl _) (hx0.1.fc X0.warmed.alike) hx0.1.is (g := (mkF m 1 #[.val (.ref x), .val (.int (Int32.ofNat i))] [.ref x])) rfl (by rw [hml]; rfl) c1 (argsL := []) (rest := []) rfl rfl (by show 2 * 0 + 0 ≤ _; decide) (hb hbytes d1) (⟨rfl, hx0.2.2.1, hx.2.2.2.2.1.cd, s1.there X0.warmed.alike hh0, hz⟩)
  obtain ⟨rfl, q2⟩ := E2
  have hh2 := q2.trans hh0
  have hx2 := hx.mv X2.warmed.alike hh2
  obtain ⟨-, k1, k2⟩ | ⟨k0, -⟩ := hx.2.2.2.2.1
  · have c3 : Steps p.tables e below (s₁.setTop (entryFrame m #[.ref x, .int (Int32.ofNat i)] 2)) (T2.setTop (mkF m 8 #[.val (.ref x), .val (.int (Int32.ofNat i))] [.ref x])) := Steps.trans g2 (by
      refine XS.ifNo X2.here hexec rfl (hb hbytes d4) rfl (i0_eq_f (by decide)) ?_
      refine XS.aloadN X2.here hexec rfl (hb hbytes d7) rfl rfl ?_
      exact Steps.refl _)
    obtain ⟨T4, X4, q4, st4⟩ := X2.hget hexec hown (wk W (.fieldLink "java/lang/String" 9 "java/lang/String" "value" "[B")) hx2.2.1 (g := (mkF m 8 #[.val (.ref x), .val (.int (Int32.ofNat i))] [.ref x])) rfl (rest := []) rfl (hb hbytes d8)
    have hh4 := q4.trans hh2
    have c5 : Steps p.tables e below (s₁.setTop (entryFrame m #[.ref x, .int (Int32.ofNat i)] 2)) (T4.setTop (mkF m 12 #[.val (.ref x), .val (.int (Int32.ofNat i))] [.int (Int32.ofNat i), .ref t])) := (c3.trans (st4 _ (Steps.refl _))).trans (by
      refine XS.iloadN X4.here hexec rfl (hb hbytes d11) rfl ?_
      exact Steps.refl _)
    obtain ⟨v6, T6, X6, E6, g6⟩ := X4.callS hexec (LChA.law l t V i (lo8 (f i)) fm) hown (wks W (staticW "java/lang/String" 495 LChA.yN)) (wk W LChA.tab) (W := 0) (Nat.le_of_ble_eq_true rfl) (Nat.le_of_ble_eq_true rfl) (Nat.le_refl _) (Nat.le_refl _) (g := (mkF m 12 #[.val (.ref x), .val (.int (Int32.ofNat i))] [.int (Int32.ofNat i), .ref t])) rfl (by rw [hml]; rfl) c5 (argsL := [.ref t, .int (Int32.ofNat i)]) (rest := []) rfl rfl (by show 2 * 0 + 0 ≤ _; decide) (hb hbytes d12) (⟨rfl, hx.2.2.2.1.mv X4.warmed.alike hh4, (k2 i hi).1, s3.there X4.warmed.alike hh4, rf⟩)
    obtain ⟨rfl, q6⟩ := E6
    rw [chr8_lo8 hr.1 (k2 i hi).2] at g6
    exact ⟨T6, some (.int (f i)), _, _, _, X6, rfl, rfl, rfl, (fun h => by cases h), ⟨rfl, q6.trans hh4⟩, fun fs hl => Steps.trans g6 (X6.ireturnOut hexec hret (narrow_ch hr.1 hr.2) (Or.inr (Or.inr (Or.inr (Or.inl rfl)))) (hb hbytes d15) hl)⟩
  · exact absurd k0 (by decide)
theorem pays {l : Launch} {R : Room} {p : Program} {e : Env} {below : List Frame} {s : State} {sargs : Array Value} {len W : Nat} (x t : Addr) (V : Cell) (n : Nat) (f : Nat → Int32) (z : Int32) (fm : Value) (i : Nat) (htab : tab.before sargs s = true) (hfr : 4 ≤ R.frames) (hlo : W + 53 ≤ R.locals) :
    Back l R p e below s sargs yN len W (fun A₁ a₁ => A₁.cells + 0 ≤ R.cells ∧ A₁.slots + 0 ≤ R.slots ∧ P x t V n f z fm i a₁ A₁.U) (fun A₁ _ v₁ B₁ => E f i v₁ A₁.U B₁.U ∧ B₁.locs = A₁.locs ++ [] ∧ B₁.cells = A₁.cells + 0 ∧ B₁.slots = A₁.slots + 0) :=
  (law l x t V n f z fm i).pays htab hfr (by omega)
end ChN
end StrChars
namespace StrChars.Road
open Jvm Sem ClassFile Op Lib Jvm.Stand Jvm.Free Jvm.Free.XT
open Jvm.Lib.Cold (StaticIs)
/-- the words of String.charAt(int), the Latin-1 road alone -/
abbrev wordsChN : List Jvm.Cond := [.code ChN.yN ChN.yB 2 (some .char), .initialized ST, .fieldLink ST 9 ST "value" "[B", .fieldLink ST 38 ST "COMPACT_STRINGS" "Z", .fieldLink ST 15 ST "coder" "B", .code IsL.yN IsL.yB 1 (some .boolean), .methodLink ST 492 IsL.yN, .declares IsL.yN, .selects ST IsL.yN IsL.yN, .instanceMethod IsL.yN,
  .methodLink ST 495 LChA.yN, .static LChA.yN, .code LChA.yN LChA.yB 2 (some .char), .initialized "java/lang/StringLatin1", .methodLink "java/lang/StringLatin1" 9 JO.Str_checkIndex.yN, .static JO.Str_checkIndex.yN, .code JO.Str_checkIndex.yN JO.Str_checkIndex.yB 2 none,
  .fieldLink ST 1053 "jdk/internal/util/Preconditions" "SIOOBE_FORMATTER" "Ljava/util/function/BiFunction;", .methodLink ST 1059 JC.PreCheck.yN, .static JC.PreCheck.yN, .code JC.PreCheck.yN JC.PreCheck.yB 3 (some .int), .initialized "jdk/internal/util/Preconditions"]
theorem tabChN_of {a : Array Value} {s : State} (h : ∀ w ∈ wordsChN, w.before a s = true) : ChN.tab.before a s = true := by
  have hp : JC.PreCheck.tab.before a s = true := unparts (wk h (.code JC.PreCheck.yN JC.PreCheck.yB 3 (some .int))) (wks h (.initialized JC.PreCheck.yN.cls :: JC.PreCheck.site))
  have qk := consq hp h
  have hk : JO.Str_checkIndex.tab.before a s = true := unparts (wk qk (.code JO.Str_checkIndex.yN JO.Str_checkIndex.yB 2 none)) (wks qk (.initialized JO.Str_checkIndex.yN.cls :: JO.Str_checkIndex.site))
  have ql := consq hk h
  have hl : LChA.tab.before a s = true := unparts (wk ql (.code LChA.yN LChA.yB 2 (some .char))) (wks ql (.initialized LChA.yN.cls :: LChA.site))
  have hi : IsL.tab.before a s = true := unparts (wk h (.code IsL.yN IsL.yB 1 (some .boolean))) (wks h (.initialized IsL.yN.cls :: IsL.site))
  have q := consq hi (consq hl h)
  exact unparts (wk q (.code ChN.yN ChN.yB 2 (some .char))) (wks q (.initialized ChN.yN.cls :: ChN.site))
theorem movedChN {Z s : State} {a0 args : Array Value} (hZ : Z.Warmed39 s.vm) (hw : ∀ d ∈ wordsChN, d.before a0 Z = true) : ∀ d ∈ wordsChN, d.before args s = true := fun d hd => by
  have t : ∀ d ∈ wordsChN, (d.onTables && d.keepsFace) = true := by decide +kernel
  exact RoadKit.mv hZ (hw d hd) (t d hd)
/-- **charAt(i) OF A LATIN-1 STRING**, i < n: the char -/
theorem chN {p : Program} {l : Launch} {e : Env} {R : Room} {s : State} {args : Array Value} {below : List Frame} {len W : Nat} {Z : State} {a0 : Array Value} {h : Heap} (hZ : Z.Warmed39 s.vm) (hw : ∀ d ∈ wordsChN, d.before a0 Z = true) {kI : Nat} (wi : (Jvm.Cond.instantiable ST kI).before a0 Z = true)
    {x t : Addr} {kb : ClassId} {cs : List Int32} {N2 z : Int32} {vs : List Value} {fm : Value} {i : Nat} {j : Int32} (E : RoadKit.Exa Z h x ST) (V : RoadKit.Fld Z h x ST "value" "[B" (.ref t)) (C : RoadKit.Fld Z h x ST "coder" "B" (.int 0)) (K : RoadKit.Arv Z h t kb .byte N2 vs (.int 0)) (hc : CodA cs 0 N2 vs) (hb : ∀ c ∈ cs, ¬ c < 0 ∧ ¬ (65535 : Int32) < c)
    (S : RoadKit.Sta Z h ST "COMPACT_STRINGS" "Z" (.int z)) (hz : ¬ z = 0) (F : RoadKit.Sta Z h "jdk/internal/util/Preconditions" "SIOOBE_FORMATTER" "Ljava/util/function/BiFunction;" fm) (rf : fm.isRef = true) (l2 : cs.length ≤ 4000) (hi : i < cs.length) (hj : j = Int32.ofNat i) (hfr : 4 ≤ R.frames) (hlo : W + 53 ≤ R.locals) :
    Back l R p e below s args (⟨"java/lang/String", "charAt", "(I)C"⟩ : MethodName) len W (fun P a => a = #[.ref x, .int j] ∧ P.U.heap = h ∧ P.cells + 0 ≤ R.cells ∧ P.slots + 0 ≤ R.slots)
      (fun P _ v B => ∃ L, (v = some (.int (cs.getD i 0)) ∧ L = [] ∧ B.U.heap = h) ∧ B.locs = P.locs ++ L ∧ B.cells = P.cells + 0 ∧ B.slots = P.slots + 0) := by
  subst hj
  intro m meth c P g ig mk a X hg hsize hdg hW hn hp'
  obtain ⟨rfl, rfl, r1, r2⟩ := hp'
  have al : Z.vm.Alike P.U.vm := hZ.alike.trans X.warmed.alike
  obtain ⟨A, hx⟩ := txt_of wi al E V C K hc hb l2
  obtain ⟨v, B, X', ⟨⟨hv, hh⟩, hl, hk, hs⟩, st⟩ := ChN.pays x t A cs.length (fun j => cs.getD j 0) z fm i (tabChN_of (movedChN hZ hw)) hfr hlo m meth c P g ig mk _ X hg hsize hdg hW hn ⟨r1, r2, rfl, hx, hi, sta_is al S, hz, sta_is al F, rf⟩
  exact ⟨v, B, X', ⟨[], ⟨hv, rfl, hh⟩, hl, hk, hs⟩, st⟩
/-- what backV says of its String, as the contracts of this text ask it: cs's low bytes, coder 0 -/
theorem codOf {cs : List Int32} {n : Nat} (hn : cs.length = n) (hb : ∀ c ∈ cs, ¬ 255 < c) : CodA cs 0 (Int32.ofNat n) ((cs.map lo8).map Value.int) := Or.inl ⟨rfl, by rw [hn], by simp [List.map_map, Function.comp_def], hb⟩
end StrChars.Road
end Jvm.Pilot.@@N@@

namespace Jvm.Pilot.@@N@@
open Jvm Jvm.ClassFile Sem Op Lib Jvm.Free Jvm.Stand Jvm.LawKit Jvm.RoadKit Bundle Jvm.Pilot.@@N@@.Jvm.D
theorem own_lt {x y : Int32} (h : x < y) : if_icmp.holds .lt x y = true ∧ if_icmp.holds .ge x y = false := by simp [if_icmp.holds, h, Int32.not_le.mpr h]
def own_Goes (p : Program) (e : Env) (below : List Frame) (s : State) (Q : Option Value → Heap → List Loc → Prop) (kc ks : Nat) (U : State) : Prop :=
  ∃ t o, Steps p.tables e below U t ∧ t.status = .running ∧ Ended t below o ∧ ∃ v L, o = .returned v ∧ Q v t.heap L ∧ FrameEnd s o t L kc ks
theorem own_go {p : Program} {e : Env} {below : List Frame} {s : State} {Q : Option Value → Heap → List Loc → Prop} {kc ks : Nat} {U V : State} (h : ∀ t, Steps p.tables e below V t → Steps p.tables e below U t) (g : own_Goes p e below s Q kc ks V) : own_Goes p e below s Q kc ks U := by
  obtain ⟨t, o, h1, r⟩ := g
  exact ⟨t, o, h t h1, r⟩
theorem own_out {p : Program} {l : Launch} {e : Env} {R : Room} {s : State} {m : MethodId} {args : Array Value} {below : List Frame} {meth : Method} {c : Code} {T : State} {locs : List Loc} {cells slots : Nat} {h : Heap} {Q : Option Value → Heap → List Loc → Prop} {kc ks : Nat} {U : State} {v : Option Value}
    (X : Stand p l e R s m args below meth c T locs cells slots) (hlk : meth.locks = false) (hv : meth.sig.returnType = none → v = none)
    (hs : ∀ fs, (∀ (f : JFrame) (acts : List Action), f.method = m → f.locked = none → f.entered = [] → (doReturn e (T.setTop f) acts v).1 = T.setFrames fs) → Steps p.tables e below U (T.setFrames fs))
    (eT : T.heap = h) (hQ : Q v h locs) (hc : cells ≤ kc) (hsl : slots ≤ ks) : own_Goes p e below s Q kc ks U := by
  obtain ⟨fs, hr, hrun, hended, hW, hsame⟩ := X.leave hv hlk
  subst eT
  exact ⟨_, _, hs fs hr, hrun, hended, _, _, rfl, hQ, ⟨_, rfl⟩, hW, hsame.mono hc hsl⟩
theorem own_ks {h0 h : Heap} {ws : List Addr} (K : Keep h0 h ws) : h0.size ≤ h.size := K.1
theorem own_cmpL (x : Int64) : XT.cmpL x x = 0 := by simp [XT.cmpL]
theorem own_vne {a b : Int32} (h : a ≠ b) : Value.int a ≠ .int b := fun q => h (Value.int.inj q)
theorem own_nn (x : Int32) : ¬ (x &&& 2147483647) < 0 := fun h => absurd ((XT.and_neg32 x 2147483647).mp h).2 (by decide)
theorem own_ns {Z : State} {n0 : Nat} {h : Heap} (O : Old Z n0 h) : n0 ≤ h.size := O.1 ▸ O.2.1
theorem own_lk {p : Program} {l : Launch} {x : MethodName} {S : Spec} {code : ByteArray} {maxLocals : Nat} {ret : Option FieldType} {e : Env} {s : State} {m : MethodId} {args : Array Value} {below : List Frame} {meth : Method} {c : Code} {s₁ : State} (B : BodyLoose p l x S code maxLocals ret e s m args below meth c s₁) : meth.locks = false := B.notSynchronized
theorem own_if (cd : ClassFile.Cond) {x : Int32} {b : Bool} (h : if_icmp.holds cd x 0 = b) : ifCond.holds cd x = b := by rw [if0]; exact h
theorem own_aeq {a b : Addr} (h : a = b) : XT.acmp .eq (.ref a) (.ref b) = true ∧ XT.acmp .ne (.ref a) (.ref b) = false := by subst h; exact ⟨XT.aa_eq_t rfl, XT.aa_ne_f rfl⟩
theorem own_ane {a b : Addr} (h : ¬ a = b) : XT.acmp .eq (.ref a) (.ref b) = false ∧ XT.acmp .ne (.ref a) (.ref b) = true := ⟨XT.aa_eq_f (fun q => h (Value.ref.inj q)), XT.aa_ne_t (fun q => h (Value.ref.inj q))⟩
theorem own_eqI {args : Array Value} {s : State} {u : Term} {k : Int32} (h : (Jvm.Cond.eq u (.int k)).value args s none s [] = some true) : u.eval args s none [] s = some (.int k) := by
  simp only [Jvm.Cond.value] at h
  cases hf : u.eval args s none [] s with
  | none => simp [hf] at h
  | some v => cases v <;> simp [hf, Term.eval] at h; subst h; rfl
theorem own_eqJ {args : Array Value} {s : State} {u : Term} {k : Int64} (h : (Jvm.Cond.eq u (.long k)).value args s none s [] = some true) : u.eval args s none [] s = some (.long k) := by
  simp only [Jvm.Cond.value] at h
  cases hf : u.eval args s none [] s with
  | none => simp [hf] at h
  | some v => cases v <;> simp [hf, Term.eval] at h; subst h; rfl
theorem own_cl_gt (x y : Int64) : 0 < XT.cmpL x y ↔ y < x := by
  unfold XT.cmpL
  by_cases h : y < x
  · simp [h]
  · by_cases g : x = y
    · subst g; simp [h]
    · simp [h, g]
theorem own_cl_lt (x y : Int64) : XT.cmpL x y < 0 ↔ x < y := by
  unfold XT.cmpL
  by_cases h : y < x
  · have : ¬ x < y := fun q => by rw [Int64.lt_iff_toInt_lt] at h q; omega
    simp [h, this]
  · by_cases g : x = y
    · subst g; simp [h]
    · have : x < y := by
        rw [Int64.lt_iff_toInt_lt] at h ⊢
        have ne : x.toInt ≠ y.toInt := fun q => g (Int64.toInt_inj.mp q)
        omega
      simp [h, g, this]
theorem own_privateBack {p : Program} {l : Launch} {e : Env} {R : Room} {s : State} {m : MethodId} {args : Array Value} {below : List Frame} {meth : Method} {c : Code} {T : State} {locs : List Loc} {cells slots : Nat}
    (X : Stand p l e R s m args below meth c T locs cells slots) (hexec : p.tables.exec = Jvm.exec) {own : String} {index k : Nat} {y : MethodName} {bytes : ByteArray} {maxL : Nat} {ret : Option FieldType}
    (hown : s.vm.findClass own = some m.cls) (hlink : (Jvm.Cond.methodLink own index y).before args s = true) (hinst : (Jvm.Cond.instanceMethod y).before args s = true) (hmk : (Jvm.Cond.instantiable y.cls k).before args s = true)
    (hpriv : s.PrivateAt y) (hcode : (Jvm.Cond.code y bytes maxL ret).before args s = true) (hy : y.cls ≠ "java/lang/invoke/MethodHandle" ∧ y.cls ≠ "java/lang/invoke/VarHandle")
    {W : Nat} {Pre : Free.Pt → Array Value → Prop} {Post : Free.Pt → Array Value → Option Value → Free.Pt → Prop} (hK : Free.Back l R p e below s args y 3 W Pre Post)
    {g : JFrame} (hg : g.method = m) (hsize : g.locals.size = c.maxLocals) {s₀ : State} (hcome : Steps p.tables e below s₀ (T.setTop g)) {a : Addr} {cell : Cell} (hcell : T.heap[a]? = some cell) (hobj : ∀ q, cell.vm ≠ .statics q)
    {argsL rest : List Value} (hlen : ∀ sig, parseMethodDescriptor y.desc = some sig → argsL.length = sig.parameters.length)
    (hstack : g.stack = argsL.reverse ++ .ref a :: rest) (hW : 2 * g.monitorRoom + (rest.map fun v => v.category).sum ≤ W) (hdg : decode c.code g.pc = .ok (.invokevirtual index, 3))
    (hpre : ∀ vm₁, s.WarmedH vm₁ → Pre ⟨T.setVm vm₁, locs, cells, slots⟩ (.ref a :: argsL).toArray) :
    ∃ (v : Option Value) (vm₁ : Vm) (B : Free.Pt), s.WarmedH vm₁ ∧ Stand p l e R s m args below meth c B.U B.locs B.cells B.slots ∧ Post ⟨T.setVm vm₁, locs, cells, slots⟩ (.ref a :: argsL).toArray v B ∧
      Steps p.tables e below s₀ (B.U.setTop { g with pc := g.pc + 3, stack := v.toList ++ rest }) := by
  obtain ⟨mk, r, named, found, inst, abs⟩ := Cond.instanceMethod_spec hinst
  obtain ⟨r', cM, found', -, -, -, -, -, -, sig⟩ := Cond.code_spec named hcode
  cases found.symm.trans found'
  obtain ⟨cC, kC, k1, k2, -, k4, -⟩ := Cond.instantiable_spec hmk
  cases (findClass_of_methodNamed named).symm.trans k1
  have face : kC.isInterface = false := (Bool.or_eq_false_iff.mp k4).1
  have sel : selectMethod e.platform s.vm cell.cls mk = .method mk := selectMethod_private found (hpriv mk r named found)
  obtain ⟨vm₁, X₁, go⟩ := X.invokevirtual hexec hown hlink named found inst k2 face hy (a := a) (cell := cell) hcell hobj sel found abs k2 face (g := g) hg (argsL := argsL) (rest := rest) (hlen _ sig) hstack hdg
  obtain ⟨v, B, X', post, back⟩ := hK m meth c ⟨T.setVm vm₁, locs, cells, slots⟩ { g with stack := rest } (.invokevirtual index) mk (.ref a :: argsL).toArray X₁ hg hsize hdg hW (X₁.named named) (hpre vm₁ X₁.warmed)
  exact ⟨v, vm₁, B, X₁.warmed, X', post, (hcome.trans (go _ fun acts => by rw [doInvoke_state]; exact Steps.refl _)).trans back⟩
theorem own_fitR {C : String} {v : Value} (h : v.isRef = true) : fits (.object C) v = true := by rcases ref_cases h with rfl | ⟨a, rfl⟩ <;> rfl
theorem own_fI {args : Array Value} {s : State} {t : Term} {a : Addr} {O n d : String} {k : Int32} (ev : t.eval args s none [] s = some (.ref a)) (h : (Jvm.Cond.eq (.field t O n d) (.int k)).value args s none s [] = some true) : Fld s s.heap a O n d (.int k) := by
  refine Fld.start ?_
  simp only [Jvm.Cond.value, fld_at ev] at h
  cases hf : s.fieldOf? a O n d with
  | none => simp [hf] at h
  | some v => cases v <;> simp [hf, Term.eval] at h; subst h; rfl
theorem own_fJ {args : Array Value} {s : State} {t : Term} {a : Addr} {O n d : String} {k : Int64} (ev : t.eval args s none [] s = some (.ref a)) (h : (Jvm.Cond.eq (.field t O n d) (.long k)).value args s none s [] = some true) : Fld s s.heap a O n d (.long k) := by
  refine Fld.start ?_
  simp only [Jvm.Cond.value, fld_at ev] at h
  cases hf : s.fieldOf? a O n d with
  | none => simp [hf] at h
  | some v => cases v <;> simp [hf, Term.eval] at h; subst h; rfl
theorem own_fN {args : Array Value} {s : State} {t : Term} {a : Addr} {O n d : String} (ev : t.eval args s none [] s = some (.ref a)) (h : (Jvm.Cond.eq (.field t O n d) .null).value args s none s [] = some true) : Fld s s.heap a O n d .null := Fld.start ((fld_at ev).symm.trans (null_v h))
def own_GoesW (p : Program) (e : Env) (below : List Frame) (s : State) (Q : Option Value → Heap → Vm → List Loc → Prop) (kc ks : Nat) (U : State) : Prop :=
  ∃ t o, Steps p.tables e below U t ∧ t.status = .running ∧ Ended t below o ∧ ∃ v L, o = .returned v ∧ Q v t.heap t.vm L ∧ ReturnedEndW s o t L kc ks
theorem own_goW {p : Program} {e : Env} {below : List Frame} {s : State} {Q : Option Value → Heap → Vm → List Loc → Prop} {kc ks : Nat} {U V : State} (h : ∀ t, Steps p.tables e below V t → Steps p.tables e below U t) (g : own_GoesW p e below s Q kc ks V) : own_GoesW p e below s Q kc ks U := by
  obtain ⟨t, o, h1, r⟩ := g
  exact ⟨t, o, h t h1, r⟩
theorem own_outW {p : Program} {l : Launch} {e : Env} {R : Room} {s : State} {m : MethodId} {args : Array Value} {below : List Frame} {meth : Method} {c : Code} {T : State} {locs : List Loc} {cells slots : Nat} {h : Heap} {Q : Option Value → Heap → Vm → List Loc → Prop} {kc ks : Nat} {U : State} {v : Option Value} {vm0 : Vm} {k0 : Nat}
    (X : Stand p l e R (s.setVm vm0) m args below meth c T locs cells slots) (hS : s.Since vm0 k0) (hk : k0 ≤ h.size) (hlk : meth.locks = false) (hv : meth.sig.returnType = none → v = none)
    (hs : ∀ fs, (∀ (f : JFrame) (acts : List Action), f.method = m → f.locked = none → f.entered = [] → (doReturn e (T.setTop f) acts v).1 = T.setFrames fs) → Steps p.tables e below U (T.setFrames fs))
    (eT : T.heap = h) (hQ : Q v h T.vm locs) (hc : cells ≤ kc) (hsl : slots ≤ ks) : own_GoesW p e below s Q kc ks U := by
  subst eT
  obtain ⟨fs, hr, hrun, hended, hE⟩ := X.leaveW hS hk hv hlk
  exact ⟨_, _, hs fs hr, hrun, hended, _, _, rfl, hQ, hE.1, hE.2.1, hE.2.2.1, hE.2.2.2.mono hc hsl⟩
theorem own_backV {p : Program} {l : Launch} {e : Env} {R : Room} {s : State} {args : Array Value} {below : List Frame} {Z : State} {a0 : Array Value} {h : Heap} {y : MethodName} {bytes : ByteArray} {maxL : Nat} {ret : Option FieldType} {rm : Room} {len W : Nat} {as' : Array Value} {VI : Vm → Prop} {Q : Option Value → Heap → Vm → List Loc → Prop}
    (hM : MetFree l y (head1 [Jvm.Cond.code y bytes maxL ret] rm) (fun a U => a = as' ∧ Z.Warmed39 U.vm ∧ U.heap = h ∧ VI U.vm) (fun _ _ _ _ _ => True) (fun _ U o U' => ∃ v L, o = .returned v ∧ Q v U'.heap U'.vm L ∧ ReturnedEndW U o U' L rm.cells rm.slots))
    (hZ : Z.Warmed39 s.vm) (hV : ∀ vm₁, s.WarmedH vm₁ → VI vm₁) (wc : (Jvm.Cond.code y bytes maxL ret).before a0 Z = true) (wz : (Jvm.Cond.initialized y.cls).before a0 Z = true) (hf : rm.frames + 1 ≤ R.frames) (hl : W + (maxL + 11) + rm.locals ≤ R.locals) :
    BackS l R p e below s args y len W (fun A a => a = as' ∧ A.U.heap = h ∧ A.cells + rm.cells ≤ R.cells ∧ A.slots + rm.slots ≤ R.slots)
      (fun A _ v B => ∃ L, Q v B.U.heap B.U.vm L ∧ B.locs = A.locs ++ L ∧ B.cells = A.cells + rm.cells ∧ B.slots = A.slots + rm.slots) :=
  BackS.of_freeW (bytes := bytes) (maxL := maxL) (ret := ret) (E := fun _ _ o t L k n => k = rm.cells ∧ n = rm.slots ∧ ∃ v, o = .returned v ∧ Q v t.heap t.vm L) hM hf hl
    (fun m meth c A a Y hp => ⟨by show (Jvm.Cond.and _ .tt).before a A.U = true; rw [Cond.before_and, mv (wtrans hZ Y.warmed) wc]; rfl, mv (wtrans hZ Y.warmed) wc, mv (wtrans hZ Y.warmed) wz, hp.2.2.1, hp.2.2.2⟩)
    (fun m meth c A a g mk Y hp => ⟨hp.1, wtrans hZ Y.warmed, hp.2.1, hV _ Y.warmed⟩) (fun _ _ _ _ _ _ _ _ _ => trivial)
    (fun _ _ _ _ ⟨v, L, h1, h2, h3⟩ => ⟨L, _, _, h3, rfl, rfl, v, h1, h2⟩)
    (fun m meth c A a g mk v t L k n Y hp _ _ ⟨e1, e2, v', e3, e4⟩ => by cases e3; subst e1 e2; exact ⟨L, e4, rfl, rfl, rfl⟩)
theorem own_IBw {Z b : State} {vm : Vm} {Ts : List String} (h : b.WarmedH vm) (I : IB Z b.vm Ts) : IB Z vm Ts := by
  obtain ⟨more, h1, h2⟩ := I
  exact ⟨more, by rw [h.interned_eq]; exact h1, h2⟩
theorem own_Litw {b : State} {vm0 vm : Vm} {own : String} {i : Nat} {a : Addr} (h : (b.setVm vm0).WarmedH vm) (L : Lit (b.setVm vm0) own i a) : Lit (b.setVm vm) own i a := Lit.stays L h.wide
theorem pn_0 : plainName "java/lang/String" = true := by first | (simp [plainName, overriddenIn]; done) | decide +kernel
theorem pn_1 : plainName "com/example/izin/izin/AttributeDefaultFlagPinLaw" = true := by first | (simp [plainName, overriddenIn]; done) | decide +kernel
theorem pn_2 : plainName "com/example/izin/izin/Attribute" = true := by first | (simp [plainName, overriddenIn]; done) | decide +kernel
theorem pd_0 : parseMethodDescriptor "([CIILjava/lang/Void;)V" = some ⟨[(.array .char), .int, .int, (.object "java/lang/Void")], none⟩ := by decide +kernel
theorem pd_1 : parseMethodDescriptor "([C)V" = some ⟨[(.array .char)], none⟩ := by decide +kernel
theorem pd_2 : parseMethodDescriptor "(Ljava/lang/Object;)Z" = some ⟨[(.object "java/lang/Object")], some .boolean⟩ := by decide +kernel
theorem pd_3 : parseMethodDescriptor "([CI)Ljava/lang/String;" = some ⟨[(.array .char), .int], some (.object "java/lang/String")⟩ := by decide +kernel
theorem pd_4 : parseMethodDescriptor "()I" = some ⟨[], some .int⟩ := by decide +kernel
theorem pd_5 : parseMethodDescriptor "(I)C" = some ⟨[.int], some .char⟩ := by decide +kernel
theorem pd_6 : parseMethodDescriptor "(Ljava/lang/String;)Z" = some ⟨[(.object "java/lang/String")], some .boolean⟩ := by decide +kernel
theorem pd_7 : parseMethodDescriptor "(JI)C" = some ⟨[.long, .int], some .char⟩ := by decide +kernel
theorem own_allc {P : Int32 → Prop} {y : Int32} {L : List Int32} (q : P y) (r : ∀ x ∈ L, P x) : ∀ x ∈ y :: L, P x := fun x z => (List.mem_cons.mp z).elim (fun u => u ▸ q) (r x)
theorem own_words {a0 : Array Value} {Z : State} (hw : ∀ d ∈ tables_1, d.before a0 Z = true) : ∀ d ∈ StrChars.Road.words, d.before a0 Z = true := fun d hd => hw d ((by decide +kernel : ∀ d ∈ StrChars.Road.words, d ∈ tables_1) d hd)
theorem own_wordsEq {a0 : Array Value} {Z : State} (hw : ∀ d ∈ tables_1, d.before a0 Z = true) : ∀ d ∈ StrChars.Road.wordsEq, d.before a0 Z = true := fun d hd => hw d ((by decide +kernel : ∀ d ∈ StrChars.Road.wordsEq, d ∈ tables_1) d hd)
theorem own_wordsLen {a0 : Array Value} {Z : State} (hw : ∀ d ∈ tables_1, d.before a0 Z = true) : ∀ d ∈ StrChars.Road.wordsLen, d.before a0 Z = true := fun d hd => hw d ((by decide +kernel : ∀ d ∈ StrChars.Road.wordsLen, d ∈ tables_1) d hd)
theorem own_wordsChN {a0 : Array Value} {Z : State} (hw : ∀ d ∈ tables_1, d.before a0 Z = true) : ∀ d ∈ StrChars.Road.wordsChN, d.before a0 Z = true := fun d hd => hw d ((by decide +kernel : ∀ d ∈ StrChars.Road.wordsChN, d ∈ tables_1) d hd)
theorem own_wS {a0 : Array Value} {Z : State} (hw : ∀ d ∈ tables_1, d.before a0 Z = true) : ∀ a ∈ Bundle.stringAtoms, a.before a0 Z = true := by
  intro a ha
  simp only [Bundle.stringAtoms, List.mem_cons, List.not_mem_nil, or_false] at ha
  rcases ha with rfl | rfl | rfl | rfl | rfl | rfl | rfl
  · exact (hw _ (List.mem_of_getElem? (i := 15) rfl))
  · exact (hw _ (List.mem_of_getElem? (i := 14) rfl))
  · exact (hw _ (List.mem_of_getElem? (i := 27) rfl))
  · exact (hw _ (List.mem_of_getElem? (i := 28) rfl))
  · exact (hw _ (List.mem_of_getElem? (i := 29) rfl))
  · exact (hw _ (List.mem_of_getElem? (i := 30) rfl))
  · exact (hw _ (List.mem_of_getElem? (i := 31) rfl))
theorem own_up {cs : List Int32} (h : ∀ c ∈ cs, ¬ c < 0 ∧ ¬ (255 : Int32) < c) : ∀ c ∈ cs, ¬ c < 0 ∧ ¬ (65535 : Int32) < c := fun c hc => ⟨(h c hc).1, fun q => (h c hc).2 (by rw [Int32.lt_iff_toInt_lt] at q ⊢; have e1 : (65535 : Int32).toInt = 65535 := rfl; have e2 : (255 : Int32).toInt = 255 := rfl; omega)⟩
theorem own_chr (x : Int32) : ¬ ((x &&& (255 : Int32)).toUInt32.toUInt16.toUInt32.toInt32) < 0 ∧ ¬ (255 : Int32) < ((x &&& (255 : Int32)).toUInt32.toUInt16.toUInt32.toInt32) := by
  have t : ∀ k : Fin 256, ¬ ((Int32.ofNat k.val).toUInt32.toUInt16.toUInt32.toInt32) < 0 ∧ ¬ (255 : Int32) < ((Int32.ofNat k.val).toUInt32.toUInt16.toUInt32.toInt32) := by decide +kernel
  have h : (x &&& 255).toBitVec.toNat < 256 := by
    simp only [Int32.toBitVec_and, BitVec.toNat_and]
    exact Nat.lt_succ_of_le Nat.and_le_right
  have e : (x &&& 255) = Int32.ofNat (x &&& 255).toBitVec.toNat := by
    apply Int32.toBitVec_inj.mp
    show _ = BitVec.ofNat 32 _
    rw [BitVec.ofNat_toNat]; simp
  rw [e]
  exact t ⟨_, h⟩
theorem own_narc {r : Int32} (h : ¬ r < 0 ∧ ¬ (255 : Int32) < r) : nar .char r = r := by
  have t : ∀ k : Fin 256, nar .char (Int32.ofNat k.val) = Int32.ofNat k.val := by decide +kernel
  have e255 : (255 : Int32).toInt = 255 := rfl
  have h1 := h.1
  have h2 := h.2
  rw [XT.negI32] at h1
  rw [Int32.lt_iff_toInt_lt, e255] at h2
  have e : r = Int32.ofNat r.toInt.toNat := by
    apply Int32.toInt_inj.mp
    rw [Int32.toInt_ofNat_of_lt (by omega)]
    omega
  rw [e]
  exact t ⟨r.toInt.toNat, by omega⟩
theorem own_compact {args : Array Value} {s : State} (h1 : (Jvm.Cond.isInt (.static "java/lang/String" "COMPACT_STRINGS" "Z")).value args s none s [] = some true) (h2 : (Jvm.Cond.not (.eq (.static "java/lang/String" "COMPACT_STRINGS" "Z") (.int 0))).value args s none s [] = some true) (h3 : (Jvm.Cond.initializedFor "java/lang/String" "COMPACT_STRINGS" "Z").before args s = true) :
    ∃ z : Int32, Sta s s.heap "java/lang/String" "COMPACT_STRINGS" "Z" (.int z) ∧ ¬ z = 0 := by
  obtain ⟨z, ev⟩ := is_v h1
  refine ⟨z, Sta.start ev (Or.inl h3), fun q => ?_⟩
  have h4 := not_v h2
  rw [eq_i ev (Term.int_eval (0)) (by rw [q])] at h4
  cases h4
theorem own_eqR {args : Array Value} {s : State} {u t : Term} {a : Addr} (ev : t.eval args s none [] s = some (.ref a)) (h : (Jvm.Cond.eq u t).value args s none s [] = some true) : u.eval args s none [] s = some (.ref a) := by
  simp only [Jvm.Cond.value, ev] at h
  cases hf : u.eval args s none [] s with
  | none => simp [hf] at h
  | some v => cases v <;> simp [hf] at h; subst h; rfl
theorem own_len {args : Array Value} {s : State} {t : Term} {a : Addr} {cl : Cell} {k : Int32} (ev : t.eval args s none [] s = some (.ref a)) (hc : s.heap[a]? = some cl) (h : (Term.length t).eval args s none [] s = some (.int k)) : cl.slots.size < 2 ^ 31 ∧ cl.slots.size.toInt32 = k := by
  simp only [Term.eval, Option.bind_eq_bind, ev, Option.bind_some] at h
  obtain ⟨c', ha, h⟩ := Option.bind_eq_some_iff.mp h
  cases hc.symm.trans (State.arrayAt?_spec ha).1
  by_cases hn : cl.slots.size < 2 ^ 31
  · rw [if_pos hn] at h
    exact ⟨hn, Value.int.inj (Option.some.inj h)⟩
  · rw [if_neg hn] at h; cases h
theorem own_and3 (x : Int32) : (x &&& 3) = 0 ∨ (x &&& 3) = 1 ∨ (x &&& 3) = 2 ∨ (x &&& 3) = 3 := by
  have t : ∀ k : Fin 4, (Int32.ofNat k.val) = 0 ∨ (Int32.ofNat k.val) = 1 ∨ (Int32.ofNat k.val) = 2 ∨ (Int32.ofNat k.val) = 3 := by decide
  have h : (x &&& 3).toBitVec.toNat < 4 := by
    simp only [Int32.toBitVec_and, BitVec.toNat_and]
    exact Nat.lt_succ_of_le Nat.and_le_right
  have e : (x &&& 3) = Int32.ofNat (x &&& 3).toBitVec.toNat := by
    apply Int32.toBitVec_inj.mp
    show _ = BitVec.ofNat 32 _
    rw [BitVec.ofNat_toNat]; simp
  rw [e]
  exact t ⟨_, h⟩
theorem own_mod6 (x : Int32) : (x &&& 2147483647) % 6 = 0 ∨ (x &&& 2147483647) % 6 = 1 ∨ (x &&& 2147483647) % 6 = 2 ∨ (x &&& 2147483647) % 6 = 3 ∨ (x &&& 2147483647) % 6 = 4 ∨ (x &&& 2147483647) % 6 = 5 := by
  have h := own_nn x
  generalize x &&& 2147483647 = y at h
  rw [XT.negI32] at h
  have e : (y % 6).toInt = y.toInt.tmod 6 := Int32.toInt_mod y 6
  have b1 : 0 ≤ y.toInt.tmod 6 := Int.tmod_nonneg 6 (by omega)
  have b2 : y.toInt.tmod 6 < 6 := Int.tmod_lt_of_pos _ (by omega)
  generalize y.toInt.tmod 6 = t at e b1 b2
  have hh : t = 0 ∨ t = 1 ∨ t = 2 ∨ t = 3 ∨ t = 4 ∨ t = 5 := by omega
  rcases hh with rfl | rfl | rfl | rfl | rfl | rfl
  · exact Or.inl (Int32.toInt_inj.mp e)
  · exact Or.inr (Or.inl (Int32.toInt_inj.mp e))
  · exact Or.inr (Or.inr (Or.inl (Int32.toInt_inj.mp e)))
  · exact Or.inr (Or.inr (Or.inr (Or.inl (Int32.toInt_inj.mp e))))
  · exact Or.inr (Or.inr (Or.inr (Or.inr (Or.inl (Int32.toInt_inj.mp e)))))
  · exact Or.inr (Or.inr (Or.inr (Or.inr (Or.inr (Int32.toInt_inj.mp e)))))
theorem own_chl (y : Int64) : ¬ (((y &&& (255 : Int64)).toInt32).toUInt32.toUInt16.toUInt32.toInt32) < 0 ∧ ¬ (255 : Int32) < (((y &&& (255 : Int64)).toInt32).toUInt32.toUInt16.toUInt32.toInt32) := by
  have t : ∀ k : Fin 256, ¬ (((Int64.ofNat k.val).toInt32).toUInt32.toUInt16.toUInt32.toInt32) < 0 ∧ ¬ (255 : Int32) < (((Int64.ofNat k.val).toInt32).toUInt32.toUInt16.toUInt32.toInt32) := by decide +kernel
  have h : ((y &&& (255 : Int64)).toBitVec).toNat < 256 := by
    simp only [Int64.toBitVec_and, BitVec.toNat_and]
    exact Nat.lt_succ_of_le Nat.and_le_right
  have e : (y &&& (255 : Int64)) = Int64.ofNat (y &&& (255 : Int64)).toBitVec.toNat := by
    apply Int64.toBitVec_inj.mp
    show _ = BitVec.ofNat 64 _
    rw [BitVec.ofNat_toNat]; simp
  rw [e]
  exact t ⟨_, h⟩
theorem own_IBm {Z : State} {vm : Vm} (I : IB Z vm []) : IB Z vm [""] := by
  obtain ⟨more, h1, h2⟩ := I
  exact ⟨more, h1, fun q hq => by obtain ⟨t, ht, -⟩ := h2 q hq; simp at ht⟩
theorem own_six (cs : List Int32) (h : cs.length ≤ 4000) : (∃ d0 d1 d2 d3 d4 d5, cs = [d0, d1, d2, d3, d4, d5]) ∨ (¬ Int32.ofNat cs.length = 6 ∧ ¬ cs = ([112, 117, 98, 108, 105, 99] : List Int32)) := by
  by_cases q : cs.length = 6
  · refine Or.inl ?_
    match cs, q with
    | [d0, d1, d2, d3, d4, d5], _ => exact ⟨d0, d1, d2, d3, d4, d5, rfl⟩
  · refine Or.inr ⟨fun e => q ?_, fun e => q (by rw [e]; rfl)⟩
    have e1 := congrArg Int32.toInt e
    rw [Int32.toInt_ofNat_of_lt (by omega)] at e1
    have e6 : (6 : Int32).toInt = 6 := rfl
    rw [e6] at e1
    omega
theorem own_codp : StrChars.Road.CodA ([112, 117, 98, 108, 105, 99] : List Int32) 0 (6 : Int32) [(.int (112 : Int32)), (.int (117 : Int32)), (.int (98 : Int32)), (.int (108 : Int32)), (.int (105 : Int32)), (.int (99 : Int32))] := Or.inl ⟨rfl, by decide, by decide, by decide⟩
theorem own_Litv {b b2 : State} {vm : Vm} {own : String} {i : Nat} {a : Addr} (L : Lit (b.setVm vm) own i a) : Lit (b2.setVm vm) own i a := L
theorem d4_0 : decode jdk_42_method_149_code 0 = .ok (.aload_n 0, 1) := by decide +kernel
theorem d4_1 : decode jdk_42_method_149_code 1 = .ok (.invokespecial 1, 3) := by decide +kernel
theorem d4_4 : decode jdk_42_method_149_code 4 = .ok (.iload_n 3, 1) := by decide +kernel
theorem d4_5 : decode jdk_42_method_149_code 5 = .ok (.ifCond .ne 22, 3) := by decide +kernel
theorem d4_8 : decode jdk_42_method_149_code 8 = .ok (.aload_n 0, 1) := by decide +kernel
theorem d4_9 : decode jdk_42_method_149_code 9 = .ok (.ldc 7, 2) := by decide +kernel
theorem d4_11 : decode jdk_42_method_149_code 11 = .ok (.getfield 9, 3) := by decide +kernel
theorem d4_14 : decode jdk_42_method_149_code 14 = .ok (.putfield 9, 3) := by decide +kernel
theorem d4_17 : decode jdk_42_method_149_code 17 = .ok (.aload_n 0, 1) := by decide +kernel
theorem d4_18 : decode jdk_42_method_149_code 18 = .ok (.ldc 7, 2) := by decide +kernel
theorem d4_20 : decode jdk_42_method_149_code 20 = .ok (.getfield 15, 3) := by decide +kernel
theorem d4_23 : decode jdk_42_method_149_code 23 = .ok (.putfield 15, 3) := by decide +kernel
theorem d4_26 : decode jdk_42_method_149_code 26 = .ok (.return_, 1) := by decide +kernel
theorem ef_e4 (m : MethodId) (x : Addr) (b : Addr) : entryFrame m #[(.ref x), (.ref b), (.int (0 : Int32)), (.int (0 : Int32)), .null] 6 = mkF m 0 #[.val (.ref x), .val (.ref b), .val (.int (0 : Int32)), .val (.int (0 : Int32)), .val .null, .unset] [] := by
  first | (simp [entryFrame, mkF, argsToLocals, Value.category]; done) | rfl
def Q_e4 (Z : State) (x : Addr) (b : Addr) (h0 : Heap) (n0 : Nat) (v : Option Value) (h : Heap) (vm : Vm) (L : List Loc) : Prop := v = none ∧ Fr n0 L ∧ Keep h0 h [x] ∧ Fld Z h x "java/lang/String" "coder" "B" (.int (0 : Int32)) ∧ ∃ (t : Addr) (kb : ClassId) (le : Addr), Fld Z h x "java/lang/String" "value" "[B" (.ref t) ∧ Arv Z h t kb .byte (0 : Int32) [] (.int (0 : Int32)) ∧ x ≠ t ∧ IB Z vm [""] ∧ (∀ b : State, Lit (b.setVm vm) "java/lang/String" 7 le) ∧ Fld Z h le "java/lang/String" "coder" "B" (.int (0 : Int32)) ∧ Fld Z h le "java/lang/String" "value" "[B" (.ref t) ∧ Exa Z h le "java/lang/String" ∧ x ≠ le
set_option maxRecDepth 65536 in
set_option maxHeartbeats 40000000 in
theorem rm_e4 (l : Launch) (Z : State) (a0 : Array Value) (hw : ∀ d ∈ tables_1, d.before a0 Z = true) (ws : List Jvm.Cond) (x : Addr) (b : Addr) (h0 : Heap) (n0 : Nat) (O0 : Old Z n0 h0) (Fv : Fld Z h0 x "java/lang/String" "value" "[B" .null) (Fc : Fld Z h0 x "java/lang/String" "coder" "B" (.int (0 : Int32))) (Ex : Exa Z h0 x "java/lang/String") (g_x : n0 ≤ x) (hh7 : Jvm.Lit.constHeld Z "java/lang/String" 7) (hcw : Jvm.Lit.compactW.before a0 Z = true) :
    MetFree l (⟨"java/lang/String", "<init>", "([CIILjava/lang/Void;)V"⟩ : MethodName) (head1 (Jvm.Cond.code (⟨"java/lang/String", "<init>", "([CIILjava/lang/Void;)V"⟩ : MethodName) jdk_42_method_149_code 6 none :: ws) ({ frames := 1, cells := 2, slots := 4, locals := 12 } : Room)) (fun av_ U => av_ = #[(.ref x), (.ref b), (.int (0 : Int32)), (.int (0 : Int32)), .null] ∧ Z.Warmed39 U.vm ∧ U.heap = h0 ∧ (fun vm_ : Vm => IB Z vm_ []) U.vm) (fun _ _ _ _ _ => True) (fun _ U o_ U' => ∃ v L, o_ = .returned v ∧ Q_e4 Z x b h0 n0 v U'.heap U'.vm L ∧ ReturnedEndW U o_ U' L ({ frames := 1, cells := 2, slots := 4, locals := 12 } : Room).cells ({ frames := 1, cells := 2, slots := 4, locals := 12 } : Room).slots) := by
  refine MetFree.of_bodySF (plainFor_of_name pn_0) hisR ?_
  intro p e s m args below meth c s₁ Bd hml0 hP hK
  obtain ⟨rfl, hZ, hh, hVI⟩ := hP
  have hZ : Z.Warmed39 (s.setVm s.vm).vm := hZ
  have hx := Bd.exec
  have hby := Bd.bytes
  have hml : c.maxLocals = 6 := hml0
  have hown : (s.setVm s.vm).vm.findClass "java/lang/String" = some m.cls := findClass_of_methodNamed Bd.named
  have hnm := (name_of_methodNamed Bd.named Bd.method).1
  have hlk := own_lk Bd
  have hret := Bd.returns
  have X0 : Stand p l e ({ frames := 1, cells := 2, slots := 4, locals := 12 } : Room) (s.setVm s.vm) m #[(.ref x), (.ref b), (.int (0 : Int32)), (.int (0 : Int32)), .null] below meth c s₁ [] 0 0 := Stand.of_body Bd
  have e0 : s₁.heap = h0 := by rw [← hh, Bd.state]; rfl
  have N0 := Fr.nil n0
  have hS : s.Since s.vm h0.size := (State.WarmedH.refl s).since _
  have hk : h0.size ≤ h0.size := Nat.le_refl _
  have wS : ∀ a ∈ Bundle.stringAtoms, a.before a0 Z = true := own_wS hw
  show own_GoesW p e below s (Q_e4 Z x b h0 n0) ({ frames := 1, cells := 2, slots := 4, locals := 12 } : Room).cells ({ frames := 1, cells := 2, slots := 4, locals := 12 } : Room).slots (s₁.setTop (entryFrame m #[(.ref x), (.ref b), (.int (0 : Int32)), (.int (0 : Int32)), .null] 6))
  refine own_goW (fun _ ww => castTop (ef_e4 m x b) ww) ?_
  have hI : IB Z s.vm [] := hVI
  have hkp : ∀ (b : Addr) (cl : Cell), Z.heap[b]? = some cl → s.heap[b]? = some cl := by rw [hh]; exact O0.2.2
  show own_GoesW _ _ _ _ _ _ _ (s₁.setTop (mkF m 0 #[.val (.ref x), .val (.ref b), .val (.int (0 : Int32)), .val (.int (0 : Int32)), .val .null, .unset] []))
  refine own_goW (fun _ ww => XS.aloadN X0.here hx rfl (hb hby d4_0) rfl rfl ww) ?_
  show own_GoesW _ _ _ _ _ _ _ (s₁.setTop (mkF m 1 #[.val (.ref x), .val (.ref b), .val (.int (0 : Int32)), .val (.int (0 : Int32)), .val .null, .unset] [(.ref x)]))
  obtain ⟨T1, X1, e1, st1⟩ := initO X0 hx hZ hown (hw _ (List.mem_of_getElem? (i := 23) rfl)) (hw _ (List.mem_of_getElem? (i := 24) rfl)) (hw _ (List.mem_of_getElem? (i := 25) rfl)) e0 (g := (mkF m 1 #[.val (.ref x), .val (.ref b), .val (.int (0 : Int32)), .val (.int (0 : Int32)), .val .null, .unset] [(.ref x)])) rfl (by rw [hml]; rfl) rfl (hb hby d4_1) (by decide) (W := 0) (by show 2 * 0 + _ ≤ _; exact Nat.le_of_eq rfl) (by decide)
  refine own_goW st1 ?_
  show own_GoesW _ _ _ _ _ _ _ (T1.setTop (mkF m 4 #[.val (.ref x), .val (.ref b), .val (.int (0 : Int32)), .val (.int (0 : Int32)), .val .null, .unset] []))
  refine own_goW (fun _ ww => XS.iloadN X1.here hx rfl (hb hby d4_4) rfl  ww) ?_
  show own_GoesW _ _ _ _ _ _ _ (T1.setTop (mkF m 5 #[.val (.ref x), .val (.ref b), .val (.int (0 : Int32)), .val (.int (0 : Int32)), .val .null, .unset] [(.int (0 : Int32))]))
  refine own_goW (fun _ ww => XS.ifNo X1.here hx rfl (hb hby d4_5) rfl (own_if .ne (teq (by decide : (0 : Int32) = (0 : Int32))).2) ww) ?_
  show own_GoesW _ _ _ _ _ _ _ (T1.setTop (mkF m 8 #[.val (.ref x), .val (.ref b), .val (.int (0 : Int32)), .val (.int (0 : Int32)), .val .null, .unset] []))
  refine own_goW (fun _ ww => XS.aloadN X1.here hx rfl (hb hby d4_8) rfl rfl ww) ?_
  show own_GoesW _ _ _ _ _ _ _ (T1.setTop (mkF m 9 #[.val (.ref x), .val (.ref b), .val (.int (0 : Int32)), .val (.int (0 : Int32)), .val .null, .unset] [(.ref x)]))
  obtain ⟨a2, T2, h2, k2, t2, kb2, X2, e2, E2, hS, hk, hZ, hown, EA2, CA2, VA2, KA2, -, -, hI, hL2, st2⟩ := ldcSVL X1 hx hZ hown (hw _ (List.mem_of_getElem? (i := 26) rfl)) wS e1 hS hk (Fr.nil _) hkp hI (by simp) hh7 hcw (vs := []) (z := (0 : Int32)) ⟨by simp, rfl⟩ (by decide) rfl (g := (mkF m 9 #[.val (.ref x), .val (.ref b), .val (.int (0 : Int32)), .val (.int (0 : Int32)), .val .null, .unset] [(.ref x)])) rfl (hb hby d4_9) (n := 0) (by decide) (by decide) (by decide) (by decide)
  have f3 : Fld Z h2 x "java/lang/String" "value" "[B" .null := (Fv.ext E2)
  have f4 : Fld Z h2 x "java/lang/String" "coder" "B" (.int (0 : Int32)) := (Fc.ext E2)
  have f5 : Exa Z h2 x "java/lang/String" := (Ex.ext E2)
  have O2 := O0.ext E2
  have K2 := (Keep.refl h0 [x]).ext E2
  have ne_x_a2 : x ≠ a2 := Fld.ne f3 VA2 (by simp)
  have ne_x_t2 : x ≠ t2 := Exa.neArv f5 KA2 (hw _ (List.mem_of_getElem? (i := 14) rfl))
  refine own_goW st2 ?_
  show own_GoesW _ _ _ _ _ _ _ (T2.setTop (mkF m 11 #[.val (.ref x), .val (.ref b), .val (.int (0 : Int32)), .val (.int (0 : Int32)), .val .null, .unset] [(.ref a2), (.ref x)]))
  obtain ⟨T6, X6, e6, st6⟩ := getF X2 hx hZ hown (host := "") (Or.inl (hw _ (List.mem_of_getElem? (i := 32) rfl))) Via.refl e2 VA2 (g := (mkF m 11 #[.val (.ref x), .val (.ref b), .val (.int (0 : Int32)), .val (.int (0 : Int32)), .val .null, .unset] [(.ref a2), (.ref x)])) rfl rfl (hb hby d4_11)
  refine own_goW st6 ?_
  show own_GoesW _ _ _ _ _ _ _ (T6.setTop (mkF m 14 #[.val (.ref x), .val (.ref b), .val (.int (0 : Int32)), .val (.int (0 : Int32)), .val .null, .unset] [(.ref t2), (.ref x)]))
  obtain ⟨T7, h7, X7, e7, W7, st7⟩ := putF X6 hx hZ hown (host := "") (Or.inl (hw _ (List.mem_of_getElem? (i := 32) rfl))) Via.refl e6 f3 f5 (Or.inr ⟨(hw _ (List.mem_of_getElem? (i := 28) rfl)), rfl, hnm⟩) (hw _ (List.mem_of_getElem? (i := 14) rfl)) (ty := (.array .byte)) (by decide) rfl rfl (g := (mkF m 14 #[.val (.ref x), .val (.ref b), .val (.int (0 : Int32)), .val (.int (0 : Int32)), .val .null, .unset] [(.ref t2), (.ref x)])) rfl rfl (hb hby d4_14)
  have f8 : Fld Z h7 x "java/lang/String" "value" "[B" (.ref t2) := (f3.same W7)
  have f9 : Fld Z h7 x "java/lang/String" "coder" "B" (.int (0 : Int32)) := (f4.other W7 (Or.inr (slot_ne (Or.inr (hw _ (List.mem_of_getElem? (i := 29) rfl))) (Or.inr (hw _ (List.mem_of_getElem? (i := 28) rfl))) (by decide) (t := .byte) (t' := (.array .byte)) (by decide) (by decide))))
  have f10 : Exa Z h7 x "java/lang/String" := (f5.wr W7)
  have f11 : Exa Z h7 a2 "java/lang/String" := (EA2.wr W7)
  have f12 : Fld Z h7 a2 "java/lang/String" "coder" "B" (.int (0 : Int32)) := (CA2.other W7 (Or.inl (Ne.symm ne_x_a2)))
  have f13 : Fld Z h7 a2 "java/lang/String" "value" "[B" (.ref t2) := (VA2.other W7 (Or.inl (Ne.symm ne_x_a2)))
  have f14 : Arv Z h7 t2 kb2 .byte (0 : Int32) [] (.int (0 : Int32)) := (KA2.other W7 (Ne.symm ne_x_t2))
  have hk := Nat.le_trans hk (Keep.of_wr W7).1
  have N7 := Fr.snoc X7 N0 g_x
  have O7 := O2.wr W7 g_x
  have K7 := K2.wr W7 (Or.inl (List.mem_of_getElem? (i := 0) rfl))
  refine own_goW st7 ?_
  show own_GoesW _ _ _ _ _ _ _ (T7.setTop (mkF m 17 #[.val (.ref x), .val (.ref b), .val (.int (0 : Int32)), .val (.int (0 : Int32)), .val .null, .unset] []))
  refine own_goW (fun _ ww => XS.aloadN X7.here hx rfl (hb hby d4_17) rfl rfl ww) ?_
  show own_GoesW _ _ _ _ _ _ _ (T7.setTop (mkF m 18 #[.val (.ref x), .val (.ref b), .val (.int (0 : Int32)), .val (.int (0 : Int32)), .val .null, .unset] [(.ref x)]))
  refine own_goW (fun _ ww => ldcAgain X7 hx hZ hown (hw _ (List.mem_of_getElem? (i := 26) rfl)) hL2 (g := (mkF m 18 #[.val (.ref x), .val (.ref b), .val (.int (0 : Int32)), .val (.int (0 : Int32)), .val .null, .unset] [(.ref x)])) rfl (hb hby d4_18) _ ww) ?_
  show own_GoesW _ _ _ _ _ _ _ (T7.setTop (mkF m 20 #[.val (.ref x), .val (.ref b), .val (.int (0 : Int32)), .val (.int (0 : Int32)), .val .null, .unset] [(.ref a2), (.ref x)]))
  obtain ⟨T16, X16, e16, st16⟩ := getF X7 hx hZ hown (host := "") (Or.inl (hw _ (List.mem_of_getElem? (i := 33) rfl))) Via.refl e7 f12 (g := (mkF m 20 #[.val (.ref x), .val (.ref b), .val (.int (0 : Int32)), .val (.int (0 : Int32)), .val .null, .unset] [(.ref a2), (.ref x)])) rfl rfl (hb hby d4_20)
  refine own_goW st16 ?_
  show own_GoesW _ _ _ _ _ _ _ (T16.setTop (mkF m 23 #[.val (.ref x), .val (.ref b), .val (.int (0 : Int32)), .val (.int (0 : Int32)), .val .null, .unset] [(.int (0 : Int32)), (.ref x)]))
  obtain ⟨T17, h17, X17, e17, W17, st17⟩ := putFN X16 hx hZ hown (hw _ (List.mem_of_getElem? (i := 33) rfl)) Via.refl e16 f9 f10 (Or.inr ⟨(hw _ (List.mem_of_getElem? (i := 29) rfl)), rfl, hnm⟩) (hw _ (List.mem_of_getElem? (i := 14) rfl)) (ty := .byte) (v' := (.int (0 : Int32))) (by decide) (by decide) rfl (g := (mkF m 23 #[.val (.ref x), .val (.ref b), .val (.int (0 : Int32)), .val (.int (0 : Int32)), .val .null, .unset] [(.int (0 : Int32)), (.ref x)])) rfl rfl (hb hby d4_23)
  have f18 : Fld Z h17 x "java/lang/String" "value" "[B" (.ref t2) := (f8.other W17 (Or.inr (slot_ne (Or.inr (hw _ (List.mem_of_getElem? (i := 28) rfl))) (Or.inr (hw _ (List.mem_of_getElem? (i := 29) rfl))) (by decide) (t := (.array .byte)) (t' := .byte) (by decide) (by decide))))
  have f19 : Fld Z h17 x "java/lang/String" "coder" "B" (.int (0 : Int32)) := (f9.same W17)
  have f20 : Exa Z h17 x "java/lang/String" := (f10.wr W17)
  have f21 : Exa Z h17 a2 "java/lang/String" := (f11.wr W17)
  have f22 : Fld Z h17 a2 "java/lang/String" "coder" "B" (.int (0 : Int32)) := (f12.other W17 (Or.inl (Ne.symm ne_x_a2)))
  have f23 : Fld Z h17 a2 "java/lang/String" "value" "[B" (.ref t2) := (f13.other W17 (Or.inl (Ne.symm ne_x_a2)))
  have f24 : Arv Z h17 t2 kb2 .byte (0 : Int32) [] (.int (0 : Int32)) := (f14.other W17 (Ne.symm ne_x_t2))
  have hk := Nat.le_trans hk (Keep.of_wr W17).1
  have N17 := Fr.snoc X17 N7 g_x
  have O17 := O7.wr W17 g_x
  have K17 := K7.wr W17 (Or.inl (List.mem_of_getElem? (i := 0) rfl))
  refine own_goW st17 ?_
  show own_GoesW _ _ _ _ _ _ _ (T17.setTop (mkF m 26 #[.val (.ref x), .val (.ref b), .val (.int (0 : Int32)), .val (.int (0 : Int32)), .val .null, .unset] []))
  exact own_outW X17 hS hk hlk (v := none) (fun _ => rfl) (fun fs hr => X17.returnOut hx hret (hb hby d4_26) hr) e17 ⟨rfl, N17, K17, f19, t2, kb2, a2, f18, f24, ne_x_t2, own_IBw X17.warmed hI, (fun b => own_Litv (own_Litw X17.warmed hL2)), f22, f23, f21, ne_x_a2⟩ (by decide) (by decide)
theorem d3_0 : decode jdk_42_method_3_code 0 = .ok (.aload_n 0, 1) := by decide +kernel
theorem d3_1 : decode jdk_42_method_3_code 1 = .ok (.aload_n 1, 1) := by decide +kernel
theorem d3_2 : decode jdk_42_method_3_code 2 = .ok (.iconst 0, 1) := by decide +kernel
theorem d3_3 : decode jdk_42_method_3_code 3 = .ok (.aload_n 1, 1) := by decide +kernel
theorem d3_4 : decode jdk_42_method_3_code 4 = .ok (.arraylength, 1) := by decide +kernel
theorem d3_5 : decode jdk_42_method_3_code 5 = .ok (.aconst_null, 1) := by decide +kernel
theorem d3_6 : decode jdk_42_method_3_code 6 = .ok (.invokespecial 27, 3) := by decide +kernel
theorem d3_9 : decode jdk_42_method_3_code 9 = .ok (.return_, 1) := by decide +kernel
theorem ef_e1 (m : MethodId) (x : Addr) (b : Addr) (kc : ClassId) : entryFrame m #[(.ref x), (.ref b)] 2 = mkF m 0 #[.val (.ref x), .val (.ref b)] [] := by
  first | (simp [entryFrame, mkF, argsToLocals, Value.category]; done) | rfl
def Q_e1 (Z : State) (x : Addr) (b : Addr) (kc : ClassId) (h0 : Heap) (n0 : Nat) (v : Option Value) (h : Heap) (vm : Vm) (L : List Loc) : Prop := v = none ∧ Fr n0 L ∧ Keep h0 h [x] ∧ Fld Z h x "java/lang/String" "coder" "B" (.int (0 : Int32)) ∧ ∃ (t : Addr) (kb : ClassId) (le : Addr), Fld Z h x "java/lang/String" "value" "[B" (.ref t) ∧ Arv Z h t kb .byte (0 : Int32) [] (.int (0 : Int32)) ∧ x ≠ t ∧ IB Z vm [""] ∧ (∀ b : State, Lit (b.setVm vm) "java/lang/String" 7 le) ∧ Fld Z h le "java/lang/String" "coder" "B" (.int (0 : Int32)) ∧ Fld Z h le "java/lang/String" "value" "[B" (.ref t) ∧ Exa Z h le "java/lang/String" ∧ x ≠ le
set_option maxRecDepth 65536 in
set_option maxHeartbeats 40000000 in
theorem rm_e1 (l : Launch) (Z : State) (a0 : Array Value) (hw : ∀ d ∈ tables_1, d.before a0 Z = true) (ws : List Jvm.Cond) (x : Addr) (b : Addr) (kc : ClassId) (h0 : Heap) (n0 : Nat) (O0 : Old Z n0 h0) (Fv : Fld Z h0 x "java/lang/String" "value" "[B" .null) (Fc : Fld Z h0 x "java/lang/String" "coder" "B" (.int (0 : Int32))) (Ex : Exa Z h0 x "java/lang/String") (g_x : n0 ≤ x) (Kb : Arv Z h0 b kc .char (0 : Int32) [] (.int (0 : Int32))) (hh7 : Jvm.Lit.constHeld Z "java/lang/String" 7) (hcw : Jvm.Lit.compactW.before a0 Z = true) :
    MetFree l (⟨"java/lang/String", "<init>", "([C)V"⟩ : MethodName) (head1 (Jvm.Cond.code (⟨"java/lang/String", "<init>", "([C)V"⟩ : MethodName) jdk_42_method_3_code 2 none :: ws) ({ frames := 2, cells := 2, slots := 4, locals := 29 } : Room)) (fun av_ U => av_ = #[(.ref x), (.ref b)] ∧ Z.Warmed39 U.vm ∧ U.heap = h0 ∧ (fun vm_ : Vm => IB Z vm_ []) U.vm) (fun _ _ _ _ _ => True) (fun _ U o_ U' => ∃ v L, o_ = .returned v ∧ Q_e1 Z x b kc h0 n0 v U'.heap U'.vm L ∧ ReturnedEndW U o_ U' L ({ frames := 2, cells := 2, slots := 4, locals := 29 } : Room).cells ({ frames := 2, cells := 2, slots := 4, locals := 29 } : Room).slots) := by
  refine MetFree.of_bodySF (plainFor_of_name pn_0) hisR ?_
  intro p e s m args below meth c s₁ Bd hml0 hP hK
  obtain ⟨rfl, hZ, hh, hVI⟩ := hP
  have hZ : Z.Warmed39 (s.setVm s.vm).vm := hZ
  have hx := Bd.exec
  have hby := Bd.bytes
  have hml : c.maxLocals = 2 := hml0
  have hown : (s.setVm s.vm).vm.findClass "java/lang/String" = some m.cls := findClass_of_methodNamed Bd.named
  have hnm := (name_of_methodNamed Bd.named Bd.method).1
  have hlk := own_lk Bd
  have hret := Bd.returns
  have X0 : Stand p l e ({ frames := 2, cells := 2, slots := 4, locals := 29 } : Room) (s.setVm s.vm) m #[(.ref x), (.ref b)] below meth c s₁ [] 0 0 := Stand.of_body Bd
  have e0 : s₁.heap = h0 := by rw [← hh, Bd.state]; rfl
  have N0 := Fr.nil n0
  have hS : s.Since s.vm h0.size := (State.WarmedH.refl s).since _
  have hk : h0.size ≤ h0.size := Nat.le_refl _
  show own_GoesW p e below s (Q_e1 Z x b kc h0 n0) ({ frames := 2, cells := 2, slots := 4, locals := 29 } : Room).cells ({ frames := 2, cells := 2, slots := 4, locals := 29 } : Room).slots (s₁.setTop (entryFrame m #[(.ref x), (.ref b)] 2))
  refine own_goW (fun _ ww => castTop (ef_e1 m x b kc) ww) ?_
  have hI : IB Z s.vm [] := hVI
  show own_GoesW _ _ _ _ _ _ _ (s₁.setTop (mkF m 0 #[.val (.ref x), .val (.ref b)] []))
  refine own_goW (fun _ ww => XS.aloadN X0.here hx rfl (hb hby d3_0) rfl rfl ww) ?_
  show own_GoesW _ _ _ _ _ _ _ (s₁.setTop (mkF m 1 #[.val (.ref x), .val (.ref b)] [(.ref x)]))
  refine own_goW (fun _ ww => XS.aloadN X0.here hx rfl (hb hby d3_1) rfl rfl ww) ?_
  show own_GoesW _ _ _ _ _ _ _ (s₁.setTop (mkF m 2 #[.val (.ref x), .val (.ref b)] [(.ref b), (.ref x)]))
  refine own_goW (fun _ ww => XS.iconst X0.here hx rfl (hb hby d3_2) ww) ?_
  show own_GoesW _ _ _ _ _ _ _ (s₁.setTop (mkF m 3 #[.val (.ref x), .val (.ref b)] [(.int (0 : Int32)), (.ref b), (.ref x)]))
  refine own_goW (fun _ ww => XS.aloadN X0.here hx rfl (hb hby d3_3) rfl rfl ww) ?_
  show own_GoesW _ _ _ _ _ _ _ (s₁.setTop (mkF m 4 #[.val (.ref x), .val (.ref b)] [(.ref b), (.int (0 : Int32)), (.ref b), (.ref x)]))
  obtain ⟨cl25, Ar25, -, S25, Ng25, -, -⟩ := id Kb
  refine own_goW (fun _ ww => X0.arraylength hx (by rw [e0]; exact Ar25.1) (State.isArrayOf_alike hZ.alike Ar25.2.1) (g := (mkF m 4 #[.val (.ref x), .val (.ref b)] [(.ref b), (.int (0 : Int32)), (.ref b), (.ref x)])) rfl rfl (hb hby d3_4) _ ww) ?_
  rw [len_of S25 Ng25]
  show own_GoesW _ _ _ _ _ _ _ (s₁.setTop (mkF m 5 #[.val (.ref x), .val (.ref b)] [(.int (0 : Int32)), (.int (0 : Int32)), (.ref b), (.ref x)]))
  refine own_goW (fun _ ww => XS.aconstNull X0.here hx rfl (hb hby d3_5) ww) ?_
  show own_GoesW _ _ _ _ _ _ _ (s₁.setTop (mkF m 6 #[.val (.ref x), .val (.ref b)] [.null, (.int (0 : Int32)), (.int (0 : Int32)), (.ref b), (.ref x)]))
  obtain ⟨_, _, ⟨T26, L26, k26, n26⟩, -, X26, hS26, hg26, ⟨Lc26, hQ26, l26, y26, z26⟩, st26⟩ := X0.specialBackS hx (y := (⟨"java/lang/String", "<init>", "([CIILjava/lang/Void;)V"⟩ : MethodName)) rfl hown (mvT hZ (hw _ (List.mem_of_getElem? (i := 19) rfl))) (mvT hZ (hw _ (List.mem_of_getElem? (i := 20) rfl))) (mvT hZ (hw _ (List.mem_of_getElem? (i := 22) rfl))) (by decide) (own_backV (W := 0) (rm_e4 l Z a0 hw [] x b h0 n0 O0 Fv Fc Ex g_x hh7 hcw) hZ (fun _ q => own_IBw q hI) (hw _ (List.mem_of_getElem? (i := 22) rfl)) (hw _ (List.mem_of_getElem? (i := 15) rfl)) (by decide) (by decide)) (g := (mkF m 6 #[.val (.ref x), .val (.ref b)] [.null, (.int (0 : Int32)), (.int (0 : Int32)), (.ref b), (.ref x)])) rfl (by rw [hml]; rfl) (Steps.refl _) (a := x) (argsL := [(.ref b), (.int (0 : Int32)), (.int (0 : Int32)), .null]) (rest := []) (lenOf pd_0 rfl) rfl (by show 2 * 0 + _ ≤ _; exact Nat.le_of_eq rfl) (hb hby d3_6) (fun _ _ => ⟨rfl, e0, (by decide : 0 + 2 ≤ _), (by decide : 0 + 4 ≤ _)⟩)
  dsimp only [Pt.U, Pt.locs, Pt.cells, Pt.slots] at X26 l26 y26 z26 st26 hQ26 hS26 hg26
  subst l26 y26 z26
  obtain ⟨X26, hS, hZ, hown⟩ := rebS hS (show _ ≤ s₁.heap.size from (by rw [e0]; exact hk)) X26 hS26 hg26 hZ hown
  obtain ⟨rfl, N26q, K26q, C26q, t26, kb26, le26, V26q, A26q, nt26, I26q, L26q, LC26q, LV26q, LE26q, nl26⟩ := hQ26
  have N26 := Fr.app N0 N26q
  have hk : T26.heap.size ≤ T26.heap.size := Nat.le_refl _
  have f27 : Exa Z T26.heap x "java/lang/String" := (Ex.keep K26q)
  have f28 : Arv Z T26.heap b kc .char (0 : Int32) [] (.int (0 : Int32)) := (Kb.keep K26q (ninS (Ne.symm (Exa.neArv Ex Kb (hw _ (List.mem_of_getElem? (i := 14) rfl)))) nin0))
  have O26 := O0.keep K26q (allS g_x all0)
  have K26 := (Keep.refl h0 [x]).trans K26q (allS (Or.inl (List.mem_of_getElem? (i := 0) rfl)) all0)
  refine own_goW (fun _ ww => Steps.trans st26 ww) ?_
  show own_GoesW _ _ _ _ _ _ _ (T26.setTop (mkF m 9 #[.val (.ref x), .val (.ref b)] []))
  exact own_outW X26 hS hk hlk (v := none) (fun _ => rfl) (fun fs hr => X26.returnOut hx hret (hb hby d3_9) hr) rfl ⟨rfl, N26, K26, C26q, t26, kb26, le26, V26q, A26q, nt26, (own_IBw X26.warmed I26q), (fun b => own_Litv (own_Litw (b := b) X26.warmed (L26q _))), LC26q, LV26q, LE26q, nl26⟩ (by decide) (by decide)
theorem d1_0 : decode method_3_code 0 = .ok (.lload_n 0, 1) := by decide +kernel
theorem d1_1 : decode method_3_code 1 = .ok (.bipush 8, 2) := by decide +kernel
theorem d1_3 : decode method_3_code 3 = .ok (.iload_n 2, 1) := by decide +kernel
theorem d1_4 : decode method_3_code 4 = .ok (.imul, 1) := by decide +kernel
theorem d1_5 : decode method_3_code 5 = .ok (.lushr, 1) := by decide +kernel
theorem d1_6 : decode method_3_code 6 = .ok (.ldc2_w 56, 3) := by decide +kernel
theorem d1_9 : decode method_3_code 9 = .ok (.land, 1) := by decide +kernel
theorem d1_10 : decode method_3_code 10 = .ok (.l2i, 1) := by decide +kernel
theorem d1_11 : decode method_3_code 11 = .ok (.i2c, 1) := by decide +kernel
theorem d1_12 : decode method_3_code 12 = .ok (.ireturn, 1) := by decide +kernel
theorem ef_ch (m : MethodId) (y : Int64) (j : Int32) : entryFrame m #[(.long y), (.int j)] 3 = mkF m 0 #[.val (.long y), .second, .val (.int j)] [] := by
  first | (simp [entryFrame, mkF, argsToLocals, Value.category]; done) | rfl
def Q_ch (Z : State) (y : Int64) (j : Int32) (h0 : Heap) (n0 : Nat) (v : Option Value) (h : Heap) (L : List Loc) : Prop := ∃ r : Int32, v = some (.int r) ∧ Fr n0 L ∧ h = h0 ∧ (¬ r < 0 ∧ ¬ (255 : Int32) < r)
set_option maxRecDepth 65536 in
set_option maxHeartbeats 40000000 in
theorem rm_ch (l : Launch) (Z : State) (a0 : Array Value) (hw : ∀ d ∈ tables_1, d.before a0 Z = true) (ws : List Jvm.Cond) (y : Int64) (j : Int32) (h0 : Heap) (n0 : Nat) (O0 : Old Z n0 h0) :
    MetFree l (⟨"com/example/izin/izin/AttributeDefaultFlagPinLaw", "ch", "(JI)C"⟩ : MethodName) (head1 (Jvm.Cond.code (⟨"com/example/izin/izin/AttributeDefaultFlagPinLaw", "ch", "(JI)C"⟩ : MethodName) method_3_code 3 (some .char) :: ws) ({ frames := 0, cells := 0, slots := 0, locals := 0 } : Room)) (fun av_ U => av_ = #[(.long y), (.int j)] ∧ Z.Warmed39 U.vm ∧ U.heap = h0) (fun _ _ _ _ _ => True) (fun _ U o_ U' => ∃ v L, o_ = .returned v ∧ Q_ch Z y j h0 n0 v U'.heap L ∧ FrameEnd U o_ U' L ({ frames := 0, cells := 0, slots := 0, locals := 0 } : Room).cells ({ frames := 0, cells := 0, slots := 0, locals := 0 } : Room).slots) := by
  refine MetFree.of_bodySF (plainFor_of_name pn_1) hisR ?_
  intro p e s m args below meth c s₁ Bd hml0 hP hK
  obtain ⟨rfl, hZ, hh⟩ := hP
  have hx := Bd.exec
  have hby := Bd.bytes
  have hml : c.maxLocals = 3 := hml0
  have hown : s.vm.findClass "com/example/izin/izin/AttributeDefaultFlagPinLaw" = some m.cls := findClass_of_methodNamed Bd.named
  have hnm := (name_of_methodNamed Bd.named Bd.method).1
  have hlk := own_lk Bd
  have hret := Bd.returns
  have X0 : Stand p l e ({ frames := 0, cells := 0, slots := 0, locals := 0 } : Room) s m #[(.long y), (.int j)] below meth c s₁ [] 0 0 := Stand.of_body Bd
  have e0 : s₁.heap = h0 := by rw [← hh, Bd.state]; rfl
  have N0 := Fr.nil n0
  show own_Goes p e below s (Q_ch Z y j h0 n0) ({ frames := 0, cells := 0, slots := 0, locals := 0 } : Room).cells ({ frames := 0, cells := 0, slots := 0, locals := 0 } : Room).slots (s₁.setTop (entryFrame m #[(.long y), (.int j)] 3))
  refine own_go (fun _ ww => castTop (ef_ch m y j) ww) ?_
  show own_Goes _ _ _ _ _ _ _ (s₁.setTop (mkF m 0 #[.val (.long y), .second, .val (.int j)] []))
  refine own_go (fun _ ww => XT.lloadN X0.here hx rfl (hb hby d1_0) rfl  ww) ?_
  show own_Goes _ _ _ _ _ _ _ (s₁.setTop (mkF m 1 #[.val (.long y), .second, .val (.int j)] [(.long y)]))
  refine own_go (fun _ ww => XS.bipush X0.here hx rfl (hb hby d1_1) ww) ?_
  show own_Goes _ _ _ _ _ _ _ (s₁.setTop (mkF m 3 #[.val (.long y), .second, .val (.int j)] [(.int (8 : Int32)), (.long y)]))
  refine own_go (fun _ ww => XS.iloadN X0.here hx rfl (hb hby d1_3) rfl  ww) ?_
  show own_Goes _ _ _ _ _ _ _ (s₁.setTop (mkF m 4 #[.val (.long y), .second, .val (.int j)] [(.int j), (.int (8 : Int32)), (.long y)]))
  refine own_go (fun _ ww => XS.imul X0.here hx rfl (hb hby d1_4) rfl ww) ?_
  show own_Goes _ _ _ _ _ _ _ (s₁.setTop (mkF m 5 #[.val (.long y), .second, .val (.int j)] [(.int ((8 : Int32) * j)), (.long y)]))
  refine own_go (fun _ ww => XT.lushr X0.here hx rfl (hb hby d1_5) rfl ww) ?_
  show own_Goes _ _ _ _ _ _ _ (s₁.setTop (mkF m 6 #[.val (.long y), .second, .val (.int j)] [(.long (XT.ushrL y ((8 : Int32) * j)))]))
  refine own_go (fun _ ww => X0.ldc2J hx hown (mvT hZ (hw _ (List.mem_of_getElem? (i := 9) rfl))) rfl (hb hby d1_6) ww) ?_
  show own_Goes _ _ _ _ _ _ _ (s₁.setTop (mkF m 9 #[.val (.long y), .second, .val (.int j)] [(.long (255 : Int64)), (.long (XT.ushrL y ((8 : Int32) * j)))]))
  refine own_go (fun _ ww => XT.land X0.here hx rfl (hb hby d1_9) rfl ww) ?_
  show own_Goes _ _ _ _ _ _ _ (s₁.setTop (mkF m 10 #[.val (.long y), .second, .val (.int j)] [(.long ((XT.ushrL y ((8 : Int32) * j)) &&& (255 : Int64)))]))
  refine own_go (fun _ ww => XT.l2i X0.here hx rfl (hb hby d1_10) rfl ww) ?_
  show own_Goes _ _ _ _ _ _ _ (s₁.setTop (mkF m 11 #[.val (.long y), .second, .val (.int j)] [(.int (((XT.ushrL y ((8 : Int32) * j)) &&& (255 : Int64)).toInt32))]))
  refine own_go (fun _ ww => XT.i2c X0.here hx rfl (hb hby d1_11) rfl ww) ?_
  show own_Goes _ _ _ _ _ _ _ (s₁.setTop (mkF m 12 #[.val (.long y), .second, .val (.int j)] [(.int ((((XT.ushrL y ((8 : Int32) * j)) &&& (255 : Int64)).toInt32).toUInt32.toUInt16.toUInt32.toInt32))]))
  exact own_out X0 hlk (v := some (.int ((((XT.ushrL y ((8 : Int32) * j)) &&& (255 : Int64)).toInt32).toUInt32.toUInt16.toUInt32.toInt32))) (fun h => by rw [hret] at h; cases h) (fun fs hr => retOut X0 hx (t := .char) hret (XT.narrow_c _) (Or.inl ⟨rfl, by simp, _, rfl⟩) (hb hby d1_12) hr) e0 ⟨_, rfl, N0, rfl, own_chl _⟩ (by decide) (by decide)
theorem d2_0 : decode method_4_code 0 = .ok (.iload_n 1, 1) := by decide +kernel
theorem d2_1 : decode method_4_code 1 = .ok (.ifCond .ne 14, 3) := by decide +kernel
theorem d2_4 : decode method_4_code 4 = .ok (.new 43, 3) := by decide +kernel
theorem d2_7 : decode method_4_code 7 = .ok (.dup, 1) := by decide +kernel
theorem d2_8 : decode method_4_code 8 = .ok (.iconst 0, 1) := by decide +kernel
theorem d2_9 : decode method_4_code 9 = .ok (.newarray .char, 2) := by decide +kernel
theorem d2_11 : decode method_4_code 11 = .ok (.invokespecial 58, 3) := by decide +kernel
theorem d2_14 : decode method_4_code 14 = .ok (.areturn, 1) := by decide +kernel
theorem d2_15 : decode method_4_code 15 = .ok (.iload_n 1, 1) := by decide +kernel
theorem d2_16 : decode method_4_code 16 = .ok (.iconst 1, 1) := by decide +kernel
theorem d2_17 : decode method_4_code 17 = .ok (.if_icmp .ne 20, 3) := by decide +kernel
theorem d2_20 : decode method_4_code 20 = .ok (.new 43, 3) := by decide +kernel
theorem d2_23 : decode method_4_code 23 = .ok (.dup, 1) := by decide +kernel
theorem d2_24 : decode method_4_code 24 = .ok (.iconst 1, 1) := by decide +kernel
theorem d2_25 : decode method_4_code 25 = .ok (.newarray .char, 2) := by decide +kernel
theorem d2_27 : decode method_4_code 27 = .ok (.dup, 1) := by decide +kernel
theorem d2_28 : decode method_4_code 28 = .ok (.iconst 0, 1) := by decide +kernel
theorem d2_29 : decode method_4_code 29 = .ok (.aload_n 0, 1) := by decide +kernel
theorem d2_30 : decode method_4_code 30 = .ok (.iconst 0, 1) := by decide +kernel
theorem d2_31 : decode method_4_code 31 = .ok (.caload, 1) := by decide +kernel
theorem d2_32 : decode method_4_code 32 = .ok (.castore, 1) := by decide +kernel
theorem d2_33 : decode method_4_code 33 = .ok (.invokespecial 58, 3) := by decide +kernel
theorem d2_36 : decode method_4_code 36 = .ok (.areturn, 1) := by decide +kernel
theorem d2_37 : decode method_4_code 37 = .ok (.iload_n 1, 1) := by decide +kernel
theorem d2_38 : decode method_4_code 38 = .ok (.iconst 2, 1) := by decide +kernel
theorem d2_39 : decode method_4_code 39 = .ok (.if_icmp .ne 26, 3) := by decide +kernel
theorem d2_42 : decode method_4_code 42 = .ok (.new 43, 3) := by decide +kernel
theorem d2_45 : decode method_4_code 45 = .ok (.dup, 1) := by decide +kernel
theorem d2_46 : decode method_4_code 46 = .ok (.iconst 2, 1) := by decide +kernel
theorem d2_47 : decode method_4_code 47 = .ok (.newarray .char, 2) := by decide +kernel
theorem d2_49 : decode method_4_code 49 = .ok (.dup, 1) := by decide +kernel
theorem d2_50 : decode method_4_code 50 = .ok (.iconst 0, 1) := by decide +kernel
theorem d2_51 : decode method_4_code 51 = .ok (.aload_n 0, 1) := by decide +kernel
theorem d2_52 : decode method_4_code 52 = .ok (.iconst 0, 1) := by decide +kernel
theorem d2_53 : decode method_4_code 53 = .ok (.caload, 1) := by decide +kernel
theorem d2_54 : decode method_4_code 54 = .ok (.castore, 1) := by decide +kernel
theorem d2_55 : decode method_4_code 55 = .ok (.dup, 1) := by decide +kernel
theorem d2_56 : decode method_4_code 56 = .ok (.iconst 1, 1) := by decide +kernel
theorem d2_57 : decode method_4_code 57 = .ok (.aload_n 0, 1) := by decide +kernel
theorem d2_58 : decode method_4_code 58 = .ok (.iconst 1, 1) := by decide +kernel
theorem d2_59 : decode method_4_code 59 = .ok (.caload, 1) := by decide +kernel
theorem d2_60 : decode method_4_code 60 = .ok (.castore, 1) := by decide +kernel
theorem d2_61 : decode method_4_code 61 = .ok (.invokespecial 58, 3) := by decide +kernel
theorem d2_64 : decode method_4_code 64 = .ok (.areturn, 1) := by decide +kernel
theorem d2_65 : decode method_4_code 65 = .ok (.iload_n 1, 1) := by decide +kernel
theorem d2_66 : decode method_4_code 66 = .ok (.iconst 3, 1) := by decide +kernel
theorem d2_67 : decode method_4_code 67 = .ok (.if_icmp .ne 32, 3) := by decide +kernel
theorem d2_70 : decode method_4_code 70 = .ok (.new 43, 3) := by decide +kernel
theorem d2_73 : decode method_4_code 73 = .ok (.dup, 1) := by decide +kernel
theorem d2_74 : decode method_4_code 74 = .ok (.iconst 3, 1) := by decide +kernel
theorem d2_75 : decode method_4_code 75 = .ok (.newarray .char, 2) := by decide +kernel
theorem d2_77 : decode method_4_code 77 = .ok (.dup, 1) := by decide +kernel
theorem d2_78 : decode method_4_code 78 = .ok (.iconst 0, 1) := by decide +kernel
theorem d2_79 : decode method_4_code 79 = .ok (.aload_n 0, 1) := by decide +kernel
theorem d2_80 : decode method_4_code 80 = .ok (.iconst 0, 1) := by decide +kernel
theorem d2_81 : decode method_4_code 81 = .ok (.caload, 1) := by decide +kernel
theorem d2_82 : decode method_4_code 82 = .ok (.castore, 1) := by decide +kernel
theorem d2_83 : decode method_4_code 83 = .ok (.dup, 1) := by decide +kernel
theorem d2_84 : decode method_4_code 84 = .ok (.iconst 1, 1) := by decide +kernel
theorem d2_85 : decode method_4_code 85 = .ok (.aload_n 0, 1) := by decide +kernel
theorem d2_86 : decode method_4_code 86 = .ok (.iconst 1, 1) := by decide +kernel
theorem d2_87 : decode method_4_code 87 = .ok (.caload, 1) := by decide +kernel
theorem d2_88 : decode method_4_code 88 = .ok (.castore, 1) := by decide +kernel
theorem d2_89 : decode method_4_code 89 = .ok (.dup, 1) := by decide +kernel
theorem d2_90 : decode method_4_code 90 = .ok (.iconst 2, 1) := by decide +kernel
theorem d2_91 : decode method_4_code 91 = .ok (.aload_n 0, 1) := by decide +kernel
theorem d2_92 : decode method_4_code 92 = .ok (.iconst 2, 1) := by decide +kernel
theorem d2_93 : decode method_4_code 93 = .ok (.caload, 1) := by decide +kernel
theorem d2_94 : decode method_4_code 94 = .ok (.castore, 1) := by decide +kernel
theorem d2_95 : decode method_4_code 95 = .ok (.invokespecial 58, 3) := by decide +kernel
theorem d2_98 : decode method_4_code 98 = .ok (.areturn, 1) := by decide +kernel
theorem d2_99 : decode method_4_code 99 = .ok (.iload_n 1, 1) := by decide +kernel
theorem d2_100 : decode method_4_code 100 = .ok (.iconst 4, 1) := by decide +kernel
theorem d2_101 : decode method_4_code 101 = .ok (.if_icmp .ne 38, 3) := by decide +kernel
theorem d2_104 : decode method_4_code 104 = .ok (.new 43, 3) := by decide +kernel
theorem d2_107 : decode method_4_code 107 = .ok (.dup, 1) := by decide +kernel
theorem d2_108 : decode method_4_code 108 = .ok (.iconst 4, 1) := by decide +kernel
theorem d2_109 : decode method_4_code 109 = .ok (.newarray .char, 2) := by decide +kernel
theorem d2_111 : decode method_4_code 111 = .ok (.dup, 1) := by decide +kernel
theorem d2_112 : decode method_4_code 112 = .ok (.iconst 0, 1) := by decide +kernel
theorem d2_113 : decode method_4_code 113 = .ok (.aload_n 0, 1) := by decide +kernel
theorem d2_114 : decode method_4_code 114 = .ok (.iconst 0, 1) := by decide +kernel
theorem d2_115 : decode method_4_code 115 = .ok (.caload, 1) := by decide +kernel
theorem d2_116 : decode method_4_code 116 = .ok (.castore, 1) := by decide +kernel
theorem d2_117 : decode method_4_code 117 = .ok (.dup, 1) := by decide +kernel
theorem d2_118 : decode method_4_code 118 = .ok (.iconst 1, 1) := by decide +kernel
theorem d2_119 : decode method_4_code 119 = .ok (.aload_n 0, 1) := by decide +kernel
theorem d2_120 : decode method_4_code 120 = .ok (.iconst 1, 1) := by decide +kernel
theorem d2_121 : decode method_4_code 121 = .ok (.caload, 1) := by decide +kernel
theorem d2_122 : decode method_4_code 122 = .ok (.castore, 1) := by decide +kernel
theorem d2_123 : decode method_4_code 123 = .ok (.dup, 1) := by decide +kernel
theorem d2_124 : decode method_4_code 124 = .ok (.iconst 2, 1) := by decide +kernel
theorem d2_125 : decode method_4_code 125 = .ok (.aload_n 0, 1) := by decide +kernel
theorem d2_126 : decode method_4_code 126 = .ok (.iconst 2, 1) := by decide +kernel
theorem d2_127 : decode method_4_code 127 = .ok (.caload, 1) := by decide +kernel
theorem d2_128 : decode method_4_code 128 = .ok (.castore, 1) := by decide +kernel
theorem d2_129 : decode method_4_code 129 = .ok (.dup, 1) := by decide +kernel
theorem d2_130 : decode method_4_code 130 = .ok (.iconst 3, 1) := by decide +kernel
theorem d2_131 : decode method_4_code 131 = .ok (.aload_n 0, 1) := by decide +kernel
theorem d2_132 : decode method_4_code 132 = .ok (.iconst 3, 1) := by decide +kernel
theorem d2_133 : decode method_4_code 133 = .ok (.caload, 1) := by decide +kernel
theorem d2_134 : decode method_4_code 134 = .ok (.castore, 1) := by decide +kernel
theorem d2_135 : decode method_4_code 135 = .ok (.invokespecial 58, 3) := by decide +kernel
theorem d2_138 : decode method_4_code 138 = .ok (.areturn, 1) := by decide +kernel
theorem d2_139 : decode method_4_code 139 = .ok (.iload_n 1, 1) := by decide +kernel
theorem d2_140 : decode method_4_code 140 = .ok (.iconst 5, 1) := by decide +kernel
theorem d2_141 : decode method_4_code 141 = .ok (.if_icmp .ne 44, 3) := by decide +kernel
theorem d2_144 : decode method_4_code 144 = .ok (.new 43, 3) := by decide +kernel
theorem d2_147 : decode method_4_code 147 = .ok (.dup, 1) := by decide +kernel
theorem d2_148 : decode method_4_code 148 = .ok (.iconst 5, 1) := by decide +kernel
theorem d2_149 : decode method_4_code 149 = .ok (.newarray .char, 2) := by decide +kernel
theorem d2_151 : decode method_4_code 151 = .ok (.dup, 1) := by decide +kernel
theorem d2_152 : decode method_4_code 152 = .ok (.iconst 0, 1) := by decide +kernel
theorem d2_153 : decode method_4_code 153 = .ok (.aload_n 0, 1) := by decide +kernel
theorem d2_154 : decode method_4_code 154 = .ok (.iconst 0, 1) := by decide +kernel
theorem d2_155 : decode method_4_code 155 = .ok (.caload, 1) := by decide +kernel
theorem d2_156 : decode method_4_code 156 = .ok (.castore, 1) := by decide +kernel
theorem d2_157 : decode method_4_code 157 = .ok (.dup, 1) := by decide +kernel
theorem d2_158 : decode method_4_code 158 = .ok (.iconst 1, 1) := by decide +kernel
theorem d2_159 : decode method_4_code 159 = .ok (.aload_n 0, 1) := by decide +kernel
theorem d2_160 : decode method_4_code 160 = .ok (.iconst 1, 1) := by decide +kernel
theorem d2_161 : decode method_4_code 161 = .ok (.caload, 1) := by decide +kernel
theorem d2_162 : decode method_4_code 162 = .ok (.castore, 1) := by decide +kernel
theorem d2_163 : decode method_4_code 163 = .ok (.dup, 1) := by decide +kernel
theorem d2_164 : decode method_4_code 164 = .ok (.iconst 2, 1) := by decide +kernel
theorem d2_165 : decode method_4_code 165 = .ok (.aload_n 0, 1) := by decide +kernel
theorem d2_166 : decode method_4_code 166 = .ok (.iconst 2, 1) := by decide +kernel
theorem d2_167 : decode method_4_code 167 = .ok (.caload, 1) := by decide +kernel
theorem d2_168 : decode method_4_code 168 = .ok (.castore, 1) := by decide +kernel
theorem d2_169 : decode method_4_code 169 = .ok (.dup, 1) := by decide +kernel
theorem d2_170 : decode method_4_code 170 = .ok (.iconst 3, 1) := by decide +kernel
theorem d2_171 : decode method_4_code 171 = .ok (.aload_n 0, 1) := by decide +kernel
theorem d2_172 : decode method_4_code 172 = .ok (.iconst 3, 1) := by decide +kernel
theorem d2_173 : decode method_4_code 173 = .ok (.caload, 1) := by decide +kernel
theorem d2_174 : decode method_4_code 174 = .ok (.castore, 1) := by decide +kernel
theorem d2_175 : decode method_4_code 175 = .ok (.dup, 1) := by decide +kernel
theorem d2_176 : decode method_4_code 176 = .ok (.iconst 4, 1) := by decide +kernel
theorem d2_177 : decode method_4_code 177 = .ok (.aload_n 0, 1) := by decide +kernel
theorem d2_178 : decode method_4_code 178 = .ok (.iconst 4, 1) := by decide +kernel
theorem d2_179 : decode method_4_code 179 = .ok (.caload, 1) := by decide +kernel
theorem d2_180 : decode method_4_code 180 = .ok (.castore, 1) := by decide +kernel
theorem d2_181 : decode method_4_code 181 = .ok (.invokespecial 58, 3) := by decide +kernel
theorem d2_184 : decode method_4_code 184 = .ok (.areturn, 1) := by decide +kernel
theorem d2_185 : decode method_4_code 185 = .ok (.iload_n 1, 1) := by decide +kernel
theorem d2_186 : decode method_4_code 186 = .ok (.bipush 6, 2) := by decide +kernel
theorem d2_188 : decode method_4_code 188 = .ok (.if_icmp .ne 51, 3) := by decide +kernel
theorem d2_191 : decode method_4_code 191 = .ok (.new 43, 3) := by decide +kernel
theorem d2_194 : decode method_4_code 194 = .ok (.dup, 1) := by decide +kernel
theorem d2_195 : decode method_4_code 195 = .ok (.bipush 6, 2) := by decide +kernel
theorem d2_197 : decode method_4_code 197 = .ok (.newarray .char, 2) := by decide +kernel
theorem d2_199 : decode method_4_code 199 = .ok (.dup, 1) := by decide +kernel
theorem d2_200 : decode method_4_code 200 = .ok (.iconst 0, 1) := by decide +kernel
theorem d2_201 : decode method_4_code 201 = .ok (.aload_n 0, 1) := by decide +kernel
theorem d2_202 : decode method_4_code 202 = .ok (.iconst 0, 1) := by decide +kernel
theorem d2_203 : decode method_4_code 203 = .ok (.caload, 1) := by decide +kernel
theorem d2_204 : decode method_4_code 204 = .ok (.castore, 1) := by decide +kernel
theorem d2_205 : decode method_4_code 205 = .ok (.dup, 1) := by decide +kernel
theorem d2_206 : decode method_4_code 206 = .ok (.iconst 1, 1) := by decide +kernel
theorem d2_207 : decode method_4_code 207 = .ok (.aload_n 0, 1) := by decide +kernel
theorem d2_208 : decode method_4_code 208 = .ok (.iconst 1, 1) := by decide +kernel
theorem d2_209 : decode method_4_code 209 = .ok (.caload, 1) := by decide +kernel
theorem d2_210 : decode method_4_code 210 = .ok (.castore, 1) := by decide +kernel
theorem d2_211 : decode method_4_code 211 = .ok (.dup, 1) := by decide +kernel
theorem d2_212 : decode method_4_code 212 = .ok (.iconst 2, 1) := by decide +kernel
theorem d2_213 : decode method_4_code 213 = .ok (.aload_n 0, 1) := by decide +kernel
theorem d2_214 : decode method_4_code 214 = .ok (.iconst 2, 1) := by decide +kernel
theorem d2_215 : decode method_4_code 215 = .ok (.caload, 1) := by decide +kernel
theorem d2_216 : decode method_4_code 216 = .ok (.castore, 1) := by decide +kernel
theorem d2_217 : decode method_4_code 217 = .ok (.dup, 1) := by decide +kernel
theorem d2_218 : decode method_4_code 218 = .ok (.iconst 3, 1) := by decide +kernel
theorem d2_219 : decode method_4_code 219 = .ok (.aload_n 0, 1) := by decide +kernel
theorem d2_220 : decode method_4_code 220 = .ok (.iconst 3, 1) := by decide +kernel
theorem d2_221 : decode method_4_code 221 = .ok (.caload, 1) := by decide +kernel
theorem d2_222 : decode method_4_code 222 = .ok (.castore, 1) := by decide +kernel
theorem d2_223 : decode method_4_code 223 = .ok (.dup, 1) := by decide +kernel
theorem d2_224 : decode method_4_code 224 = .ok (.iconst 4, 1) := by decide +kernel
theorem d2_225 : decode method_4_code 225 = .ok (.aload_n 0, 1) := by decide +kernel
theorem d2_226 : decode method_4_code 226 = .ok (.iconst 4, 1) := by decide +kernel
theorem d2_227 : decode method_4_code 227 = .ok (.caload, 1) := by decide +kernel
theorem d2_228 : decode method_4_code 228 = .ok (.castore, 1) := by decide +kernel
theorem d2_229 : decode method_4_code 229 = .ok (.dup, 1) := by decide +kernel
theorem d2_230 : decode method_4_code 230 = .ok (.iconst 5, 1) := by decide +kernel
theorem d2_231 : decode method_4_code 231 = .ok (.aload_n 0, 1) := by decide +kernel
theorem d2_232 : decode method_4_code 232 = .ok (.iconst 5, 1) := by decide +kernel
theorem d2_233 : decode method_4_code 233 = .ok (.caload, 1) := by decide +kernel
theorem d2_234 : decode method_4_code 234 = .ok (.castore, 1) := by decide +kernel
theorem d2_235 : decode method_4_code 235 = .ok (.invokespecial 58, 3) := by decide +kernel
theorem d2_238 : decode method_4_code 238 = .ok (.areturn, 1) := by decide +kernel
theorem d2_239 : decode method_4_code 239 = .ok (.iload_n 1, 1) := by decide +kernel
theorem d2_240 : decode method_4_code 240 = .ok (.bipush 7, 2) := by decide +kernel
theorem d2_242 : decode method_4_code 242 = .ok (.if_icmp .ne 59, 3) := by decide +kernel
theorem d2_245 : decode method_4_code 245 = .ok (.new 43, 3) := by decide +kernel
theorem d2_248 : decode method_4_code 248 = .ok (.dup, 1) := by decide +kernel
theorem d2_249 : decode method_4_code 249 = .ok (.bipush 7, 2) := by decide +kernel
theorem d2_251 : decode method_4_code 251 = .ok (.newarray .char, 2) := by decide +kernel
theorem d2_253 : decode method_4_code 253 = .ok (.dup, 1) := by decide +kernel
theorem d2_254 : decode method_4_code 254 = .ok (.iconst 0, 1) := by decide +kernel
theorem d2_255 : decode method_4_code 255 = .ok (.aload_n 0, 1) := by decide +kernel
theorem d2_256 : decode method_4_code 256 = .ok (.iconst 0, 1) := by decide +kernel
theorem d2_257 : decode method_4_code 257 = .ok (.caload, 1) := by decide +kernel
theorem d2_258 : decode method_4_code 258 = .ok (.castore, 1) := by decide +kernel
theorem d2_259 : decode method_4_code 259 = .ok (.dup, 1) := by decide +kernel
theorem d2_260 : decode method_4_code 260 = .ok (.iconst 1, 1) := by decide +kernel
theorem d2_261 : decode method_4_code 261 = .ok (.aload_n 0, 1) := by decide +kernel
theorem d2_262 : decode method_4_code 262 = .ok (.iconst 1, 1) := by decide +kernel
theorem d2_263 : decode method_4_code 263 = .ok (.caload, 1) := by decide +kernel
theorem d2_264 : decode method_4_code 264 = .ok (.castore, 1) := by decide +kernel
theorem d2_265 : decode method_4_code 265 = .ok (.dup, 1) := by decide +kernel
theorem d2_266 : decode method_4_code 266 = .ok (.iconst 2, 1) := by decide +kernel
theorem d2_267 : decode method_4_code 267 = .ok (.aload_n 0, 1) := by decide +kernel
theorem d2_268 : decode method_4_code 268 = .ok (.iconst 2, 1) := by decide +kernel
theorem d2_269 : decode method_4_code 269 = .ok (.caload, 1) := by decide +kernel
theorem d2_270 : decode method_4_code 270 = .ok (.castore, 1) := by decide +kernel
theorem d2_271 : decode method_4_code 271 = .ok (.dup, 1) := by decide +kernel
theorem d2_272 : decode method_4_code 272 = .ok (.iconst 3, 1) := by decide +kernel
theorem d2_273 : decode method_4_code 273 = .ok (.aload_n 0, 1) := by decide +kernel
theorem d2_274 : decode method_4_code 274 = .ok (.iconst 3, 1) := by decide +kernel
theorem d2_275 : decode method_4_code 275 = .ok (.caload, 1) := by decide +kernel
theorem d2_276 : decode method_4_code 276 = .ok (.castore, 1) := by decide +kernel
theorem d2_277 : decode method_4_code 277 = .ok (.dup, 1) := by decide +kernel
theorem d2_278 : decode method_4_code 278 = .ok (.iconst 4, 1) := by decide +kernel
theorem d2_279 : decode method_4_code 279 = .ok (.aload_n 0, 1) := by decide +kernel
theorem d2_280 : decode method_4_code 280 = .ok (.iconst 4, 1) := by decide +kernel
theorem d2_281 : decode method_4_code 281 = .ok (.caload, 1) := by decide +kernel
theorem d2_282 : decode method_4_code 282 = .ok (.castore, 1) := by decide +kernel
theorem d2_283 : decode method_4_code 283 = .ok (.dup, 1) := by decide +kernel
theorem d2_284 : decode method_4_code 284 = .ok (.iconst 5, 1) := by decide +kernel
theorem d2_285 : decode method_4_code 285 = .ok (.aload_n 0, 1) := by decide +kernel
theorem d2_286 : decode method_4_code 286 = .ok (.iconst 5, 1) := by decide +kernel
theorem d2_287 : decode method_4_code 287 = .ok (.caload, 1) := by decide +kernel
theorem d2_288 : decode method_4_code 288 = .ok (.castore, 1) := by decide +kernel
theorem d2_289 : decode method_4_code 289 = .ok (.dup, 1) := by decide +kernel
theorem d2_290 : decode method_4_code 290 = .ok (.bipush 6, 2) := by decide +kernel
theorem d2_292 : decode method_4_code 292 = .ok (.aload_n 0, 1) := by decide +kernel
theorem d2_293 : decode method_4_code 293 = .ok (.bipush 6, 2) := by decide +kernel
theorem d2_295 : decode method_4_code 295 = .ok (.caload, 1) := by decide +kernel
theorem d2_296 : decode method_4_code 296 = .ok (.castore, 1) := by decide +kernel
theorem d2_297 : decode method_4_code 297 = .ok (.invokespecial 58, 3) := by decide +kernel
theorem d2_300 : decode method_4_code 300 = .ok (.areturn, 1) := by decide +kernel
theorem d2_301 : decode method_4_code 301 = .ok (.new 43, 3) := by decide +kernel
theorem d2_304 : decode method_4_code 304 = .ok (.dup, 1) := by decide +kernel
theorem d2_305 : decode method_4_code 305 = .ok (.bipush 8, 2) := by decide +kernel
theorem d2_307 : decode method_4_code 307 = .ok (.newarray .char, 2) := by decide +kernel
theorem d2_309 : decode method_4_code 309 = .ok (.dup, 1) := by decide +kernel
theorem d2_310 : decode method_4_code 310 = .ok (.iconst 0, 1) := by decide +kernel
theorem d2_311 : decode method_4_code 311 = .ok (.aload_n 0, 1) := by decide +kernel
theorem d2_312 : decode method_4_code 312 = .ok (.iconst 0, 1) := by decide +kernel
theorem d2_313 : decode method_4_code 313 = .ok (.caload, 1) := by decide +kernel
theorem d2_314 : decode method_4_code 314 = .ok (.castore, 1) := by decide +kernel
theorem d2_315 : decode method_4_code 315 = .ok (.dup, 1) := by decide +kernel
theorem d2_316 : decode method_4_code 316 = .ok (.iconst 1, 1) := by decide +kernel
theorem d2_317 : decode method_4_code 317 = .ok (.aload_n 0, 1) := by decide +kernel
theorem d2_318 : decode method_4_code 318 = .ok (.iconst 1, 1) := by decide +kernel
theorem d2_319 : decode method_4_code 319 = .ok (.caload, 1) := by decide +kernel
theorem d2_320 : decode method_4_code 320 = .ok (.castore, 1) := by decide +kernel
theorem d2_321 : decode method_4_code 321 = .ok (.dup, 1) := by decide +kernel
theorem d2_322 : decode method_4_code 322 = .ok (.iconst 2, 1) := by decide +kernel
theorem d2_323 : decode method_4_code 323 = .ok (.aload_n 0, 1) := by decide +kernel
theorem d2_324 : decode method_4_code 324 = .ok (.iconst 2, 1) := by decide +kernel
theorem d2_325 : decode method_4_code 325 = .ok (.caload, 1) := by decide +kernel
theorem d2_326 : decode method_4_code 326 = .ok (.castore, 1) := by decide +kernel
theorem d2_327 : decode method_4_code 327 = .ok (.dup, 1) := by decide +kernel
theorem d2_328 : decode method_4_code 328 = .ok (.iconst 3, 1) := by decide +kernel
theorem d2_329 : decode method_4_code 329 = .ok (.aload_n 0, 1) := by decide +kernel
theorem d2_330 : decode method_4_code 330 = .ok (.iconst 3, 1) := by decide +kernel
theorem d2_331 : decode method_4_code 331 = .ok (.caload, 1) := by decide +kernel
theorem d2_332 : decode method_4_code 332 = .ok (.castore, 1) := by decide +kernel
theorem d2_333 : decode method_4_code 333 = .ok (.dup, 1) := by decide +kernel
theorem d2_334 : decode method_4_code 334 = .ok (.iconst 4, 1) := by decide +kernel
theorem d2_335 : decode method_4_code 335 = .ok (.aload_n 0, 1) := by decide +kernel
theorem d2_336 : decode method_4_code 336 = .ok (.iconst 4, 1) := by decide +kernel
theorem d2_337 : decode method_4_code 337 = .ok (.caload, 1) := by decide +kernel
theorem d2_338 : decode method_4_code 338 = .ok (.castore, 1) := by decide +kernel
theorem d2_339 : decode method_4_code 339 = .ok (.dup, 1) := by decide +kernel
theorem d2_340 : decode method_4_code 340 = .ok (.iconst 5, 1) := by decide +kernel
theorem d2_341 : decode method_4_code 341 = .ok (.aload_n 0, 1) := by decide +kernel
theorem d2_342 : decode method_4_code 342 = .ok (.iconst 5, 1) := by decide +kernel
theorem d2_343 : decode method_4_code 343 = .ok (.caload, 1) := by decide +kernel
theorem d2_344 : decode method_4_code 344 = .ok (.castore, 1) := by decide +kernel
theorem d2_345 : decode method_4_code 345 = .ok (.dup, 1) := by decide +kernel
theorem d2_346 : decode method_4_code 346 = .ok (.bipush 6, 2) := by decide +kernel
theorem d2_348 : decode method_4_code 348 = .ok (.aload_n 0, 1) := by decide +kernel
theorem d2_349 : decode method_4_code 349 = .ok (.bipush 6, 2) := by decide +kernel
theorem d2_351 : decode method_4_code 351 = .ok (.caload, 1) := by decide +kernel
theorem d2_352 : decode method_4_code 352 = .ok (.castore, 1) := by decide +kernel
theorem d2_353 : decode method_4_code 353 = .ok (.dup, 1) := by decide +kernel
theorem d2_354 : decode method_4_code 354 = .ok (.bipush 7, 2) := by decide +kernel
theorem d2_356 : decode method_4_code 356 = .ok (.aload_n 0, 1) := by decide +kernel
theorem d2_357 : decode method_4_code 357 = .ok (.bipush 7, 2) := by decide +kernel
theorem d2_359 : decode method_4_code 359 = .ok (.caload, 1) := by decide +kernel
theorem d2_360 : decode method_4_code 360 = .ok (.castore, 1) := by decide +kernel
theorem d2_361 : decode method_4_code 361 = .ok (.invokespecial 58, 3) := by decide +kernel
theorem d2_364 : decode method_4_code 364 = .ok (.areturn, 1) := by decide +kernel
theorem ef_take (m : MethodId) (x9 : Int32) (b : Addr) (kc : ClassId) (c0 : Int32) (c1 : Int32) (c2 : Int32) (c3 : Int32) (c4 : Int32) (c5 : Int32) (c6 : Int32) (c7 : Int32) (zc : Int32) : entryFrame m #[(.ref b), (.int x9)] 2 = mkF m 0 #[.val (.ref b), .val (.int x9)] [] := by
  first | (simp [entryFrame, mkF, argsToLocals, Value.category]; done) | rfl
def Q_take (Z : State) (x9 : Int32) (b : Addr) (kc : ClassId) (c0 : Int32) (c1 : Int32) (c2 : Int32) (c3 : Int32) (c4 : Int32) (c5 : Int32) (c6 : Int32) (c7 : Int32) (zc : Int32) (h0 : Heap) (n0 : Nat) (v : Option Value) (h : Heap) (vm : Vm) (L : List Loc) : Prop := ∃ (r t : Addr) (kb : ClassId) (cs : List Int32) (Nx : Int32) (vx : List Value), v = some (.ref r) ∧ Fr n0 L ∧ Keep h0 h [] ∧ Exa Z h r "java/lang/String" ∧ Fld Z h r "java/lang/String" "coder" "B" (.int (0 : Int32)) ∧ Fld Z h r "java/lang/String" "value" "[B" (.ref t) ∧ Arv Z h t kb .byte Nx vx (.int (0 : Int32)) ∧ StrChars.Road.CodA cs 0 Nx vx ∧ (∀ c ∈ cs, ¬ c < 0 ∧ ¬ (65535 : Int32) < c) ∧ cs.length ≤ 4000 ∧ IB Z vm [""]
set_option maxRecDepth 65536 in
set_option maxHeartbeats 40000000 in
theorem rm_take (l : Launch) (Z : State) (a0 : Array Value) (hw : ∀ d ∈ tables_1, d.before a0 Z = true) (ws : List Jvm.Cond) (x9 : Int32) (b : Addr) (kc : ClassId) (c0 : Int32) (c1 : Int32) (c2 : Int32) (c3 : Int32) (c4 : Int32) (c5 : Int32) (c6 : Int32) (c7 : Int32) (zc : Int32) (h0 : Heap) (n0 : Nat) (O0 : Old Z n0 h0) (Vb : Arv Z h0 b kc .char (8 : Int32) [(.int c0), (.int c1), (.int c2), (.int c3), (.int c4), (.int c5), (.int c6), (.int c7)] (.int (0 : Int32))) (bc0 : (¬ c0 < 0 ∧ ¬ (255 : Int32) < c0)) (bc1 : (¬ c1 < 0 ∧ ¬ (255 : Int32) < c1)) (bc2 : (¬ c2 < 0 ∧ ¬ (255 : Int32) < c2)) (bc3 : (¬ c3 < 0 ∧ ¬ (255 : Int32) < c3)) (bc4 : (¬ c4 < 0 ∧ ¬ (255 : Int32) < c4)) (bc5 : (¬ c5 < 0 ∧ ¬ (255 : Int32) < c5)) (bc6 : (¬ c6 < 0 ∧ ¬ (255 : Int32) < c6)) (bc7 : (¬ c7 < 0 ∧ ¬ (255 : Int32) < c7)) (hh7 : Jvm.Lit.constHeld Z "java/lang/String" 7) (hcw : Jvm.Lit.compactW.before a0 Z = true) (SC : Sta Z Z.heap "java/lang/String" "COMPACT_STRINGS" "Z" (.int zc)) (hzc : ¬ zc = 0) :
    MetFree l (⟨"com/example/izin/izin/AttributeDefaultFlagPinLaw", "take", "([CI)Ljava/lang/String;"⟩ : MethodName) (head1 (Jvm.Cond.code (⟨"com/example/izin/izin/AttributeDefaultFlagPinLaw", "take", "([CI)Ljava/lang/String;"⟩ : MethodName) method_4_code 2 (some (.object "java/lang/String")) :: ws) ({ frames := 4, cells := 4, slots := 20, locals := 66 } : Room)) (fun av_ U => av_ = #[(.ref b), (.int x9)] ∧ Z.Warmed39 U.vm ∧ U.heap = h0 ∧ (fun vm_ : Vm => IB Z vm_ []) U.vm) (fun _ _ _ _ _ => True) (fun _ U o_ U' => ∃ v L, o_ = .returned v ∧ Q_take Z x9 b kc c0 c1 c2 c3 c4 c5 c6 c7 zc h0 n0 v U'.heap U'.vm L ∧ ReturnedEndW U o_ U' L ({ frames := 4, cells := 4, slots := 20, locals := 66 } : Room).cells ({ frames := 4, cells := 4, slots := 20, locals := 66 } : Room).slots) := by
  refine MetFree.of_bodySF (plainFor_of_name pn_1) hisR ?_
  intro p e s m args below meth c s₁ Bd hml0 hP hK
  obtain ⟨rfl, hZ, hh, hVI⟩ := hP
  have hZ : Z.Warmed39 (s.setVm s.vm).vm := hZ
  have hx := Bd.exec
  have hby := Bd.bytes
  have hml : c.maxLocals = 2 := hml0
  have hown : (s.setVm s.vm).vm.findClass "com/example/izin/izin/AttributeDefaultFlagPinLaw" = some m.cls := findClass_of_methodNamed Bd.named
  have hnm := (name_of_methodNamed Bd.named Bd.method).1
  have hlk := own_lk Bd
  have hret := Bd.returns
  have X0 : Stand p l e ({ frames := 4, cells := 4, slots := 20, locals := 66 } : Room) (s.setVm s.vm) m #[(.ref b), (.int x9)] below meth c s₁ [] 0 0 := Stand.of_body Bd
  have e0 : s₁.heap = h0 := by rw [← hh, Bd.state]; rfl
  have N0 := Fr.nil n0
  have hS : s.Since s.vm h0.size := (State.WarmedH.refl s).since _
  have hk : h0.size ≤ h0.size := Nat.le_refl _
  show own_GoesW p e below s (Q_take Z x9 b kc c0 c1 c2 c3 c4 c5 c6 c7 zc h0 n0) ({ frames := 4, cells := 4, slots := 20, locals := 66 } : Room).cells ({ frames := 4, cells := 4, slots := 20, locals := 66 } : Room).slots (s₁.setTop (entryFrame m #[(.ref b), (.int x9)] 2))
  refine own_goW (fun _ ww => castTop (ef_take m x9 b kc c0 c1 c2 c3 c4 c5 c6 c7 zc) ww) ?_
  have hI : IB Z s.vm [] := hVI
  show own_GoesW _ _ _ _ _ _ _ (s₁.setTop (mkF m 0 #[.val (.ref b), .val (.int x9)] []))
  refine own_goW (fun _ ww => XS.iloadN X0.here hx rfl (hb hby d2_0) rfl  ww) ?_
  show own_GoesW _ _ _ _ _ _ _ (s₁.setTop (mkF m 1 #[.val (.ref b), .val (.int x9)] [(.int x9)]))
  by_cases hc29 : x9 = (0 : Int32)
  ·
    refine own_goW (fun _ ww => XS.ifNo X0.here hx rfl (hb hby d2_1) rfl (own_if .ne (teq hc29).2) ww) ?_
    show own_GoesW _ _ _ _ _ _ _ (s₁.setTop (mkF m 4 #[.val (.ref b), .val (.int x9)] []))
    obtain ⟨T30, h30, X30, e30, E30, A30, D30, -, st30⟩ := newO X0 hx hZ hown (hw _ (List.mem_of_getElem? (i := 13) rfl)) (hw _ (List.mem_of_getElem? (i := 14) rfl)) (hw _ (List.mem_of_getElem? (i := 15) rfl)) e0 (g := (mkF m 4 #[.val (.ref b), .val (.int x9)] [])) rfl (hb hby d2_4) (by decide) (by decide)
    obtain ⟨b30, g30⟩ : ∃ z, z = h0.size := ⟨_, rfl⟩
    rw [← g30] at A30 D30 st30
    have ne_b_b30 : b ≠ b30 := Nat.ne_of_lt (Nat.lt_of_lt_of_le Vb.lt (Nat.le_of_eq g30.symm))
    have g_b30 : n0 ≤ b30 := Nat.le_trans (O0.1 ▸ O0.2.1) (Nat.le_of_eq g30.symm)
    have f31 : Arv Z h30 b kc .char (8 : Int32) [(.int c0), (.int c1), (.int c2), (.int c3), (.int c4), (.int c5), (.int c6), (.int c7)] (.int (0 : Int32)) := (Arv.ext Vb E30)
    have O30 := O0.ext E30
    have hk := Nat.le_trans hk E30.1
    have sz_b30 : h0.size ≤ b30 := Nat.le_trans (own_ks (Keep.refl h0 [])) (Nat.le_of_eq g30.symm)
    have K30 := (Keep.refl h0 []).ext E30
    have f32 : Fld Z h30 b30 "java/lang/String" "value" "[B" .null := D30 (Or.inr (hw _ (List.mem_of_getElem? (i := 28) rfl))) (ty := (.array .byte)) (by decide)
    have f33 : Fld Z h30 b30 "java/lang/String" "coder" "B" (.int (0 : Int32)) := D30 (Or.inr (hw _ (List.mem_of_getElem? (i := 29) rfl))) (ty := .byte) (by decide)
    refine own_goW st30 ?_
    show own_GoesW _ _ _ _ _ _ _ (T30.setTop (mkF m 7 #[.val (.ref b), .val (.int x9)] [(.ref b30)]))
    refine own_goW (fun _ ww => XS.dup X30.here hx rfl (hb hby d2_7) rfl rfl ww) ?_
    show own_GoesW _ _ _ _ _ _ _ (T30.setTop (mkF m 8 #[.val (.ref b), .val (.int x9)] [(.ref b30), (.ref b30)]))
    refine own_goW (fun _ ww => XS.iconst X30.here hx rfl (hb hby d2_8) ww) ?_
    show own_GoesW _ _ _ _ _ _ _ (T30.setTop (mkF m 9 #[.val (.ref b), .val (.int x9)] [(.int (0 : Int32)), (.ref b30), (.ref b30)]))
    obtain ⟨T34, h34, k34, X34, e34, E34, A34, st34⟩ := newP X30 hx hZ (hw _ (List.mem_of_getElem? (i := 4) rfl)) e30 (g := (mkF m 9 #[.val (.ref b), .val (.int x9)] [(.int (0 : Int32)), (.ref b30), (.ref b30)])) rfl (hb hby d2_9) rfl (by decide) (cap := 0) (by decide) (by decide) (by decide) (by decide)
    obtain ⟨b34, g34⟩ : ∃ z, z = h30.size := ⟨_, rfl⟩
    rw [← g34] at A34 st34
    have ne_b_b34 : b ≠ b34 := Nat.ne_of_lt (Nat.lt_of_lt_of_le f31.lt (Nat.le_of_eq g34.symm))
    have ne_b30_b34 : b30 ≠ b34 := Nat.ne_of_lt (Nat.lt_of_lt_of_le f32.lt (Nat.le_of_eq g34.symm))
    have g_b34 : n0 ≤ b34 := Nat.le_trans (O30.1 ▸ O30.2.1) (Nat.le_of_eq g34.symm)
    have f35 : Arv Z h34 b kc .char (8 : Int32) [(.int c0), (.int c1), (.int c2), (.int c3), (.int c4), (.int c5), (.int c6), (.int c7)] (.int (0 : Int32)) := (Arv.ext f31 E34)
    have f36 : Fld Z h34 b30 "java/lang/String" "value" "[B" .null := (f32.ext E34)
    have f37 : Fld Z h34 b30 "java/lang/String" "coder" "B" (.int (0 : Int32)) := (f33.ext E34)
    have f38 : Exa Z h34 b30 "java/lang/String" := (A30.ext E34)
    have O34 := O30.ext E34
    have hk := Nat.le_trans hk E34.1
    have sz_b34 : h0.size ≤ b34 := Nat.le_trans (own_ks K30) (Nat.le_of_eq g34.symm)
    have K34 := K30.ext E34
    have V34 : Arv Z h34 b34 k34 .char (0 : Int32) [] (.int (0 : Int32)) := Arv.new A34 (by decide)
    refine own_goW st34 ?_
    show own_GoesW _ _ _ _ _ _ _ (T34.setTop (mkF m 11 #[.val (.ref b), .val (.int x9)] [(.ref b34), (.ref b30), (.ref b30)]))
    obtain ⟨_, _, ⟨T39, L39, k39, n39⟩, -, X39, hS39, hg39, ⟨Lc39, hQ39, l39, y39, z39⟩, st39⟩ := X34.specialBackS hx (y := (⟨"java/lang/String", "<init>", "([C)V"⟩ : MethodName)) rfl hown (mvT hZ (hw _ (List.mem_of_getElem? (i := 16) rfl))) (mvT hZ (hw _ (List.mem_of_getElem? (i := 17) rfl))) (mvT hZ (hw _ (List.mem_of_getElem? (i := 18) rfl))) (by decide) (own_backV (W := 1) (rm_e1 l Z a0 hw [] b30 b34 k34 h34 n0 O34 f36 f37 f38 g_b30 V34 hh7 hcw) hZ (fun _ q => own_IBw q hI) (hw _ (List.mem_of_getElem? (i := 18) rfl)) (hw _ (List.mem_of_getElem? (i := 15) rfl)) (by decide) (by decide)) (g := (mkF m 11 #[.val (.ref b), .val (.int x9)] [(.ref b34), (.ref b30), (.ref b30)])) rfl (by rw [hml]; rfl) (Steps.refl _) (a := b30) (argsL := [(.ref b34)]) (rest := [(.ref b30)]) (lenOf pd_1 rfl) rfl (by show 2 * 0 + _ ≤ _; exact Nat.le_of_eq rfl) (hb hby d2_11) (fun _ _ => ⟨rfl, e34, (by decide : 2 + 2 ≤ _), (by decide : 4 + 4 ≤ _)⟩)
    dsimp only [Pt.U, Pt.locs, Pt.cells, Pt.slots] at X39 l39 y39 z39 st39 hQ39 hS39 hg39
    subst l39 y39 z39
    obtain ⟨X39, hS, hZ, hown⟩ := rebS hS (show _ ≤ T34.heap.size from (by rw [e34]; exact hk)) X39 hS39 hg39 hZ hown
    obtain ⟨rfl, N39q, K39q, C39q, t39, kb39, le39, V39q, A39q, nt39, I39q, L39q, LC39q, LV39q, LE39q, nl39⟩ := hQ39
    have N39 := Fr.app N0 N39q
    have hk : T39.heap.size ≤ T39.heap.size := Nat.le_refl _
    have f40 : Arv Z T39.heap b kc .char (8 : Int32) [(.int c0), (.int c1), (.int c2), (.int c3), (.int c4), (.int c5), (.int c6), (.int c7)] (.int (0 : Int32)) := (f35.keep K39q (ninS ne_b_b30 nin0))
    have f41 : Exa Z T39.heap b30 "java/lang/String" := (f38.keep K39q)
    have f42 : Arv Z T39.heap b34 k34 .char (0 : Int32) [] (.int (0 : Int32)) := (V34.keep K39q (ninS (Ne.symm ne_b30_b34) nin0))
    have O39 := O34.keep K39q (allS g_b30 all0)
    have K39 := K34.trans K39q (allS (Or.inr sz_b30) all0)
    refine own_goW (fun _ ww => Steps.trans st39 ww) ?_
    show own_GoesW _ _ _ _ _ _ _ (T39.setTop (mkF m 14 #[.val (.ref b), .val (.int x9)] [(.ref b30)]))
    have hp_b30 : ∀ c ∈ ([] : List Int32), ¬ c < 0 ∧ ¬ (255 : Int32) < c := fun _ q => nomatch q
    exact own_outW X39 hS hk hlk (v := some (.ref b30)) (fun h => by rw [hret] at h; cases h) (fun fs hr => retOut X39 hx (t := (.object "java/lang/String")) hret rfl (Or.inr (Or.inr (Or.inr (Or.inr ⟨rfl, rfl, rfl⟩)))) (hb hby d2_14) hr) rfl ⟨b30, t39, kb39, ([] : List Int32), (0 : Int32), [], rfl, N39, K39, f41, C39q, V39q, A39q, (StrChars.Road.codOf (cs := ([] : List Int32)) (n := 0) rfl (fun c hc => (hp_b30 c hc).2)), (own_up hp_b30), (Nat.le_of_ble_eq_true rfl), (own_IBw X39.warmed I39q)⟩ (by decide) (by decide)
  ·
    refine own_goW (fun _ ww => XS.ifYes X0.here hx rfl (pc0 := 1) (pc' := 15) rfl (hb hby d2_1) rfl (own_if .ne (feq hc29).2) (by decide) (by decide) ww) ?_
    show own_GoesW _ _ _ _ _ _ _ (s₁.setTop (mkF m 15 #[.val (.ref b), .val (.int x9)] []))
    refine own_goW (fun _ ww => XS.iloadN X0.here hx rfl (hb hby d2_15) rfl  ww) ?_
    show own_GoesW _ _ _ _ _ _ _ (s₁.setTop (mkF m 16 #[.val (.ref b), .val (.int x9)] [(.int x9)]))
    refine own_goW (fun _ ww => XS.iconst X0.here hx rfl (hb hby d2_16) ww) ?_
    show own_GoesW _ _ _ _ _ _ _ (s₁.setTop (mkF m 17 #[.val (.ref b), .val (.int x9)] [(.int (1 : Int32)), (.int x9)]))
    by_cases hc43 : x9 = (1 : Int32)
    ·
      refine own_goW (fun _ ww => XS.icmpNo X0.here hx rfl (hb hby d2_17) rfl (teq hc43).2 ww) ?_
      show own_GoesW _ _ _ _ _ _ _ (s₁.setTop (mkF m 20 #[.val (.ref b), .val (.int x9)] []))
      obtain ⟨T44, h44, X44, e44, E44, A44, D44, -, st44⟩ := newO X0 hx hZ hown (hw _ (List.mem_of_getElem? (i := 13) rfl)) (hw _ (List.mem_of_getElem? (i := 14) rfl)) (hw _ (List.mem_of_getElem? (i := 15) rfl)) e0 (g := (mkF m 20 #[.val (.ref b), .val (.int x9)] [])) rfl (hb hby d2_20) (by decide) (by decide)
      obtain ⟨b44, g44⟩ : ∃ z, z = h0.size := ⟨_, rfl⟩
      rw [← g44] at A44 D44 st44
      have ne_b_b44 : b ≠ b44 := Nat.ne_of_lt (Nat.lt_of_lt_of_le Vb.lt (Nat.le_of_eq g44.symm))
      have g_b44 : n0 ≤ b44 := Nat.le_trans (O0.1 ▸ O0.2.1) (Nat.le_of_eq g44.symm)
      have f45 : Arv Z h44 b kc .char (8 : Int32) [(.int c0), (.int c1), (.int c2), (.int c3), (.int c4), (.int c5), (.int c6), (.int c7)] (.int (0 : Int32)) := (Arv.ext Vb E44)
      have O44 := O0.ext E44
      have hk := Nat.le_trans hk E44.1
      have sz_b44 : h0.size ≤ b44 := Nat.le_trans (own_ks (Keep.refl h0 [])) (Nat.le_of_eq g44.symm)
      have K44 := (Keep.refl h0 []).ext E44
      have f46 : Fld Z h44 b44 "java/lang/String" "value" "[B" .null := D44 (Or.inr (hw _ (List.mem_of_getElem? (i := 28) rfl))) (ty := (.array .byte)) (by decide)
      have f47 : Fld Z h44 b44 "java/lang/String" "coder" "B" (.int (0 : Int32)) := D44 (Or.inr (hw _ (List.mem_of_getElem? (i := 29) rfl))) (ty := .byte) (by decide)
      refine own_goW st44 ?_
      show own_GoesW _ _ _ _ _ _ _ (T44.setTop (mkF m 23 #[.val (.ref b), .val (.int x9)] [(.ref b44)]))
      refine own_goW (fun _ ww => XS.dup X44.here hx rfl (hb hby d2_23) rfl rfl ww) ?_
      show own_GoesW _ _ _ _ _ _ _ (T44.setTop (mkF m 24 #[.val (.ref b), .val (.int x9)] [(.ref b44), (.ref b44)]))
      refine own_goW (fun _ ww => XS.iconst X44.here hx rfl (hb hby d2_24) ww) ?_
      show own_GoesW _ _ _ _ _ _ _ (T44.setTop (mkF m 25 #[.val (.ref b), .val (.int x9)] [(.int (1 : Int32)), (.ref b44), (.ref b44)]))
      obtain ⟨T48, h48, k48, X48, e48, E48, A48, st48⟩ := newP X44 hx hZ (hw _ (List.mem_of_getElem? (i := 4) rfl)) e44 (g := (mkF m 25 #[.val (.ref b), .val (.int x9)] [(.int (1 : Int32)), (.ref b44), (.ref b44)])) rfl (hb hby d2_25) rfl (by decide) (cap := 1) (by decide) (by decide) (by decide) (by decide)
      obtain ⟨b48, g48⟩ : ∃ z, z = h44.size := ⟨_, rfl⟩
      rw [← g48] at A48 st48
      have ne_b_b48 : b ≠ b48 := Nat.ne_of_lt (Nat.lt_of_lt_of_le f45.lt (Nat.le_of_eq g48.symm))
      have ne_b44_b48 : b44 ≠ b48 := Nat.ne_of_lt (Nat.lt_of_lt_of_le f46.lt (Nat.le_of_eq g48.symm))
      have g_b48 : n0 ≤ b48 := Nat.le_trans (O44.1 ▸ O44.2.1) (Nat.le_of_eq g48.symm)
      have f49 : Arv Z h48 b kc .char (8 : Int32) [(.int c0), (.int c1), (.int c2), (.int c3), (.int c4), (.int c5), (.int c6), (.int c7)] (.int (0 : Int32)) := (Arv.ext f45 E48)
      have f50 : Fld Z h48 b44 "java/lang/String" "value" "[B" .null := (f46.ext E48)
      have f51 : Fld Z h48 b44 "java/lang/String" "coder" "B" (.int (0 : Int32)) := (f47.ext E48)
      have f52 : Exa Z h48 b44 "java/lang/String" := (A44.ext E48)
      have O48 := O44.ext E48
      have hk := Nat.le_trans hk E48.1
      have sz_b48 : h0.size ≤ b48 := Nat.le_trans (own_ks K44) (Nat.le_of_eq g48.symm)
      have K48 := K44.ext E48
      have V48 : Arv Z h48 b48 k48 .char (1 : Int32) [(.int (0 : Int32))] (.int (0 : Int32)) := (Arv.new A48 (by decide)).pad (pad_rep [] (.int (0 : Int32)) 1)
      refine own_goW st48 ?_
      show own_GoesW _ _ _ _ _ _ _ (T48.setTop (mkF m 27 #[.val (.ref b), .val (.int x9)] [(.ref b48), (.ref b44), (.ref b44)]))
      refine own_goW (fun _ ww => XS.dup X48.here hx rfl (hb hby d2_27) rfl rfl ww) ?_
      show own_GoesW _ _ _ _ _ _ _ (T48.setTop (mkF m 28 #[.val (.ref b), .val (.int x9)] [(.ref b48), (.ref b48), (.ref b44), (.ref b44)]))
      refine own_goW (fun _ ww => XS.iconst X48.here hx rfl (hb hby d2_28) ww) ?_
      show own_GoesW _ _ _ _ _ _ _ (T48.setTop (mkF m 29 #[.val (.ref b), .val (.int x9)] [(.int (0 : Int32)), (.ref b48), (.ref b48), (.ref b44), (.ref b44)]))
      refine own_goW (fun _ ww => XS.aloadN X48.here hx rfl (hb hby d2_29) rfl rfl ww) ?_
      show own_GoesW _ _ _ _ _ _ _ (T48.setTop (mkF m 30 #[.val (.ref b), .val (.int x9)] [(.ref b), (.int (0 : Int32)), (.ref b48), (.ref b48), (.ref b44), (.ref b44)]))
      refine own_goW (fun _ ww => XS.iconst X48.here hx rfl (hb hby d2_30) ww) ?_
      show own_GoesW _ _ _ _ _ _ _ (T48.setTop (mkF m 31 #[.val (.ref b), .val (.int x9)] [(.int (0 : Int32)), (.ref b), (.int (0 : Int32)), (.ref b48), (.ref b48), (.ref b44), (.ref b44)]))
      obtain ⟨cl53, Ar53, -, S53, -, H53, -⟩ := id f49
      have hin53 := inb_of (j := (0 : Int32)) S53 ⟨by decide, by decide⟩
      have hat53 : cl53.slots[((0 : Int32)).toNatClampNeg]? = some (.int c0) := Has.at H53 hin53 rfl
      refine own_goW (fun _ ww => X48.caload hx (j := (0 : Int32)) (v := (.int c0)) (by rw [e48]; exact Ar53.1) (State.isArrayOf_alike hZ.alike Ar53.2.1) Ar53.2.2 hin53 hat53 (g := (mkF m 31 #[.val (.ref b), .val (.int x9)] [(.int (0 : Int32)), (.ref b), (.int (0 : Int32)), (.ref b48), (.ref b48), (.ref b44), (.ref b44)])) rfl rfl (hb hby d2_31) _ ww) ?_
      show own_GoesW _ _ _ _ _ _ _ (T48.setTop (mkF m 32 #[.val (.ref b), .val (.int x9)] [(.int c0), (.int (0 : Int32)), (.ref b48), (.ref b48), (.ref b44), (.ref b44)]))
      obtain ⟨cl54, Ar54, q54, S54, M54, H54, U54⟩ := id V48
      obtain ⟨T54, h54, X54, e54, W54, st54⟩ := stC X48 hx hZ e48 Ar54 (j := (0 : Int32)) (inb_of S54 ⟨by decide, by decide⟩) (g := (mkF m 32 #[.val (.ref b), .val (.int x9)] [(.int c0), (.int (0 : Int32)), (.ref b48), (.ref b48), (.ref b44), (.ref b44)])) rfl rfl (hb hby d2_32)
      have nr54 : nar .char c0 = c0 := (own_narc bc0)
      rw [nr54] at W54
      have ft54 : fits .char (.int c0) = true := by have q := fits_nar_char c0; rw [nr54] at q; exact q
      have f55 : Arv Z h54 b kc .char (8 : Int32) [(.int c0), (.int c1), (.int c2), (.int c3), (.int c4), (.int c5), (.int c6), (.int c7)] (.int (0 : Int32)) := (f49.other W54 ne_b_b48)
      have f56 : Fld Z h54 b44 "java/lang/String" "value" "[B" .null := (f50.other W54 (Or.inl ne_b44_b48))
      have f57 : Fld Z h54 b44 "java/lang/String" "coder" "B" (.int (0 : Int32)) := (f51.other W54 (Or.inl ne_b44_b48))
      have f58 : Exa Z h54 b44 "java/lang/String" := (f52.wr W54)
      have f59 : Arv Z h54 b48 k48 .char (1 : Int32) [(.int c0)] (.int (0 : Int32)) := (Arv.set Ar54 q54 S54 M54 H54 U54 ft54 W54 0 rfl (Nat.le_of_ble_eq_true rfl))
      have hk := Nat.le_trans hk (Keep.of_wr W54).1
      have N54 := Fr.snoc X54 N0 g_b48
      have O54 := O48.wr W54 g_b48
      have K54 := K48.wr W54 (Or.inr sz_b48)
      refine own_goW st54 ?_
      show own_GoesW _ _ _ _ _ _ _ (T54.setTop (mkF m 33 #[.val (.ref b), .val (.int x9)] [(.ref b48), (.ref b44), (.ref b44)]))
      have hp_b44 : ∀ c ∈ ([c0] : List Int32), ¬ c < 0 ∧ ¬ (255 : Int32) < c := (own_allc bc0 (fun _ q => nomatch q))
      obtain ⟨_, _, ⟨T60, L60, k60, n60⟩, -, X60, ⟨Lc60, hQ60, l60, y60, z60⟩, st60⟩ := X54.specialBack hx (y := (⟨"java/lang/String", "<init>", "([C)V"⟩ : MethodName)) rfl hown (mvT hZ (hw _ (List.mem_of_getElem? (i := 16) rfl))) (mvT hZ (hw _ (List.mem_of_getElem? (i := 17) rfl))) (mvT hZ (hw _ (List.mem_of_getElem? (i := 18) rfl))) (by decide) (StrChars.Road.backV (W := 1) hZ (own_words hw) (kI := 4) (hw _ (List.mem_of_getElem? (i := 14) rfl)) (cs := ([c0] : List Int32)) (bs := (([c0] : List Int32)).map (fun c => c.toInt8.toInt32)) (n := 1) g_b44 (own_ns O54) f58 f56 f57 f59 (SC.ext O54.2) hzc rfl rfl (by decide) (by decide) hp_b44 rfl (by decide) (by decide)) (g := (mkF m 33 #[.val (.ref b), .val (.int x9)] [(.ref b48), (.ref b44), (.ref b44)])) rfl (by rw [hml]; rfl) (Steps.refl _) (a := b44) (argsL := [(.ref b48)]) (rest := [(.ref b44)]) (lenOf pd_1 rfl) rfl (by show 2 * 0 + _ ≤ _; exact Nat.le_of_eq rfl) (hb hby d2_33) (fun _ _ => ⟨rfl, e54, (by decide : 2 + 1 ≤ _), (by decide : 5 + 1 ≤ _)⟩)
      dsimp only [Pt.U, Pt.locs, Pt.cells, Pt.slots] at X60 l60 y60 z60 st60 hQ60
      subst l60 y60 z60
      obtain ⟨rfl, N60q, K60q, E60q, C60q, t60, kb60, -, G60q, -, V60q, A60q⟩ := hQ60
      have N60 := Fr.app N54 N60q
      have hk := Nat.le_trans hk (own_ks K60q)
      have ne_b_t60 : b ≠ t60 := Nat.ne_of_lt (Nat.lt_of_lt_of_le f55.lt G60q)
      have ne_b44_t60 : b44 ≠ t60 := Nat.ne_of_lt (Nat.lt_of_lt_of_le f56.lt G60q)
      have ne_b48_t60 : b48 ≠ t60 := Nat.ne_of_lt (Nat.lt_of_lt_of_le f59.lt G60q)
      have g_t60 : n0 ≤ t60 := Nat.le_trans (O54.1 ▸ O54.2.1) G60q
      have sz_t60 : h0.size ≤ t60 := Nat.le_trans (own_ks K54) G60q
      have f61 : Arv Z T60.heap b kc .char (8 : Int32) [(.int c0), (.int c1), (.int c2), (.int c3), (.int c4), (.int c5), (.int c6), (.int c7)] (.int (0 : Int32)) := (f55.keep K60q (ninS ne_b_b44 nin0))
      have f62 : Exa Z T60.heap b44 "java/lang/String" := (f58.keep K60q)
      have f63 : Arv Z T60.heap b48 k48 .char (1 : Int32) [(.int c0)] (.int (0 : Int32)) := (f59.keep K60q (ninS (Ne.symm ne_b44_b48) nin0))
      have O60 := O54.keep K60q (allS g_b44 all0)
      have K60 := K54.trans K60q (allS (Or.inr sz_b44) all0)
      refine own_goW (fun _ ww => Steps.trans st60 ww) ?_
      show own_GoesW _ _ _ _ _ _ _ (T60.setTop (mkF m 36 #[.val (.ref b), .val (.int x9)] [(.ref b44)]))
      exact own_outW X60 hS hk hlk (v := some (.ref b44)) (fun h => by rw [hret] at h; cases h) (fun fs hr => retOut X60 hx (t := (.object "java/lang/String")) hret rfl (Or.inr (Or.inr (Or.inr (Or.inr ⟨rfl, rfl, rfl⟩)))) (hb hby d2_36) hr) rfl ⟨b44, t60, kb60, ([c0] : List Int32), (1 : Int32), [(.int (c0).toInt8.toInt32)], rfl, N60, K60, f62, C60q, V60q, A60q, (StrChars.Road.codOf (cs := ([c0] : List Int32)) (n := 1) rfl (fun c hc => (hp_b44 c hc).2)), (own_up hp_b44), (Nat.le_of_ble_eq_true rfl), (own_IBm (own_IBw X60.warmed hI))⟩ (by decide) (by decide)
    ·
      refine own_goW (fun _ ww => XS.icmpYes X0.here hx rfl (pc0 := 17) (pc' := 37) rfl (hb hby d2_17) rfl (feq hc43).2 (by decide) (by decide) ww) ?_
      show own_GoesW _ _ _ _ _ _ _ (s₁.setTop (mkF m 37 #[.val (.ref b), .val (.int x9)] []))
      refine own_goW (fun _ ww => XS.iloadN X0.here hx rfl (hb hby d2_37) rfl  ww) ?_
      show own_GoesW _ _ _ _ _ _ _ (s₁.setTop (mkF m 38 #[.val (.ref b), .val (.int x9)] [(.int x9)]))
      refine own_goW (fun _ ww => XS.iconst X0.here hx rfl (hb hby d2_38) ww) ?_
      show own_GoesW _ _ _ _ _ _ _ (s₁.setTop (mkF m 39 #[.val (.ref b), .val (.int x9)] [(.int (2 : Int32)), (.int x9)]))
      by_cases hc64 : x9 = (2 : Int32)
      ·
        refine own_goW (fun _ ww => XS.icmpNo X0.here hx rfl (hb hby d2_39) rfl (teq hc64).2 ww) ?_
        show own_GoesW _ _ _ _ _ _ _ (s₁.setTop (mkF m 42 #[.val (.ref b), .val (.int x9)] []))
        obtain ⟨T65, h65, X65, e65, E65, A65, D65, -, st65⟩ := newO X0 hx hZ hown (hw _ (List.mem_of_getElem? (i := 13) rfl)) (hw _ (List.mem_of_getElem? (i := 14) rfl)) (hw _ (List.mem_of_getElem? (i := 15) rfl)) e0 (g := (mkF m 42 #[.val (.ref b), .val (.int x9)] [])) rfl (hb hby d2_42) (by decide) (by decide)
        obtain ⟨b65, g65⟩ : ∃ z, z = h0.size := ⟨_, rfl⟩
        rw [← g65] at A65 D65 st65
        have ne_b_b65 : b ≠ b65 := Nat.ne_of_lt (Nat.lt_of_lt_of_le Vb.lt (Nat.le_of_eq g65.symm))
        have g_b65 : n0 ≤ b65 := Nat.le_trans (O0.1 ▸ O0.2.1) (Nat.le_of_eq g65.symm)
        have f66 : Arv Z h65 b kc .char (8 : Int32) [(.int c0), (.int c1), (.int c2), (.int c3), (.int c4), (.int c5), (.int c6), (.int c7)] (.int (0 : Int32)) := (Arv.ext Vb E65)
        have O65 := O0.ext E65
        have hk := Nat.le_trans hk E65.1
        have sz_b65 : h0.size ≤ b65 := Nat.le_trans (own_ks (Keep.refl h0 [])) (Nat.le_of_eq g65.symm)
        have K65 := (Keep.refl h0 []).ext E65
        have f67 : Fld Z h65 b65 "java/lang/String" "value" "[B" .null := D65 (Or.inr (hw _ (List.mem_of_getElem? (i := 28) rfl))) (ty := (.array .byte)) (by decide)
        have f68 : Fld Z h65 b65 "java/lang/String" "coder" "B" (.int (0 : Int32)) := D65 (Or.inr (hw _ (List.mem_of_getElem? (i := 29) rfl))) (ty := .byte) (by decide)
        refine own_goW st65 ?_
        show own_GoesW _ _ _ _ _ _ _ (T65.setTop (mkF m 45 #[.val (.ref b), .val (.int x9)] [(.ref b65)]))
        refine own_goW (fun _ ww => XS.dup X65.here hx rfl (hb hby d2_45) rfl rfl ww) ?_
        show own_GoesW _ _ _ _ _ _ _ (T65.setTop (mkF m 46 #[.val (.ref b), .val (.int x9)] [(.ref b65), (.ref b65)]))
        refine own_goW (fun _ ww => XS.iconst X65.here hx rfl (hb hby d2_46) ww) ?_
        show own_GoesW _ _ _ _ _ _ _ (T65.setTop (mkF m 47 #[.val (.ref b), .val (.int x9)] [(.int (2 : Int32)), (.ref b65), (.ref b65)]))
        obtain ⟨T69, h69, k69, X69, e69, E69, A69, st69⟩ := newP X65 hx hZ (hw _ (List.mem_of_getElem? (i := 4) rfl)) e65 (g := (mkF m 47 #[.val (.ref b), .val (.int x9)] [(.int (2 : Int32)), (.ref b65), (.ref b65)])) rfl (hb hby d2_47) rfl (by decide) (cap := 2) (by decide) (by decide) (by decide) (by decide)
        obtain ⟨b69, g69⟩ : ∃ z, z = h65.size := ⟨_, rfl⟩
        rw [← g69] at A69 st69
        have ne_b_b69 : b ≠ b69 := Nat.ne_of_lt (Nat.lt_of_lt_of_le f66.lt (Nat.le_of_eq g69.symm))
        have ne_b65_b69 : b65 ≠ b69 := Nat.ne_of_lt (Nat.lt_of_lt_of_le f67.lt (Nat.le_of_eq g69.symm))
        have g_b69 : n0 ≤ b69 := Nat.le_trans (O65.1 ▸ O65.2.1) (Nat.le_of_eq g69.symm)
        have f70 : Arv Z h69 b kc .char (8 : Int32) [(.int c0), (.int c1), (.int c2), (.int c3), (.int c4), (.int c5), (.int c6), (.int c7)] (.int (0 : Int32)) := (Arv.ext f66 E69)
        have f71 : Fld Z h69 b65 "java/lang/String" "value" "[B" .null := (f67.ext E69)
        have f72 : Fld Z h69 b65 "java/lang/String" "coder" "B" (.int (0 : Int32)) := (f68.ext E69)
        have f73 : Exa Z h69 b65 "java/lang/String" := (A65.ext E69)
        have O69 := O65.ext E69
        have hk := Nat.le_trans hk E69.1
        have sz_b69 : h0.size ≤ b69 := Nat.le_trans (own_ks K65) (Nat.le_of_eq g69.symm)
        have K69 := K65.ext E69
        have V69 : Arv Z h69 b69 k69 .char (2 : Int32) [(.int (0 : Int32)), (.int (0 : Int32))] (.int (0 : Int32)) := (Arv.new A69 (by decide)).pad (pad_rep [] (.int (0 : Int32)) 2)
        refine own_goW st69 ?_
        show own_GoesW _ _ _ _ _ _ _ (T69.setTop (mkF m 49 #[.val (.ref b), .val (.int x9)] [(.ref b69), (.ref b65), (.ref b65)]))
        refine own_goW (fun _ ww => XS.dup X69.here hx rfl (hb hby d2_49) rfl rfl ww) ?_
        show own_GoesW _ _ _ _ _ _ _ (T69.setTop (mkF m 50 #[.val (.ref b), .val (.int x9)] [(.ref b69), (.ref b69), (.ref b65), (.ref b65)]))
        refine own_goW (fun _ ww => XS.iconst X69.here hx rfl (hb hby d2_50) ww) ?_
        show own_GoesW _ _ _ _ _ _ _ (T69.setTop (mkF m 51 #[.val (.ref b), .val (.int x9)] [(.int (0 : Int32)), (.ref b69), (.ref b69), (.ref b65), (.ref b65)]))
        refine own_goW (fun _ ww => XS.aloadN X69.here hx rfl (hb hby d2_51) rfl rfl ww) ?_
        show own_GoesW _ _ _ _ _ _ _ (T69.setTop (mkF m 52 #[.val (.ref b), .val (.int x9)] [(.ref b), (.int (0 : Int32)), (.ref b69), (.ref b69), (.ref b65), (.ref b65)]))
        refine own_goW (fun _ ww => XS.iconst X69.here hx rfl (hb hby d2_52) ww) ?_
        show own_GoesW _ _ _ _ _ _ _ (T69.setTop (mkF m 53 #[.val (.ref b), .val (.int x9)] [(.int (0 : Int32)), (.ref b), (.int (0 : Int32)), (.ref b69), (.ref b69), (.ref b65), (.ref b65)]))
        obtain ⟨cl74, Ar74, -, S74, -, H74, -⟩ := id f70
        have hin74 := inb_of (j := (0 : Int32)) S74 ⟨by decide, by decide⟩
        have hat74 : cl74.slots[((0 : Int32)).toNatClampNeg]? = some (.int c0) := Has.at H74 hin74 rfl
        refine own_goW (fun _ ww => X69.caload hx (j := (0 : Int32)) (v := (.int c0)) (by rw [e69]; exact Ar74.1) (State.isArrayOf_alike hZ.alike Ar74.2.1) Ar74.2.2 hin74 hat74 (g := (mkF m 53 #[.val (.ref b), .val (.int x9)] [(.int (0 : Int32)), (.ref b), (.int (0 : Int32)), (.ref b69), (.ref b69), (.ref b65), (.ref b65)])) rfl rfl (hb hby d2_53) _ ww) ?_
        show own_GoesW _ _ _ _ _ _ _ (T69.setTop (mkF m 54 #[.val (.ref b), .val (.int x9)] [(.int c0), (.int (0 : Int32)), (.ref b69), (.ref b69), (.ref b65), (.ref b65)]))
        obtain ⟨cl75, Ar75, q75, S75, M75, H75, U75⟩ := id V69
        obtain ⟨T75, h75, X75, e75, W75, st75⟩ := stC X69 hx hZ e69 Ar75 (j := (0 : Int32)) (inb_of S75 ⟨by decide, by decide⟩) (g := (mkF m 54 #[.val (.ref b), .val (.int x9)] [(.int c0), (.int (0 : Int32)), (.ref b69), (.ref b69), (.ref b65), (.ref b65)])) rfl rfl (hb hby d2_54)
        have nr75 : nar .char c0 = c0 := (own_narc bc0)
        rw [nr75] at W75
        have ft75 : fits .char (.int c0) = true := by have q := fits_nar_char c0; rw [nr75] at q; exact q
        have f76 : Arv Z h75 b kc .char (8 : Int32) [(.int c0), (.int c1), (.int c2), (.int c3), (.int c4), (.int c5), (.int c6), (.int c7)] (.int (0 : Int32)) := (f70.other W75 ne_b_b69)
        have f77 : Fld Z h75 b65 "java/lang/String" "value" "[B" .null := (f71.other W75 (Or.inl ne_b65_b69))
        have f78 : Fld Z h75 b65 "java/lang/String" "coder" "B" (.int (0 : Int32)) := (f72.other W75 (Or.inl ne_b65_b69))
        have f79 : Exa Z h75 b65 "java/lang/String" := (f73.wr W75)
        have f80 : Arv Z h75 b69 k69 .char (2 : Int32) [(.int c0), (.int (0 : Int32))] (.int (0 : Int32)) := (Arv.set Ar75 q75 S75 M75 H75 U75 ft75 W75 0 rfl (Nat.le_of_ble_eq_true rfl))
        have hk := Nat.le_trans hk (Keep.of_wr W75).1
        have N75 := Fr.snoc X75 N0 g_b69
        have O75 := O69.wr W75 g_b69
        have K75 := K69.wr W75 (Or.inr sz_b69)
        refine own_goW st75 ?_
        show own_GoesW _ _ _ _ _ _ _ (T75.setTop (mkF m 55 #[.val (.ref b), .val (.int x9)] [(.ref b69), (.ref b65), (.ref b65)]))
        refine own_goW (fun _ ww => XS.dup X75.here hx rfl (hb hby d2_55) rfl rfl ww) ?_
        show own_GoesW _ _ _ _ _ _ _ (T75.setTop (mkF m 56 #[.val (.ref b), .val (.int x9)] [(.ref b69), (.ref b69), (.ref b65), (.ref b65)]))
        refine own_goW (fun _ ww => XS.iconst X75.here hx rfl (hb hby d2_56) ww) ?_
        show own_GoesW _ _ _ _ _ _ _ (T75.setTop (mkF m 57 #[.val (.ref b), .val (.int x9)] [(.int (1 : Int32)), (.ref b69), (.ref b69), (.ref b65), (.ref b65)]))
        refine own_goW (fun _ ww => XS.aloadN X75.here hx rfl (hb hby d2_57) rfl rfl ww) ?_
        show own_GoesW _ _ _ _ _ _ _ (T75.setTop (mkF m 58 #[.val (.ref b), .val (.int x9)] [(.ref b), (.int (1 : Int32)), (.ref b69), (.ref b69), (.ref b65), (.ref b65)]))
        refine own_goW (fun _ ww => XS.iconst X75.here hx rfl (hb hby d2_58) ww) ?_
        show own_GoesW _ _ _ _ _ _ _ (T75.setTop (mkF m 59 #[.val (.ref b), .val (.int x9)] [(.int (1 : Int32)), (.ref b), (.int (1 : Int32)), (.ref b69), (.ref b69), (.ref b65), (.ref b65)]))
        obtain ⟨cl81, Ar81, -, S81, -, H81, -⟩ := id f76
        have hin81 := inb_of (j := (1 : Int32)) S81 ⟨by decide, by decide⟩
        have hat81 : cl81.slots[((1 : Int32)).toNatClampNeg]? = some (.int c1) := Has.at H81 hin81 rfl
        refine own_goW (fun _ ww => X75.caload hx (j := (1 : Int32)) (v := (.int c1)) (by rw [e75]; exact Ar81.1) (State.isArrayOf_alike hZ.alike Ar81.2.1) Ar81.2.2 hin81 hat81 (g := (mkF m 59 #[.val (.ref b), .val (.int x9)] [(.int (1 : Int32)), (.ref b), (.int (1 : Int32)), (.ref b69), (.ref b69), (.ref b65), (.ref b65)])) rfl rfl (hb hby d2_59) _ ww) ?_
        show own_GoesW _ _ _ _ _ _ _ (T75.setTop (mkF m 60 #[.val (.ref b), .val (.int x9)] [(.int c1), (.int (1 : Int32)), (.ref b69), (.ref b69), (.ref b65), (.ref b65)]))
        obtain ⟨cl82, Ar82, q82, S82, M82, H82, U82⟩ := id f80
        obtain ⟨T82, h82, X82, e82, W82, st82⟩ := stC X75 hx hZ e75 Ar82 (j := (1 : Int32)) (inb_of S82 ⟨by decide, by decide⟩) (g := (mkF m 60 #[.val (.ref b), .val (.int x9)] [(.int c1), (.int (1 : Int32)), (.ref b69), (.ref b69), (.ref b65), (.ref b65)])) rfl rfl (hb hby d2_60)
        have nr82 : nar .char c1 = c1 := (own_narc bc1)
        rw [nr82] at W82
        have ft82 : fits .char (.int c1) = true := by have q := fits_nar_char c1; rw [nr82] at q; exact q
        have f83 : Arv Z h82 b kc .char (8 : Int32) [(.int c0), (.int c1), (.int c2), (.int c3), (.int c4), (.int c5), (.int c6), (.int c7)] (.int (0 : Int32)) := (f76.other W82 ne_b_b69)
        have f84 : Fld Z h82 b65 "java/lang/String" "value" "[B" .null := (f77.other W82 (Or.inl ne_b65_b69))
        have f85 : Fld Z h82 b65 "java/lang/String" "coder" "B" (.int (0 : Int32)) := (f78.other W82 (Or.inl ne_b65_b69))
        have f86 : Exa Z h82 b65 "java/lang/String" := (f79.wr W82)
        have f87 : Arv Z h82 b69 k69 .char (2 : Int32) [(.int c0), (.int c1)] (.int (0 : Int32)) := (Arv.set Ar82 q82 S82 M82 H82 U82 ft82 W82 1 rfl (Nat.le_of_ble_eq_true rfl))
        have hk := Nat.le_trans hk (Keep.of_wr W82).1
        have N82 := Fr.snoc X82 N75 g_b69
        have O82 := O75.wr W82 g_b69
        have K82 := K75.wr W82 (Or.inr sz_b69)
        refine own_goW st82 ?_
        show own_GoesW _ _ _ _ _ _ _ (T82.setTop (mkF m 61 #[.val (.ref b), .val (.int x9)] [(.ref b69), (.ref b65), (.ref b65)]))
        have hp_b65 : ∀ c ∈ ([c0, c1] : List Int32), ¬ c < 0 ∧ ¬ (255 : Int32) < c := (own_allc bc0 (own_allc bc1 (fun _ q => nomatch q)))
        obtain ⟨_, _, ⟨T88, L88, k88, n88⟩, -, X88, ⟨Lc88, hQ88, l88, y88, z88⟩, st88⟩ := X82.specialBack hx (y := (⟨"java/lang/String", "<init>", "([C)V"⟩ : MethodName)) rfl hown (mvT hZ (hw _ (List.mem_of_getElem? (i := 16) rfl))) (mvT hZ (hw _ (List.mem_of_getElem? (i := 17) rfl))) (mvT hZ (hw _ (List.mem_of_getElem? (i := 18) rfl))) (by decide) (StrChars.Road.backV (W := 1) hZ (own_words hw) (kI := 4) (hw _ (List.mem_of_getElem? (i := 14) rfl)) (cs := ([c0, c1] : List Int32)) (bs := (([c0, c1] : List Int32)).map (fun c => c.toInt8.toInt32)) (n := 2) g_b65 (own_ns O82) f86 f84 f85 f87 (SC.ext O82.2) hzc rfl rfl (by decide) (by decide) hp_b65 rfl (by decide) (by decide)) (g := (mkF m 61 #[.val (.ref b), .val (.int x9)] [(.ref b69), (.ref b65), (.ref b65)])) rfl (by rw [hml]; rfl) (Steps.refl _) (a := b65) (argsL := [(.ref b69)]) (rest := [(.ref b65)]) (lenOf pd_1 rfl) rfl (by show 2 * 0 + _ ≤ _; exact Nat.le_of_eq rfl) (hb hby d2_61) (fun _ _ => ⟨rfl, e82, (by decide : 2 + 1 ≤ _), (by decide : 6 + 2 ≤ _)⟩)
        dsimp only [Pt.U, Pt.locs, Pt.cells, Pt.slots] at X88 l88 y88 z88 st88 hQ88
        subst l88 y88 z88
        obtain ⟨rfl, N88q, K88q, E88q, C88q, t88, kb88, -, G88q, -, V88q, A88q⟩ := hQ88
        have N88 := Fr.app N82 N88q
        have hk := Nat.le_trans hk (own_ks K88q)
        have ne_b_t88 : b ≠ t88 := Nat.ne_of_lt (Nat.lt_of_lt_of_le f83.lt G88q)
        have ne_b65_t88 : b65 ≠ t88 := Nat.ne_of_lt (Nat.lt_of_lt_of_le f84.lt G88q)
        have ne_b69_t88 : b69 ≠ t88 := Nat.ne_of_lt (Nat.lt_of_lt_of_le f87.lt G88q)
        have g_t88 : n0 ≤ t88 := Nat.le_trans (O82.1 ▸ O82.2.1) G88q
        have sz_t88 : h0.size ≤ t88 := Nat.le_trans (own_ks K82) G88q
        have f89 : Arv Z T88.heap b kc .char (8 : Int32) [(.int c0), (.int c1), (.int c2), (.int c3), (.int c4), (.int c5), (.int c6), (.int c7)] (.int (0 : Int32)) := (f83.keep K88q (ninS ne_b_b65 nin0))
        have f90 : Exa Z T88.heap b65 "java/lang/String" := (f86.keep K88q)
        have f91 : Arv Z T88.heap b69 k69 .char (2 : Int32) [(.int c0), (.int c1)] (.int (0 : Int32)) := (f87.keep K88q (ninS (Ne.symm ne_b65_b69) nin0))
        have O88 := O82.keep K88q (allS g_b65 all0)
        have K88 := K82.trans K88q (allS (Or.inr sz_b65) all0)
        refine own_goW (fun _ ww => Steps.trans st88 ww) ?_
        show own_GoesW _ _ _ _ _ _ _ (T88.setTop (mkF m 64 #[.val (.ref b), .val (.int x9)] [(.ref b65)]))
        exact own_outW X88 hS hk hlk (v := some (.ref b65)) (fun h => by rw [hret] at h; cases h) (fun fs hr => retOut X88 hx (t := (.object "java/lang/String")) hret rfl (Or.inr (Or.inr (Or.inr (Or.inr ⟨rfl, rfl, rfl⟩)))) (hb hby d2_64) hr) rfl ⟨b65, t88, kb88, ([c0, c1] : List Int32), (2 : Int32), [(.int (c0).toInt8.toInt32), (.int (c1).toInt8.toInt32)], rfl, N88, K88, f90, C88q, V88q, A88q, (StrChars.Road.codOf (cs := ([c0, c1] : List Int32)) (n := 2) rfl (fun c hc => (hp_b65 c hc).2)), (own_up hp_b65), (Nat.le_of_ble_eq_true rfl), (own_IBm (own_IBw X88.warmed hI))⟩ (by decide) (by decide)
      ·
        refine own_goW (fun _ ww => XS.icmpYes X0.here hx rfl (pc0 := 39) (pc' := 65) rfl (hb hby d2_39) rfl (feq hc64).2 (by decide) (by decide) ww) ?_
        show own_GoesW _ _ _ _ _ _ _ (s₁.setTop (mkF m 65 #[.val (.ref b), .val (.int x9)] []))
        refine own_goW (fun _ ww => XS.iloadN X0.here hx rfl (hb hby d2_65) rfl  ww) ?_
        show own_GoesW _ _ _ _ _ _ _ (s₁.setTop (mkF m 66 #[.val (.ref b), .val (.int x9)] [(.int x9)]))
        refine own_goW (fun _ ww => XS.iconst X0.here hx rfl (hb hby d2_66) ww) ?_
        show own_GoesW _ _ _ _ _ _ _ (s₁.setTop (mkF m 67 #[.val (.ref b), .val (.int x9)] [(.int (3 : Int32)), (.int x9)]))
        by_cases hc92 : x9 = (3 : Int32)
        ·
          refine own_goW (fun _ ww => XS.icmpNo X0.here hx rfl (hb hby d2_67) rfl (teq hc92).2 ww) ?_
          show own_GoesW _ _ _ _ _ _ _ (s₁.setTop (mkF m 70 #[.val (.ref b), .val (.int x9)] []))
          obtain ⟨T93, h93, X93, e93, E93, A93, D93, -, st93⟩ := newO X0 hx hZ hown (hw _ (List.mem_of_getElem? (i := 13) rfl)) (hw _ (List.mem_of_getElem? (i := 14) rfl)) (hw _ (List.mem_of_getElem? (i := 15) rfl)) e0 (g := (mkF m 70 #[.val (.ref b), .val (.int x9)] [])) rfl (hb hby d2_70) (by decide) (by decide)
          obtain ⟨b93, g93⟩ : ∃ z, z = h0.size := ⟨_, rfl⟩
          rw [← g93] at A93 D93 st93
          have ne_b_b93 : b ≠ b93 := Nat.ne_of_lt (Nat.lt_of_lt_of_le Vb.lt (Nat.le_of_eq g93.symm))
          have g_b93 : n0 ≤ b93 := Nat.le_trans (O0.1 ▸ O0.2.1) (Nat.le_of_eq g93.symm)
          have f94 : Arv Z h93 b kc .char (8 : Int32) [(.int c0), (.int c1), (.int c2), (.int c3), (.int c4), (.int c5), (.int c6), (.int c7)] (.int (0 : Int32)) := (Arv.ext Vb E93)
          have O93 := O0.ext E93
          have hk := Nat.le_trans hk E93.1
          have sz_b93 : h0.size ≤ b93 := Nat.le_trans (own_ks (Keep.refl h0 [])) (Nat.le_of_eq g93.symm)
          have K93 := (Keep.refl h0 []).ext E93
          have f95 : Fld Z h93 b93 "java/lang/String" "value" "[B" .null := D93 (Or.inr (hw _ (List.mem_of_getElem? (i := 28) rfl))) (ty := (.array .byte)) (by decide)
          have f96 : Fld Z h93 b93 "java/lang/String" "coder" "B" (.int (0 : Int32)) := D93 (Or.inr (hw _ (List.mem_of_getElem? (i := 29) rfl))) (ty := .byte) (by decide)
          refine own_goW st93 ?_
          show own_GoesW _ _ _ _ _ _ _ (T93.setTop (mkF m 73 #[.val (.ref b), .val (.int x9)] [(.ref b93)]))
          refine own_goW (fun _ ww => XS.dup X93.here hx rfl (hb hby d2_73) rfl rfl ww) ?_
          show own_GoesW _ _ _ _ _ _ _ (T93.setTop (mkF m 74 #[.val (.ref b), .val (.int x9)] [(.ref b93), (.ref b93)]))
          refine own_goW (fun _ ww => XS.iconst X93.here hx rfl (hb hby d2_74) ww) ?_
          show own_GoesW _ _ _ _ _ _ _ (T93.setTop (mkF m 75 #[.val (.ref b), .val (.int x9)] [(.int (3 : Int32)), (.ref b93), (.ref b93)]))
          obtain ⟨T97, h97, k97, X97, e97, E97, A97, st97⟩ := newP X93 hx hZ (hw _ (List.mem_of_getElem? (i := 4) rfl)) e93 (g := (mkF m 75 #[.val (.ref b), .val (.int x9)] [(.int (3 : Int32)), (.ref b93), (.ref b93)])) rfl (hb hby d2_75) rfl (by decide) (cap := 3) (by decide) (by decide) (by decide) (by decide)
          obtain ⟨b97, g97⟩ : ∃ z, z = h93.size := ⟨_, rfl⟩
          rw [← g97] at A97 st97
          have ne_b_b97 : b ≠ b97 := Nat.ne_of_lt (Nat.lt_of_lt_of_le f94.lt (Nat.le_of_eq g97.symm))
          have ne_b93_b97 : b93 ≠ b97 := Nat.ne_of_lt (Nat.lt_of_lt_of_le f95.lt (Nat.le_of_eq g97.symm))
          have g_b97 : n0 ≤ b97 := Nat.le_trans (O93.1 ▸ O93.2.1) (Nat.le_of_eq g97.symm)
          have f98 : Arv Z h97 b kc .char (8 : Int32) [(.int c0), (.int c1), (.int c2), (.int c3), (.int c4), (.int c5), (.int c6), (.int c7)] (.int (0 : Int32)) := (Arv.ext f94 E97)
          have f99 : Fld Z h97 b93 "java/lang/String" "value" "[B" .null := (f95.ext E97)
          have f100 : Fld Z h97 b93 "java/lang/String" "coder" "B" (.int (0 : Int32)) := (f96.ext E97)
          have f101 : Exa Z h97 b93 "java/lang/String" := (A93.ext E97)
          have O97 := O93.ext E97
          have hk := Nat.le_trans hk E97.1
          have sz_b97 : h0.size ≤ b97 := Nat.le_trans (own_ks K93) (Nat.le_of_eq g97.symm)
          have K97 := K93.ext E97
          have V97 : Arv Z h97 b97 k97 .char (3 : Int32) [(.int (0 : Int32)), (.int (0 : Int32)), (.int (0 : Int32))] (.int (0 : Int32)) := (Arv.new A97 (by decide)).pad (pad_rep [] (.int (0 : Int32)) 3)
          refine own_goW st97 ?_
          show own_GoesW _ _ _ _ _ _ _ (T97.setTop (mkF m 77 #[.val (.ref b), .val (.int x9)] [(.ref b97), (.ref b93), (.ref b93)]))
          refine own_goW (fun _ ww => XS.dup X97.here hx rfl (hb hby d2_77) rfl rfl ww) ?_
          show own_GoesW _ _ _ _ _ _ _ (T97.setTop (mkF m 78 #[.val (.ref b), .val (.int x9)] [(.ref b97), (.ref b97), (.ref b93), (.ref b93)]))
          refine own_goW (fun _ ww => XS.iconst X97.here hx rfl (hb hby d2_78) ww) ?_
          show own_GoesW _ _ _ _ _ _ _ (T97.setTop (mkF m 79 #[.val (.ref b), .val (.int x9)] [(.int (0 : Int32)), (.ref b97), (.ref b97), (.ref b93), (.ref b93)]))
          refine own_goW (fun _ ww => XS.aloadN X97.here hx rfl (hb hby d2_79) rfl rfl ww) ?_
          show own_GoesW _ _ _ _ _ _ _ (T97.setTop (mkF m 80 #[.val (.ref b), .val (.int x9)] [(.ref b), (.int (0 : Int32)), (.ref b97), (.ref b97), (.ref b93), (.ref b93)]))
          refine own_goW (fun _ ww => XS.iconst X97.here hx rfl (hb hby d2_80) ww) ?_
          show own_GoesW _ _ _ _ _ _ _ (T97.setTop (mkF m 81 #[.val (.ref b), .val (.int x9)] [(.int (0 : Int32)), (.ref b), (.int (0 : Int32)), (.ref b97), (.ref b97), (.ref b93), (.ref b93)]))
          obtain ⟨cl102, Ar102, -, S102, -, H102, -⟩ := id f98
          have hin102 := inb_of (j := (0 : Int32)) S102 ⟨by decide, by decide⟩
          have hat102 : cl102.slots[((0 : Int32)).toNatClampNeg]? = some (.int c0) := Has.at H102 hin102 rfl
          refine own_goW (fun _ ww => X97.caload hx (j := (0 : Int32)) (v := (.int c0)) (by rw [e97]; exact Ar102.1) (State.isArrayOf_alike hZ.alike Ar102.2.1) Ar102.2.2 hin102 hat102 (g := (mkF m 81 #[.val (.ref b), .val (.int x9)] [(.int (0 : Int32)), (.ref b), (.int (0 : Int32)), (.ref b97), (.ref b97), (.ref b93), (.ref b93)])) rfl rfl (hb hby d2_81) _ ww) ?_
          show own_GoesW _ _ _ _ _ _ _ (T97.setTop (mkF m 82 #[.val (.ref b), .val (.int x9)] [(.int c0), (.int (0 : Int32)), (.ref b97), (.ref b97), (.ref b93), (.ref b93)]))
          obtain ⟨cl103, Ar103, q103, S103, M103, H103, U103⟩ := id V97
          obtain ⟨T103, h103, X103, e103, W103, st103⟩ := stC X97 hx hZ e97 Ar103 (j := (0 : Int32)) (inb_of S103 ⟨by decide, by decide⟩) (g := (mkF m 82 #[.val (.ref b), .val (.int x9)] [(.int c0), (.int (0 : Int32)), (.ref b97), (.ref b97), (.ref b93), (.ref b93)])) rfl rfl (hb hby d2_82)
          have nr103 : nar .char c0 = c0 := (own_narc bc0)
          rw [nr103] at W103
          have ft103 : fits .char (.int c0) = true := by have q := fits_nar_char c0; rw [nr103] at q; exact q
          have f104 : Arv Z h103 b kc .char (8 : Int32) [(.int c0), (.int c1), (.int c2), (.int c3), (.int c4), (.int c5), (.int c6), (.int c7)] (.int (0 : Int32)) := (f98.other W103 ne_b_b97)
          have f105 : Fld Z h103 b93 "java/lang/String" "value" "[B" .null := (f99.other W103 (Or.inl ne_b93_b97))
          have f106 : Fld Z h103 b93 "java/lang/String" "coder" "B" (.int (0 : Int32)) := (f100.other W103 (Or.inl ne_b93_b97))
          have f107 : Exa Z h103 b93 "java/lang/String" := (f101.wr W103)
          have f108 : Arv Z h103 b97 k97 .char (3 : Int32) [(.int c0), (.int (0 : Int32)), (.int (0 : Int32))] (.int (0 : Int32)) := (Arv.set Ar103 q103 S103 M103 H103 U103 ft103 W103 0 rfl (Nat.le_of_ble_eq_true rfl))
          have hk := Nat.le_trans hk (Keep.of_wr W103).1
          have N103 := Fr.snoc X103 N0 g_b97
          have O103 := O97.wr W103 g_b97
          have K103 := K97.wr W103 (Or.inr sz_b97)
          refine own_goW st103 ?_
          show own_GoesW _ _ _ _ _ _ _ (T103.setTop (mkF m 83 #[.val (.ref b), .val (.int x9)] [(.ref b97), (.ref b93), (.ref b93)]))
          refine own_goW (fun _ ww => XS.dup X103.here hx rfl (hb hby d2_83) rfl rfl ww) ?_
          show own_GoesW _ _ _ _ _ _ _ (T103.setTop (mkF m 84 #[.val (.ref b), .val (.int x9)] [(.ref b97), (.ref b97), (.ref b93), (.ref b93)]))
          refine own_goW (fun _ ww => XS.iconst X103.here hx rfl (hb hby d2_84) ww) ?_
          show own_GoesW _ _ _ _ _ _ _ (T103.setTop (mkF m 85 #[.val (.ref b), .val (.int x9)] [(.int (1 : Int32)), (.ref b97), (.ref b97), (.ref b93), (.ref b93)]))
          refine own_goW (fun _ ww => XS.aloadN X103.here hx rfl (hb hby d2_85) rfl rfl ww) ?_
          show own_GoesW _ _ _ _ _ _ _ (T103.setTop (mkF m 86 #[.val (.ref b), .val (.int x9)] [(.ref b), (.int (1 : Int32)), (.ref b97), (.ref b97), (.ref b93), (.ref b93)]))
          refine own_goW (fun _ ww => XS.iconst X103.here hx rfl (hb hby d2_86) ww) ?_
          show own_GoesW _ _ _ _ _ _ _ (T103.setTop (mkF m 87 #[.val (.ref b), .val (.int x9)] [(.int (1 : Int32)), (.ref b), (.int (1 : Int32)), (.ref b97), (.ref b97), (.ref b93), (.ref b93)]))
          obtain ⟨cl109, Ar109, -, S109, -, H109, -⟩ := id f104
          have hin109 := inb_of (j := (1 : Int32)) S109 ⟨by decide, by decide⟩
          have hat109 : cl109.slots[((1 : Int32)).toNatClampNeg]? = some (.int c1) := Has.at H109 hin109 rfl
          refine own_goW (fun _ ww => X103.caload hx (j := (1 : Int32)) (v := (.int c1)) (by rw [e103]; exact Ar109.1) (State.isArrayOf_alike hZ.alike Ar109.2.1) Ar109.2.2 hin109 hat109 (g := (mkF m 87 #[.val (.ref b), .val (.int x9)] [(.int (1 : Int32)), (.ref b), (.int (1 : Int32)), (.ref b97), (.ref b97), (.ref b93), (.ref b93)])) rfl rfl (hb hby d2_87) _ ww) ?_
          show own_GoesW _ _ _ _ _ _ _ (T103.setTop (mkF m 88 #[.val (.ref b), .val (.int x9)] [(.int c1), (.int (1 : Int32)), (.ref b97), (.ref b97), (.ref b93), (.ref b93)]))
          obtain ⟨cl110, Ar110, q110, S110, M110, H110, U110⟩ := id f108
          obtain ⟨T110, h110, X110, e110, W110, st110⟩ := stC X103 hx hZ e103 Ar110 (j := (1 : Int32)) (inb_of S110 ⟨by decide, by decide⟩) (g := (mkF m 88 #[.val (.ref b), .val (.int x9)] [(.int c1), (.int (1 : Int32)), (.ref b97), (.ref b97), (.ref b93), (.ref b93)])) rfl rfl (hb hby d2_88)
          have nr110 : nar .char c1 = c1 := (own_narc bc1)
          rw [nr110] at W110
          have ft110 : fits .char (.int c1) = true := by have q := fits_nar_char c1; rw [nr110] at q; exact q
          have f111 : Arv Z h110 b kc .char (8 : Int32) [(.int c0), (.int c1), (.int c2), (.int c3), (.int c4), (.int c5), (.int c6), (.int c7)] (.int (0 : Int32)) := (f104.other W110 ne_b_b97)
          have f112 : Fld Z h110 b93 "java/lang/String" "value" "[B" .null := (f105.other W110 (Or.inl ne_b93_b97))
          have f113 : Fld Z h110 b93 "java/lang/String" "coder" "B" (.int (0 : Int32)) := (f106.other W110 (Or.inl ne_b93_b97))
          have f114 : Exa Z h110 b93 "java/lang/String" := (f107.wr W110)
          have f115 : Arv Z h110 b97 k97 .char (3 : Int32) [(.int c0), (.int c1), (.int (0 : Int32))] (.int (0 : Int32)) := (Arv.set Ar110 q110 S110 M110 H110 U110 ft110 W110 1 rfl (Nat.le_of_ble_eq_true rfl))
          have hk := Nat.le_trans hk (Keep.of_wr W110).1
          have N110 := Fr.snoc X110 N103 g_b97
          have O110 := O103.wr W110 g_b97
          have K110 := K103.wr W110 (Or.inr sz_b97)
          refine own_goW st110 ?_
          show own_GoesW _ _ _ _ _ _ _ (T110.setTop (mkF m 89 #[.val (.ref b), .val (.int x9)] [(.ref b97), (.ref b93), (.ref b93)]))
          refine own_goW (fun _ ww => XS.dup X110.here hx rfl (hb hby d2_89) rfl rfl ww) ?_
          show own_GoesW _ _ _ _ _ _ _ (T110.setTop (mkF m 90 #[.val (.ref b), .val (.int x9)] [(.ref b97), (.ref b97), (.ref b93), (.ref b93)]))
          refine own_goW (fun _ ww => XS.iconst X110.here hx rfl (hb hby d2_90) ww) ?_
          show own_GoesW _ _ _ _ _ _ _ (T110.setTop (mkF m 91 #[.val (.ref b), .val (.int x9)] [(.int (2 : Int32)), (.ref b97), (.ref b97), (.ref b93), (.ref b93)]))
          refine own_goW (fun _ ww => XS.aloadN X110.here hx rfl (hb hby d2_91) rfl rfl ww) ?_
          show own_GoesW _ _ _ _ _ _ _ (T110.setTop (mkF m 92 #[.val (.ref b), .val (.int x9)] [(.ref b), (.int (2 : Int32)), (.ref b97), (.ref b97), (.ref b93), (.ref b93)]))
          refine own_goW (fun _ ww => XS.iconst X110.here hx rfl (hb hby d2_92) ww) ?_
          show own_GoesW _ _ _ _ _ _ _ (T110.setTop (mkF m 93 #[.val (.ref b), .val (.int x9)] [(.int (2 : Int32)), (.ref b), (.int (2 : Int32)), (.ref b97), (.ref b97), (.ref b93), (.ref b93)]))
          obtain ⟨cl116, Ar116, -, S116, -, H116, -⟩ := id f111
          have hin116 := inb_of (j := (2 : Int32)) S116 ⟨by decide, by decide⟩
          have hat116 : cl116.slots[((2 : Int32)).toNatClampNeg]? = some (.int c2) := Has.at H116 hin116 rfl
          refine own_goW (fun _ ww => X110.caload hx (j := (2 : Int32)) (v := (.int c2)) (by rw [e110]; exact Ar116.1) (State.isArrayOf_alike hZ.alike Ar116.2.1) Ar116.2.2 hin116 hat116 (g := (mkF m 93 #[.val (.ref b), .val (.int x9)] [(.int (2 : Int32)), (.ref b), (.int (2 : Int32)), (.ref b97), (.ref b97), (.ref b93), (.ref b93)])) rfl rfl (hb hby d2_93) _ ww) ?_
          show own_GoesW _ _ _ _ _ _ _ (T110.setTop (mkF m 94 #[.val (.ref b), .val (.int x9)] [(.int c2), (.int (2 : Int32)), (.ref b97), (.ref b97), (.ref b93), (.ref b93)]))
          obtain ⟨cl117, Ar117, q117, S117, M117, H117, U117⟩ := id f115
          obtain ⟨T117, h117, X117, e117, W117, st117⟩ := stC X110 hx hZ e110 Ar117 (j := (2 : Int32)) (inb_of S117 ⟨by decide, by decide⟩) (g := (mkF m 94 #[.val (.ref b), .val (.int x9)] [(.int c2), (.int (2 : Int32)), (.ref b97), (.ref b97), (.ref b93), (.ref b93)])) rfl rfl (hb hby d2_94)
          have nr117 : nar .char c2 = c2 := (own_narc bc2)
          rw [nr117] at W117
          have ft117 : fits .char (.int c2) = true := by have q := fits_nar_char c2; rw [nr117] at q; exact q
          have f118 : Arv Z h117 b kc .char (8 : Int32) [(.int c0), (.int c1), (.int c2), (.int c3), (.int c4), (.int c5), (.int c6), (.int c7)] (.int (0 : Int32)) := (f111.other W117 ne_b_b97)
          have f119 : Fld Z h117 b93 "java/lang/String" "value" "[B" .null := (f112.other W117 (Or.inl ne_b93_b97))
          have f120 : Fld Z h117 b93 "java/lang/String" "coder" "B" (.int (0 : Int32)) := (f113.other W117 (Or.inl ne_b93_b97))
          have f121 : Exa Z h117 b93 "java/lang/String" := (f114.wr W117)
          have f122 : Arv Z h117 b97 k97 .char (3 : Int32) [(.int c0), (.int c1), (.int c2)] (.int (0 : Int32)) := (Arv.set Ar117 q117 S117 M117 H117 U117 ft117 W117 2 rfl (Nat.le_of_ble_eq_true rfl))
          have hk := Nat.le_trans hk (Keep.of_wr W117).1
          have N117 := Fr.snoc X117 N110 g_b97
          have O117 := O110.wr W117 g_b97
          have K117 := K110.wr W117 (Or.inr sz_b97)
          refine own_goW st117 ?_
          show own_GoesW _ _ _ _ _ _ _ (T117.setTop (mkF m 95 #[.val (.ref b), .val (.int x9)] [(.ref b97), (.ref b93), (.ref b93)]))
          have hp_b93 : ∀ c ∈ ([c0, c1, c2] : List Int32), ¬ c < 0 ∧ ¬ (255 : Int32) < c := (own_allc bc0 (own_allc bc1 (own_allc bc2 (fun _ q => nomatch q))))
          obtain ⟨_, _, ⟨T123, L123, k123, n123⟩, -, X123, ⟨Lc123, hQ123, l123, y123, z123⟩, st123⟩ := X117.specialBack hx (y := (⟨"java/lang/String", "<init>", "([C)V"⟩ : MethodName)) rfl hown (mvT hZ (hw _ (List.mem_of_getElem? (i := 16) rfl))) (mvT hZ (hw _ (List.mem_of_getElem? (i := 17) rfl))) (mvT hZ (hw _ (List.mem_of_getElem? (i := 18) rfl))) (by decide) (StrChars.Road.backV (W := 1) hZ (own_words hw) (kI := 4) (hw _ (List.mem_of_getElem? (i := 14) rfl)) (cs := ([c0, c1, c2] : List Int32)) (bs := (([c0, c1, c2] : List Int32)).map (fun c => c.toInt8.toInt32)) (n := 3) g_b93 (own_ns O117) f121 f119 f120 f122 (SC.ext O117.2) hzc rfl rfl (by decide) (by decide) hp_b93 rfl (by decide) (by decide)) (g := (mkF m 95 #[.val (.ref b), .val (.int x9)] [(.ref b97), (.ref b93), (.ref b93)])) rfl (by rw [hml]; rfl) (Steps.refl _) (a := b93) (argsL := [(.ref b97)]) (rest := [(.ref b93)]) (lenOf pd_1 rfl) rfl (by show 2 * 0 + _ ≤ _; exact Nat.le_of_eq rfl) (hb hby d2_95) (fun _ _ => ⟨rfl, e117, (by decide : 2 + 1 ≤ _), (by decide : 7 + 3 ≤ _)⟩)
          dsimp only [Pt.U, Pt.locs, Pt.cells, Pt.slots] at X123 l123 y123 z123 st123 hQ123
          subst l123 y123 z123
          obtain ⟨rfl, N123q, K123q, E123q, C123q, t123, kb123, -, G123q, -, V123q, A123q⟩ := hQ123
          have N123 := Fr.app N117 N123q
          have hk := Nat.le_trans hk (own_ks K123q)
          have ne_b_t123 : b ≠ t123 := Nat.ne_of_lt (Nat.lt_of_lt_of_le f118.lt G123q)
          have ne_b93_t123 : b93 ≠ t123 := Nat.ne_of_lt (Nat.lt_of_lt_of_le f119.lt G123q)
          have ne_b97_t123 : b97 ≠ t123 := Nat.ne_of_lt (Nat.lt_of_lt_of_le f122.lt G123q)
          have g_t123 : n0 ≤ t123 := Nat.le_trans (O117.1 ▸ O117.2.1) G123q
          have sz_t123 : h0.size ≤ t123 := Nat.le_trans (own_ks K117) G123q
          have f124 : Arv Z T123.heap b kc .char (8 : Int32) [(.int c0), (.int c1), (.int c2), (.int c3), (.int c4), (.int c5), (.int c6), (.int c7)] (.int (0 : Int32)) := (f118.keep K123q (ninS ne_b_b93 nin0))
          have f125 : Exa Z T123.heap b93 "java/lang/String" := (f121.keep K123q)
          have f126 : Arv Z T123.heap b97 k97 .char (3 : Int32) [(.int c0), (.int c1), (.int c2)] (.int (0 : Int32)) := (f122.keep K123q (ninS (Ne.symm ne_b93_b97) nin0))
          have O123 := O117.keep K123q (allS g_b93 all0)
          have K123 := K117.trans K123q (allS (Or.inr sz_b93) all0)
          refine own_goW (fun _ ww => Steps.trans st123 ww) ?_
          show own_GoesW _ _ _ _ _ _ _ (T123.setTop (mkF m 98 #[.val (.ref b), .val (.int x9)] [(.ref b93)]))
          exact own_outW X123 hS hk hlk (v := some (.ref b93)) (fun h => by rw [hret] at h; cases h) (fun fs hr => retOut X123 hx (t := (.object "java/lang/String")) hret rfl (Or.inr (Or.inr (Or.inr (Or.inr ⟨rfl, rfl, rfl⟩)))) (hb hby d2_98) hr) rfl ⟨b93, t123, kb123, ([c0, c1, c2] : List Int32), (3 : Int32), [(.int (c0).toInt8.toInt32), (.int (c1).toInt8.toInt32), (.int (c2).toInt8.toInt32)], rfl, N123, K123, f125, C123q, V123q, A123q, (StrChars.Road.codOf (cs := ([c0, c1, c2] : List Int32)) (n := 3) rfl (fun c hc => (hp_b93 c hc).2)), (own_up hp_b93), (Nat.le_of_ble_eq_true rfl), (own_IBm (own_IBw X123.warmed hI))⟩ (by decide) (by decide)
        ·
          refine own_goW (fun _ ww => XS.icmpYes X0.here hx rfl (pc0 := 67) (pc' := 99) rfl (hb hby d2_67) rfl (feq hc92).2 (by decide) (by decide) ww) ?_
          show own_GoesW _ _ _ _ _ _ _ (s₁.setTop (mkF m 99 #[.val (.ref b), .val (.int x9)] []))
          refine own_goW (fun _ ww => XS.iloadN X0.here hx rfl (hb hby d2_99) rfl  ww) ?_
          show own_GoesW _ _ _ _ _ _ _ (s₁.setTop (mkF m 100 #[.val (.ref b), .val (.int x9)] [(.int x9)]))
          refine own_goW (fun _ ww => XS.iconst X0.here hx rfl (hb hby d2_100) ww) ?_
          show own_GoesW _ _ _ _ _ _ _ (s₁.setTop (mkF m 101 #[.val (.ref b), .val (.int x9)] [(.int (4 : Int32)), (.int x9)]))
          by_cases hc127 : x9 = (4 : Int32)
          ·
            refine own_goW (fun _ ww => XS.icmpNo X0.here hx rfl (hb hby d2_101) rfl (teq hc127).2 ww) ?_
            show own_GoesW _ _ _ _ _ _ _ (s₁.setTop (mkF m 104 #[.val (.ref b), .val (.int x9)] []))
            obtain ⟨T128, h128, X128, e128, E128, A128, D128, -, st128⟩ := newO X0 hx hZ hown (hw _ (List.mem_of_getElem? (i := 13) rfl)) (hw _ (List.mem_of_getElem? (i := 14) rfl)) (hw _ (List.mem_of_getElem? (i := 15) rfl)) e0 (g := (mkF m 104 #[.val (.ref b), .val (.int x9)] [])) rfl (hb hby d2_104) (by decide) (by decide)
            obtain ⟨b128, g128⟩ : ∃ z, z = h0.size := ⟨_, rfl⟩
            rw [← g128] at A128 D128 st128
            have ne_b_b128 : b ≠ b128 := Nat.ne_of_lt (Nat.lt_of_lt_of_le Vb.lt (Nat.le_of_eq g128.symm))
            have g_b128 : n0 ≤ b128 := Nat.le_trans (O0.1 ▸ O0.2.1) (Nat.le_of_eq g128.symm)
            have f129 : Arv Z h128 b kc .char (8 : Int32) [(.int c0), (.int c1), (.int c2), (.int c3), (.int c4), (.int c5), (.int c6), (.int c7)] (.int (0 : Int32)) := (Arv.ext Vb E128)
            have O128 := O0.ext E128
            have hk := Nat.le_trans hk E128.1
            have sz_b128 : h0.size ≤ b128 := Nat.le_trans (own_ks (Keep.refl h0 [])) (Nat.le_of_eq g128.symm)
            have K128 := (Keep.refl h0 []).ext E128
            have f130 : Fld Z h128 b128 "java/lang/String" "value" "[B" .null := D128 (Or.inr (hw _ (List.mem_of_getElem? (i := 28) rfl))) (ty := (.array .byte)) (by decide)
            have f131 : Fld Z h128 b128 "java/lang/String" "coder" "B" (.int (0 : Int32)) := D128 (Or.inr (hw _ (List.mem_of_getElem? (i := 29) rfl))) (ty := .byte) (by decide)
            refine own_goW st128 ?_
            show own_GoesW _ _ _ _ _ _ _ (T128.setTop (mkF m 107 #[.val (.ref b), .val (.int x9)] [(.ref b128)]))
            refine own_goW (fun _ ww => XS.dup X128.here hx rfl (hb hby d2_107) rfl rfl ww) ?_
            show own_GoesW _ _ _ _ _ _ _ (T128.setTop (mkF m 108 #[.val (.ref b), .val (.int x9)] [(.ref b128), (.ref b128)]))
            refine own_goW (fun _ ww => XS.iconst X128.here hx rfl (hb hby d2_108) ww) ?_
            show own_GoesW _ _ _ _ _ _ _ (T128.setTop (mkF m 109 #[.val (.ref b), .val (.int x9)] [(.int (4 : Int32)), (.ref b128), (.ref b128)]))
            obtain ⟨T132, h132, k132, X132, e132, E132, A132, st132⟩ := newP X128 hx hZ (hw _ (List.mem_of_getElem? (i := 4) rfl)) e128 (g := (mkF m 109 #[.val (.ref b), .val (.int x9)] [(.int (4 : Int32)), (.ref b128), (.ref b128)])) rfl (hb hby d2_109) rfl (by decide) (cap := 4) (by decide) (by decide) (by decide) (by decide)
            obtain ⟨b132, g132⟩ : ∃ z, z = h128.size := ⟨_, rfl⟩
            rw [← g132] at A132 st132
            have ne_b_b132 : b ≠ b132 := Nat.ne_of_lt (Nat.lt_of_lt_of_le f129.lt (Nat.le_of_eq g132.symm))
            have ne_b128_b132 : b128 ≠ b132 := Nat.ne_of_lt (Nat.lt_of_lt_of_le f130.lt (Nat.le_of_eq g132.symm))
            have g_b132 : n0 ≤ b132 := Nat.le_trans (O128.1 ▸ O128.2.1) (Nat.le_of_eq g132.symm)
            have f133 : Arv Z h132 b kc .char (8 : Int32) [(.int c0), (.int c1), (.int c2), (.int c3), (.int c4), (.int c5), (.int c6), (.int c7)] (.int (0 : Int32)) := (Arv.ext f129 E132)
            have f134 : Fld Z h132 b128 "java/lang/String" "value" "[B" .null := (f130.ext E132)
            have f135 : Fld Z h132 b128 "java/lang/String" "coder" "B" (.int (0 : Int32)) := (f131.ext E132)
            have f136 : Exa Z h132 b128 "java/lang/String" := (A128.ext E132)
            have O132 := O128.ext E132
            have hk := Nat.le_trans hk E132.1
            have sz_b132 : h0.size ≤ b132 := Nat.le_trans (own_ks K128) (Nat.le_of_eq g132.symm)
            have K132 := K128.ext E132
            have V132 : Arv Z h132 b132 k132 .char (4 : Int32) [(.int (0 : Int32)), (.int (0 : Int32)), (.int (0 : Int32)), (.int (0 : Int32))] (.int (0 : Int32)) := (Arv.new A132 (by decide)).pad (pad_rep [] (.int (0 : Int32)) 4)
            refine own_goW st132 ?_
            show own_GoesW _ _ _ _ _ _ _ (T132.setTop (mkF m 111 #[.val (.ref b), .val (.int x9)] [(.ref b132), (.ref b128), (.ref b128)]))
            refine own_goW (fun _ ww => XS.dup X132.here hx rfl (hb hby d2_111) rfl rfl ww) ?_
            show own_GoesW _ _ _ _ _ _ _ (T132.setTop (mkF m 112 #[.val (.ref b), .val (.int x9)] [(.ref b132), (.ref b132), (.ref b128), (.ref b128)]))
            refine own_goW (fun _ ww => XS.iconst X132.here hx rfl (hb hby d2_112) ww) ?_
            show own_GoesW _ _ _ _ _ _ _ (T132.setTop (mkF m 113 #[.val (.ref b), .val (.int x9)] [(.int (0 : Int32)), (.ref b132), (.ref b132), (.ref b128), (.ref b128)]))
            refine own_goW (fun _ ww => XS.aloadN X132.here hx rfl (hb hby d2_113) rfl rfl ww) ?_
            show own_GoesW _ _ _ _ _ _ _ (T132.setTop (mkF m 114 #[.val (.ref b), .val (.int x9)] [(.ref b), (.int (0 : Int32)), (.ref b132), (.ref b132), (.ref b128), (.ref b128)]))
            refine own_goW (fun _ ww => XS.iconst X132.here hx rfl (hb hby d2_114) ww) ?_
            show own_GoesW _ _ _ _ _ _ _ (T132.setTop (mkF m 115 #[.val (.ref b), .val (.int x9)] [(.int (0 : Int32)), (.ref b), (.int (0 : Int32)), (.ref b132), (.ref b132), (.ref b128), (.ref b128)]))
            obtain ⟨cl137, Ar137, -, S137, -, H137, -⟩ := id f133
            have hin137 := inb_of (j := (0 : Int32)) S137 ⟨by decide, by decide⟩
            have hat137 : cl137.slots[((0 : Int32)).toNatClampNeg]? = some (.int c0) := Has.at H137 hin137 rfl
            refine own_goW (fun _ ww => X132.caload hx (j := (0 : Int32)) (v := (.int c0)) (by rw [e132]; exact Ar137.1) (State.isArrayOf_alike hZ.alike Ar137.2.1) Ar137.2.2 hin137 hat137 (g := (mkF m 115 #[.val (.ref b), .val (.int x9)] [(.int (0 : Int32)), (.ref b), (.int (0 : Int32)), (.ref b132), (.ref b132), (.ref b128), (.ref b128)])) rfl rfl (hb hby d2_115) _ ww) ?_
            show own_GoesW _ _ _ _ _ _ _ (T132.setTop (mkF m 116 #[.val (.ref b), .val (.int x9)] [(.int c0), (.int (0 : Int32)), (.ref b132), (.ref b132), (.ref b128), (.ref b128)]))
            obtain ⟨cl138, Ar138, q138, S138, M138, H138, U138⟩ := id V132
            obtain ⟨T138, h138, X138, e138, W138, st138⟩ := stC X132 hx hZ e132 Ar138 (j := (0 : Int32)) (inb_of S138 ⟨by decide, by decide⟩) (g := (mkF m 116 #[.val (.ref b), .val (.int x9)] [(.int c0), (.int (0 : Int32)), (.ref b132), (.ref b132), (.ref b128), (.ref b128)])) rfl rfl (hb hby d2_116)
            have nr138 : nar .char c0 = c0 := (own_narc bc0)
            rw [nr138] at W138
            have ft138 : fits .char (.int c0) = true := by have q := fits_nar_char c0; rw [nr138] at q; exact q
            have f139 : Arv Z h138 b kc .char (8 : Int32) [(.int c0), (.int c1), (.int c2), (.int c3), (.int c4), (.int c5), (.int c6), (.int c7)] (.int (0 : Int32)) := (f133.other W138 ne_b_b132)
            have f140 : Fld Z h138 b128 "java/lang/String" "value" "[B" .null := (f134.other W138 (Or.inl ne_b128_b132))
            have f141 : Fld Z h138 b128 "java/lang/String" "coder" "B" (.int (0 : Int32)) := (f135.other W138 (Or.inl ne_b128_b132))
            have f142 : Exa Z h138 b128 "java/lang/String" := (f136.wr W138)
            have f143 : Arv Z h138 b132 k132 .char (4 : Int32) [(.int c0), (.int (0 : Int32)), (.int (0 : Int32)), (.int (0 : Int32))] (.int (0 : Int32)) := (Arv.set Ar138 q138 S138 M138 H138 U138 ft138 W138 0 rfl (Nat.le_of_ble_eq_true rfl))
            have hk := Nat.le_trans hk (Keep.of_wr W138).1
            have N138 := Fr.snoc X138 N0 g_b132
            have O138 := O132.wr W138 g_b132
            have K138 := K132.wr W138 (Or.inr sz_b132)
            refine own_goW st138 ?_
            show own_GoesW _ _ _ _ _ _ _ (T138.setTop (mkF m 117 #[.val (.ref b), .val (.int x9)] [(.ref b132), (.ref b128), (.ref b128)]))
            refine own_goW (fun _ ww => XS.dup X138.here hx rfl (hb hby d2_117) rfl rfl ww) ?_
            show own_GoesW _ _ _ _ _ _ _ (T138.setTop (mkF m 118 #[.val (.ref b), .val (.int x9)] [(.ref b132), (.ref b132), (.ref b128), (.ref b128)]))
            refine own_goW (fun _ ww => XS.iconst X138.here hx rfl (hb hby d2_118) ww) ?_
            show own_GoesW _ _ _ _ _ _ _ (T138.setTop (mkF m 119 #[.val (.ref b), .val (.int x9)] [(.int (1 : Int32)), (.ref b132), (.ref b132), (.ref b128), (.ref b128)]))
            refine own_goW (fun _ ww => XS.aloadN X138.here hx rfl (hb hby d2_119) rfl rfl ww) ?_
            show own_GoesW _ _ _ _ _ _ _ (T138.setTop (mkF m 120 #[.val (.ref b), .val (.int x9)] [(.ref b), (.int (1 : Int32)), (.ref b132), (.ref b132), (.ref b128), (.ref b128)]))
            refine own_goW (fun _ ww => XS.iconst X138.here hx rfl (hb hby d2_120) ww) ?_
            show own_GoesW _ _ _ _ _ _ _ (T138.setTop (mkF m 121 #[.val (.ref b), .val (.int x9)] [(.int (1 : Int32)), (.ref b), (.int (1 : Int32)), (.ref b132), (.ref b132), (.ref b128), (.ref b128)]))
            obtain ⟨cl144, Ar144, -, S144, -, H144, -⟩ := id f139
            have hin144 := inb_of (j := (1 : Int32)) S144 ⟨by decide, by decide⟩
            have hat144 : cl144.slots[((1 : Int32)).toNatClampNeg]? = some (.int c1) := Has.at H144 hin144 rfl
            refine own_goW (fun _ ww => X138.caload hx (j := (1 : Int32)) (v := (.int c1)) (by rw [e138]; exact Ar144.1) (State.isArrayOf_alike hZ.alike Ar144.2.1) Ar144.2.2 hin144 hat144 (g := (mkF m 121 #[.val (.ref b), .val (.int x9)] [(.int (1 : Int32)), (.ref b), (.int (1 : Int32)), (.ref b132), (.ref b132), (.ref b128), (.ref b128)])) rfl rfl (hb hby d2_121) _ ww) ?_
            show own_GoesW _ _ _ _ _ _ _ (T138.setTop (mkF m 122 #[.val (.ref b), .val (.int x9)] [(.int c1), (.int (1 : Int32)), (.ref b132), (.ref b132), (.ref b128), (.ref b128)]))
            obtain ⟨cl145, Ar145, q145, S145, M145, H145, U145⟩ := id f143
            obtain ⟨T145, h145, X145, e145, W145, st145⟩ := stC X138 hx hZ e138 Ar145 (j := (1 : Int32)) (inb_of S145 ⟨by decide, by decide⟩) (g := (mkF m 122 #[.val (.ref b), .val (.int x9)] [(.int c1), (.int (1 : Int32)), (.ref b132), (.ref b132), (.ref b128), (.ref b128)])) rfl rfl (hb hby d2_122)
            have nr145 : nar .char c1 = c1 := (own_narc bc1)
            rw [nr145] at W145
            have ft145 : fits .char (.int c1) = true := by have q := fits_nar_char c1; rw [nr145] at q; exact q
            have f146 : Arv Z h145 b kc .char (8 : Int32) [(.int c0), (.int c1), (.int c2), (.int c3), (.int c4), (.int c5), (.int c6), (.int c7)] (.int (0 : Int32)) := (f139.other W145 ne_b_b132)
            have f147 : Fld Z h145 b128 "java/lang/String" "value" "[B" .null := (f140.other W145 (Or.inl ne_b128_b132))
            have f148 : Fld Z h145 b128 "java/lang/String" "coder" "B" (.int (0 : Int32)) := (f141.other W145 (Or.inl ne_b128_b132))
            have f149 : Exa Z h145 b128 "java/lang/String" := (f142.wr W145)
            have f150 : Arv Z h145 b132 k132 .char (4 : Int32) [(.int c0), (.int c1), (.int (0 : Int32)), (.int (0 : Int32))] (.int (0 : Int32)) := (Arv.set Ar145 q145 S145 M145 H145 U145 ft145 W145 1 rfl (Nat.le_of_ble_eq_true rfl))
            have hk := Nat.le_trans hk (Keep.of_wr W145).1
            have N145 := Fr.snoc X145 N138 g_b132
            have O145 := O138.wr W145 g_b132
            have K145 := K138.wr W145 (Or.inr sz_b132)
            refine own_goW st145 ?_
            show own_GoesW _ _ _ _ _ _ _ (T145.setTop (mkF m 123 #[.val (.ref b), .val (.int x9)] [(.ref b132), (.ref b128), (.ref b128)]))
            refine own_goW (fun _ ww => XS.dup X145.here hx rfl (hb hby d2_123) rfl rfl ww) ?_
            show own_GoesW _ _ _ _ _ _ _ (T145.setTop (mkF m 124 #[.val (.ref b), .val (.int x9)] [(.ref b132), (.ref b132), (.ref b128), (.ref b128)]))
            refine own_goW (fun _ ww => XS.iconst X145.here hx rfl (hb hby d2_124) ww) ?_
            show own_GoesW _ _ _ _ _ _ _ (T145.setTop (mkF m 125 #[.val (.ref b), .val (.int x9)] [(.int (2 : Int32)), (.ref b132), (.ref b132), (.ref b128), (.ref b128)]))
            refine own_goW (fun _ ww => XS.aloadN X145.here hx rfl (hb hby d2_125) rfl rfl ww) ?_
            show own_GoesW _ _ _ _ _ _ _ (T145.setTop (mkF m 126 #[.val (.ref b), .val (.int x9)] [(.ref b), (.int (2 : Int32)), (.ref b132), (.ref b132), (.ref b128), (.ref b128)]))
            refine own_goW (fun _ ww => XS.iconst X145.here hx rfl (hb hby d2_126) ww) ?_
            show own_GoesW _ _ _ _ _ _ _ (T145.setTop (mkF m 127 #[.val (.ref b), .val (.int x9)] [(.int (2 : Int32)), (.ref b), (.int (2 : Int32)), (.ref b132), (.ref b132), (.ref b128), (.ref b128)]))
            obtain ⟨cl151, Ar151, -, S151, -, H151, -⟩ := id f146
            have hin151 := inb_of (j := (2 : Int32)) S151 ⟨by decide, by decide⟩
            have hat151 : cl151.slots[((2 : Int32)).toNatClampNeg]? = some (.int c2) := Has.at H151 hin151 rfl
            refine own_goW (fun _ ww => X145.caload hx (j := (2 : Int32)) (v := (.int c2)) (by rw [e145]; exact Ar151.1) (State.isArrayOf_alike hZ.alike Ar151.2.1) Ar151.2.2 hin151 hat151 (g := (mkF m 127 #[.val (.ref b), .val (.int x9)] [(.int (2 : Int32)), (.ref b), (.int (2 : Int32)), (.ref b132), (.ref b132), (.ref b128), (.ref b128)])) rfl rfl (hb hby d2_127) _ ww) ?_
            show own_GoesW _ _ _ _ _ _ _ (T145.setTop (mkF m 128 #[.val (.ref b), .val (.int x9)] [(.int c2), (.int (2 : Int32)), (.ref b132), (.ref b132), (.ref b128), (.ref b128)]))
            obtain ⟨cl152, Ar152, q152, S152, M152, H152, U152⟩ := id f150
            obtain ⟨T152, h152, X152, e152, W152, st152⟩ := stC X145 hx hZ e145 Ar152 (j := (2 : Int32)) (inb_of S152 ⟨by decide, by decide⟩) (g := (mkF m 128 #[.val (.ref b), .val (.int x9)] [(.int c2), (.int (2 : Int32)), (.ref b132), (.ref b132), (.ref b128), (.ref b128)])) rfl rfl (hb hby d2_128)
            have nr152 : nar .char c2 = c2 := (own_narc bc2)
            rw [nr152] at W152
            have ft152 : fits .char (.int c2) = true := by have q := fits_nar_char c2; rw [nr152] at q; exact q
            have f153 : Arv Z h152 b kc .char (8 : Int32) [(.int c0), (.int c1), (.int c2), (.int c3), (.int c4), (.int c5), (.int c6), (.int c7)] (.int (0 : Int32)) := (f146.other W152 ne_b_b132)
            have f154 : Fld Z h152 b128 "java/lang/String" "value" "[B" .null := (f147.other W152 (Or.inl ne_b128_b132))
            have f155 : Fld Z h152 b128 "java/lang/String" "coder" "B" (.int (0 : Int32)) := (f148.other W152 (Or.inl ne_b128_b132))
            have f156 : Exa Z h152 b128 "java/lang/String" := (f149.wr W152)
            have f157 : Arv Z h152 b132 k132 .char (4 : Int32) [(.int c0), (.int c1), (.int c2), (.int (0 : Int32))] (.int (0 : Int32)) := (Arv.set Ar152 q152 S152 M152 H152 U152 ft152 W152 2 rfl (Nat.le_of_ble_eq_true rfl))
            have hk := Nat.le_trans hk (Keep.of_wr W152).1
            have N152 := Fr.snoc X152 N145 g_b132
            have O152 := O145.wr W152 g_b132
            have K152 := K145.wr W152 (Or.inr sz_b132)
            refine own_goW st152 ?_
            show own_GoesW _ _ _ _ _ _ _ (T152.setTop (mkF m 129 #[.val (.ref b), .val (.int x9)] [(.ref b132), (.ref b128), (.ref b128)]))
            refine own_goW (fun _ ww => XS.dup X152.here hx rfl (hb hby d2_129) rfl rfl ww) ?_
            show own_GoesW _ _ _ _ _ _ _ (T152.setTop (mkF m 130 #[.val (.ref b), .val (.int x9)] [(.ref b132), (.ref b132), (.ref b128), (.ref b128)]))
            refine own_goW (fun _ ww => XS.iconst X152.here hx rfl (hb hby d2_130) ww) ?_
            show own_GoesW _ _ _ _ _ _ _ (T152.setTop (mkF m 131 #[.val (.ref b), .val (.int x9)] [(.int (3 : Int32)), (.ref b132), (.ref b132), (.ref b128), (.ref b128)]))
            refine own_goW (fun _ ww => XS.aloadN X152.here hx rfl (hb hby d2_131) rfl rfl ww) ?_
            show own_GoesW _ _ _ _ _ _ _ (T152.setTop (mkF m 132 #[.val (.ref b), .val (.int x9)] [(.ref b), (.int (3 : Int32)), (.ref b132), (.ref b132), (.ref b128), (.ref b128)]))
            refine own_goW (fun _ ww => XS.iconst X152.here hx rfl (hb hby d2_132) ww) ?_
            show own_GoesW _ _ _ _ _ _ _ (T152.setTop (mkF m 133 #[.val (.ref b), .val (.int x9)] [(.int (3 : Int32)), (.ref b), (.int (3 : Int32)), (.ref b132), (.ref b132), (.ref b128), (.ref b128)]))
            obtain ⟨cl158, Ar158, -, S158, -, H158, -⟩ := id f153
            have hin158 := inb_of (j := (3 : Int32)) S158 ⟨by decide, by decide⟩
            have hat158 : cl158.slots[((3 : Int32)).toNatClampNeg]? = some (.int c3) := Has.at H158 hin158 rfl
            refine own_goW (fun _ ww => X152.caload hx (j := (3 : Int32)) (v := (.int c3)) (by rw [e152]; exact Ar158.1) (State.isArrayOf_alike hZ.alike Ar158.2.1) Ar158.2.2 hin158 hat158 (g := (mkF m 133 #[.val (.ref b), .val (.int x9)] [(.int (3 : Int32)), (.ref b), (.int (3 : Int32)), (.ref b132), (.ref b132), (.ref b128), (.ref b128)])) rfl rfl (hb hby d2_133) _ ww) ?_
            show own_GoesW _ _ _ _ _ _ _ (T152.setTop (mkF m 134 #[.val (.ref b), .val (.int x9)] [(.int c3), (.int (3 : Int32)), (.ref b132), (.ref b132), (.ref b128), (.ref b128)]))
            obtain ⟨cl159, Ar159, q159, S159, M159, H159, U159⟩ := id f157
            obtain ⟨T159, h159, X159, e159, W159, st159⟩ := stC X152 hx hZ e152 Ar159 (j := (3 : Int32)) (inb_of S159 ⟨by decide, by decide⟩) (g := (mkF m 134 #[.val (.ref b), .val (.int x9)] [(.int c3), (.int (3 : Int32)), (.ref b132), (.ref b132), (.ref b128), (.ref b128)])) rfl rfl (hb hby d2_134)
            have nr159 : nar .char c3 = c3 := (own_narc bc3)
            rw [nr159] at W159
            have ft159 : fits .char (.int c3) = true := by have q := fits_nar_char c3; rw [nr159] at q; exact q
            have f160 : Arv Z h159 b kc .char (8 : Int32) [(.int c0), (.int c1), (.int c2), (.int c3), (.int c4), (.int c5), (.int c6), (.int c7)] (.int (0 : Int32)) := (f153.other W159 ne_b_b132)
            have f161 : Fld Z h159 b128 "java/lang/String" "value" "[B" .null := (f154.other W159 (Or.inl ne_b128_b132))
            have f162 : Fld Z h159 b128 "java/lang/String" "coder" "B" (.int (0 : Int32)) := (f155.other W159 (Or.inl ne_b128_b132))
            have f163 : Exa Z h159 b128 "java/lang/String" := (f156.wr W159)
            have f164 : Arv Z h159 b132 k132 .char (4 : Int32) [(.int c0), (.int c1), (.int c2), (.int c3)] (.int (0 : Int32)) := (Arv.set Ar159 q159 S159 M159 H159 U159 ft159 W159 3 rfl (Nat.le_of_ble_eq_true rfl))
            have hk := Nat.le_trans hk (Keep.of_wr W159).1
            have N159 := Fr.snoc X159 N152 g_b132
            have O159 := O152.wr W159 g_b132
            have K159 := K152.wr W159 (Or.inr sz_b132)
            refine own_goW st159 ?_
            show own_GoesW _ _ _ _ _ _ _ (T159.setTop (mkF m 135 #[.val (.ref b), .val (.int x9)] [(.ref b132), (.ref b128), (.ref b128)]))
            have hp_b128 : ∀ c ∈ ([c0, c1, c2, c3] : List Int32), ¬ c < 0 ∧ ¬ (255 : Int32) < c := (own_allc bc0 (own_allc bc1 (own_allc bc2 (own_allc bc3 (fun _ q => nomatch q)))))
            obtain ⟨_, _, ⟨T165, L165, k165, n165⟩, -, X165, ⟨Lc165, hQ165, l165, y165, z165⟩, st165⟩ := X159.specialBack hx (y := (⟨"java/lang/String", "<init>", "([C)V"⟩ : MethodName)) rfl hown (mvT hZ (hw _ (List.mem_of_getElem? (i := 16) rfl))) (mvT hZ (hw _ (List.mem_of_getElem? (i := 17) rfl))) (mvT hZ (hw _ (List.mem_of_getElem? (i := 18) rfl))) (by decide) (StrChars.Road.backV (W := 1) hZ (own_words hw) (kI := 4) (hw _ (List.mem_of_getElem? (i := 14) rfl)) (cs := ([c0, c1, c2, c3] : List Int32)) (bs := (([c0, c1, c2, c3] : List Int32)).map (fun c => c.toInt8.toInt32)) (n := 4) g_b128 (own_ns O159) f163 f161 f162 f164 (SC.ext O159.2) hzc rfl rfl (by decide) (by decide) hp_b128 rfl (by decide) (by decide)) (g := (mkF m 135 #[.val (.ref b), .val (.int x9)] [(.ref b132), (.ref b128), (.ref b128)])) rfl (by rw [hml]; rfl) (Steps.refl _) (a := b128) (argsL := [(.ref b132)]) (rest := [(.ref b128)]) (lenOf pd_1 rfl) rfl (by show 2 * 0 + _ ≤ _; exact Nat.le_of_eq rfl) (hb hby d2_135) (fun _ _ => ⟨rfl, e159, (by decide : 2 + 1 ≤ _), (by decide : 8 + 4 ≤ _)⟩)
            dsimp only [Pt.U, Pt.locs, Pt.cells, Pt.slots] at X165 l165 y165 z165 st165 hQ165
            subst l165 y165 z165
            obtain ⟨rfl, N165q, K165q, E165q, C165q, t165, kb165, -, G165q, -, V165q, A165q⟩ := hQ165
            have N165 := Fr.app N159 N165q
            have hk := Nat.le_trans hk (own_ks K165q)
            have ne_b_t165 : b ≠ t165 := Nat.ne_of_lt (Nat.lt_of_lt_of_le f160.lt G165q)
            have ne_b128_t165 : b128 ≠ t165 := Nat.ne_of_lt (Nat.lt_of_lt_of_le f161.lt G165q)
            have ne_b132_t165 : b132 ≠ t165 := Nat.ne_of_lt (Nat.lt_of_lt_of_le f164.lt G165q)
            have g_t165 : n0 ≤ t165 := Nat.le_trans (O159.1 ▸ O159.2.1) G165q
            have sz_t165 : h0.size ≤ t165 := Nat.le_trans (own_ks K159) G165q
            have f166 : Arv Z T165.heap b kc .char (8 : Int32) [(.int c0), (.int c1), (.int c2), (.int c3), (.int c4), (.int c5), (.int c6), (.int c7)] (.int (0 : Int32)) := (f160.keep K165q (ninS ne_b_b128 nin0))
            have f167 : Exa Z T165.heap b128 "java/lang/String" := (f163.keep K165q)
            have f168 : Arv Z T165.heap b132 k132 .char (4 : Int32) [(.int c0), (.int c1), (.int c2), (.int c3)] (.int (0 : Int32)) := (f164.keep K165q (ninS (Ne.symm ne_b128_b132) nin0))
            have O165 := O159.keep K165q (allS g_b128 all0)
            have K165 := K159.trans K165q (allS (Or.inr sz_b128) all0)
            refine own_goW (fun _ ww => Steps.trans st165 ww) ?_
            show own_GoesW _ _ _ _ _ _ _ (T165.setTop (mkF m 138 #[.val (.ref b), .val (.int x9)] [(.ref b128)]))
            exact own_outW X165 hS hk hlk (v := some (.ref b128)) (fun h => by rw [hret] at h; cases h) (fun fs hr => retOut X165 hx (t := (.object "java/lang/String")) hret rfl (Or.inr (Or.inr (Or.inr (Or.inr ⟨rfl, rfl, rfl⟩)))) (hb hby d2_138) hr) rfl ⟨b128, t165, kb165, ([c0, c1, c2, c3] : List Int32), (4 : Int32), [(.int (c0).toInt8.toInt32), (.int (c1).toInt8.toInt32), (.int (c2).toInt8.toInt32), (.int (c3).toInt8.toInt32)], rfl, N165, K165, f167, C165q, V165q, A165q, (StrChars.Road.codOf (cs := ([c0, c1, c2, c3] : List Int32)) (n := 4) rfl (fun c hc => (hp_b128 c hc).2)), (own_up hp_b128), (Nat.le_of_ble_eq_true rfl), (own_IBm (own_IBw X165.warmed hI))⟩ (by decide) (by decide)
          ·
            refine own_goW (fun _ ww => XS.icmpYes X0.here hx rfl (pc0 := 101) (pc' := 139) rfl (hb hby d2_101) rfl (feq hc127).2 (by decide) (by decide) ww) ?_
            show own_GoesW _ _ _ _ _ _ _ (s₁.setTop (mkF m 139 #[.val (.ref b), .val (.int x9)] []))
            refine own_goW (fun _ ww => XS.iloadN X0.here hx rfl (hb hby d2_139) rfl  ww) ?_
            show own_GoesW _ _ _ _ _ _ _ (s₁.setTop (mkF m 140 #[.val (.ref b), .val (.int x9)] [(.int x9)]))
            refine own_goW (fun _ ww => XS.iconst X0.here hx rfl (hb hby d2_140) ww) ?_
            show own_GoesW _ _ _ _ _ _ _ (s₁.setTop (mkF m 141 #[.val (.ref b), .val (.int x9)] [(.int (5 : Int32)), (.int x9)]))
            by_cases hc169 : x9 = (5 : Int32)
            ·
              refine own_goW (fun _ ww => XS.icmpNo X0.here hx rfl (hb hby d2_141) rfl (teq hc169).2 ww) ?_
              show own_GoesW _ _ _ _ _ _ _ (s₁.setTop (mkF m 144 #[.val (.ref b), .val (.int x9)] []))
              obtain ⟨T170, h170, X170, e170, E170, A170, D170, -, st170⟩ := newO X0 hx hZ hown (hw _ (List.mem_of_getElem? (i := 13) rfl)) (hw _ (List.mem_of_getElem? (i := 14) rfl)) (hw _ (List.mem_of_getElem? (i := 15) rfl)) e0 (g := (mkF m 144 #[.val (.ref b), .val (.int x9)] [])) rfl (hb hby d2_144) (by decide) (by decide)
              obtain ⟨b170, g170⟩ : ∃ z, z = h0.size := ⟨_, rfl⟩
              rw [← g170] at A170 D170 st170
              have ne_b_b170 : b ≠ b170 := Nat.ne_of_lt (Nat.lt_of_lt_of_le Vb.lt (Nat.le_of_eq g170.symm))
              have g_b170 : n0 ≤ b170 := Nat.le_trans (O0.1 ▸ O0.2.1) (Nat.le_of_eq g170.symm)
              have f171 : Arv Z h170 b kc .char (8 : Int32) [(.int c0), (.int c1), (.int c2), (.int c3), (.int c4), (.int c5), (.int c6), (.int c7)] (.int (0 : Int32)) := (Arv.ext Vb E170)
              have O170 := O0.ext E170
              have hk := Nat.le_trans hk E170.1
              have sz_b170 : h0.size ≤ b170 := Nat.le_trans (own_ks (Keep.refl h0 [])) (Nat.le_of_eq g170.symm)
              have K170 := (Keep.refl h0 []).ext E170
              have f172 : Fld Z h170 b170 "java/lang/String" "value" "[B" .null := D170 (Or.inr (hw _ (List.mem_of_getElem? (i := 28) rfl))) (ty := (.array .byte)) (by decide)
              have f173 : Fld Z h170 b170 "java/lang/String" "coder" "B" (.int (0 : Int32)) := D170 (Or.inr (hw _ (List.mem_of_getElem? (i := 29) rfl))) (ty := .byte) (by decide)
              refine own_goW st170 ?_
              show own_GoesW _ _ _ _ _ _ _ (T170.setTop (mkF m 147 #[.val (.ref b), .val (.int x9)] [(.ref b170)]))
              refine own_goW (fun _ ww => XS.dup X170.here hx rfl (hb hby d2_147) rfl rfl ww) ?_
              show own_GoesW _ _ _ _ _ _ _ (T170.setTop (mkF m 148 #[.val (.ref b), .val (.int x9)] [(.ref b170), (.ref b170)]))
              refine own_goW (fun _ ww => XS.iconst X170.here hx rfl (hb hby d2_148) ww) ?_
              show own_GoesW _ _ _ _ _ _ _ (T170.setTop (mkF m 149 #[.val (.ref b), .val (.int x9)] [(.int (5 : Int32)), (.ref b170), (.ref b170)]))
              obtain ⟨T174, h174, k174, X174, e174, E174, A174, st174⟩ := newP X170 hx hZ (hw _ (List.mem_of_getElem? (i := 4) rfl)) e170 (g := (mkF m 149 #[.val (.ref b), .val (.int x9)] [(.int (5 : Int32)), (.ref b170), (.ref b170)])) rfl (hb hby d2_149) rfl (by decide) (cap := 5) (by decide) (by decide) (by decide) (by decide)
              obtain ⟨b174, g174⟩ : ∃ z, z = h170.size := ⟨_, rfl⟩
              rw [← g174] at A174 st174
              have ne_b_b174 : b ≠ b174 := Nat.ne_of_lt (Nat.lt_of_lt_of_le f171.lt (Nat.le_of_eq g174.symm))
              have ne_b170_b174 : b170 ≠ b174 := Nat.ne_of_lt (Nat.lt_of_lt_of_le f172.lt (Nat.le_of_eq g174.symm))
              have g_b174 : n0 ≤ b174 := Nat.le_trans (O170.1 ▸ O170.2.1) (Nat.le_of_eq g174.symm)
              have f175 : Arv Z h174 b kc .char (8 : Int32) [(.int c0), (.int c1), (.int c2), (.int c3), (.int c4), (.int c5), (.int c6), (.int c7)] (.int (0 : Int32)) := (Arv.ext f171 E174)
              have f176 : Fld Z h174 b170 "java/lang/String" "value" "[B" .null := (f172.ext E174)
              have f177 : Fld Z h174 b170 "java/lang/String" "coder" "B" (.int (0 : Int32)) := (f173.ext E174)
              have f178 : Exa Z h174 b170 "java/lang/String" := (A170.ext E174)
              have O174 := O170.ext E174
              have hk := Nat.le_trans hk E174.1
              have sz_b174 : h0.size ≤ b174 := Nat.le_trans (own_ks K170) (Nat.le_of_eq g174.symm)
              have K174 := K170.ext E174
              have V174 : Arv Z h174 b174 k174 .char (5 : Int32) [(.int (0 : Int32)), (.int (0 : Int32)), (.int (0 : Int32)), (.int (0 : Int32)), (.int (0 : Int32))] (.int (0 : Int32)) := (Arv.new A174 (by decide)).pad (pad_rep [] (.int (0 : Int32)) 5)
              refine own_goW st174 ?_
              show own_GoesW _ _ _ _ _ _ _ (T174.setTop (mkF m 151 #[.val (.ref b), .val (.int x9)] [(.ref b174), (.ref b170), (.ref b170)]))
              refine own_goW (fun _ ww => XS.dup X174.here hx rfl (hb hby d2_151) rfl rfl ww) ?_
              show own_GoesW _ _ _ _ _ _ _ (T174.setTop (mkF m 152 #[.val (.ref b), .val (.int x9)] [(.ref b174), (.ref b174), (.ref b170), (.ref b170)]))
              refine own_goW (fun _ ww => XS.iconst X174.here hx rfl (hb hby d2_152) ww) ?_
              show own_GoesW _ _ _ _ _ _ _ (T174.setTop (mkF m 153 #[.val (.ref b), .val (.int x9)] [(.int (0 : Int32)), (.ref b174), (.ref b174), (.ref b170), (.ref b170)]))
              refine own_goW (fun _ ww => XS.aloadN X174.here hx rfl (hb hby d2_153) rfl rfl ww) ?_
              show own_GoesW _ _ _ _ _ _ _ (T174.setTop (mkF m 154 #[.val (.ref b), .val (.int x9)] [(.ref b), (.int (0 : Int32)), (.ref b174), (.ref b174), (.ref b170), (.ref b170)]))
              refine own_goW (fun _ ww => XS.iconst X174.here hx rfl (hb hby d2_154) ww) ?_
              show own_GoesW _ _ _ _ _ _ _ (T174.setTop (mkF m 155 #[.val (.ref b), .val (.int x9)] [(.int (0 : Int32)), (.ref b), (.int (0 : Int32)), (.ref b174), (.ref b174), (.ref b170), (.ref b170)]))
              obtain ⟨cl179, Ar179, -, S179, -, H179, -⟩ := id f175
              have hin179 := inb_of (j := (0 : Int32)) S179 ⟨by decide, by decide⟩
              have hat179 : cl179.slots[((0 : Int32)).toNatClampNeg]? = some (.int c0) := Has.at H179 hin179 rfl
              refine own_goW (fun _ ww => X174.caload hx (j := (0 : Int32)) (v := (.int c0)) (by rw [e174]; exact Ar179.1) (State.isArrayOf_alike hZ.alike Ar179.2.1) Ar179.2.2 hin179 hat179 (g := (mkF m 155 #[.val (.ref b), .val (.int x9)] [(.int (0 : Int32)), (.ref b), (.int (0 : Int32)), (.ref b174), (.ref b174), (.ref b170), (.ref b170)])) rfl rfl (hb hby d2_155) _ ww) ?_
              show own_GoesW _ _ _ _ _ _ _ (T174.setTop (mkF m 156 #[.val (.ref b), .val (.int x9)] [(.int c0), (.int (0 : Int32)), (.ref b174), (.ref b174), (.ref b170), (.ref b170)]))
              obtain ⟨cl180, Ar180, q180, S180, M180, H180, U180⟩ := id V174
              obtain ⟨T180, h180, X180, e180, W180, st180⟩ := stC X174 hx hZ e174 Ar180 (j := (0 : Int32)) (inb_of S180 ⟨by decide, by decide⟩) (g := (mkF m 156 #[.val (.ref b), .val (.int x9)] [(.int c0), (.int (0 : Int32)), (.ref b174), (.ref b174), (.ref b170), (.ref b170)])) rfl rfl (hb hby d2_156)
              have nr180 : nar .char c0 = c0 := (own_narc bc0)
              rw [nr180] at W180
              have ft180 : fits .char (.int c0) = true := by have q := fits_nar_char c0; rw [nr180] at q; exact q
              have f181 : Arv Z h180 b kc .char (8 : Int32) [(.int c0), (.int c1), (.int c2), (.int c3), (.int c4), (.int c5), (.int c6), (.int c7)] (.int (0 : Int32)) := (f175.other W180 ne_b_b174)
              have f182 : Fld Z h180 b170 "java/lang/String" "value" "[B" .null := (f176.other W180 (Or.inl ne_b170_b174))
              have f183 : Fld Z h180 b170 "java/lang/String" "coder" "B" (.int (0 : Int32)) := (f177.other W180 (Or.inl ne_b170_b174))
              have f184 : Exa Z h180 b170 "java/lang/String" := (f178.wr W180)
              have f185 : Arv Z h180 b174 k174 .char (5 : Int32) [(.int c0), (.int (0 : Int32)), (.int (0 : Int32)), (.int (0 : Int32)), (.int (0 : Int32))] (.int (0 : Int32)) := (Arv.set Ar180 q180 S180 M180 H180 U180 ft180 W180 0 rfl (Nat.le_of_ble_eq_true rfl))
              have hk := Nat.le_trans hk (Keep.of_wr W180).1
              have N180 := Fr.snoc X180 N0 g_b174
              have O180 := O174.wr W180 g_b174
              have K180 := K174.wr W180 (Or.inr sz_b174)
              refine own_goW st180 ?_
              show own_GoesW _ _ _ _ _ _ _ (T180.setTop (mkF m 157 #[.val (.ref b), .val (.int x9)] [(.ref b174), (.ref b170), (.ref b170)]))
              refine own_goW (fun _ ww => XS.dup X180.here hx rfl (hb hby d2_157) rfl rfl ww) ?_
              show own_GoesW _ _ _ _ _ _ _ (T180.setTop (mkF m 158 #[.val (.ref b), .val (.int x9)] [(.ref b174), (.ref b174), (.ref b170), (.ref b170)]))
              refine own_goW (fun _ ww => XS.iconst X180.here hx rfl (hb hby d2_158) ww) ?_
              show own_GoesW _ _ _ _ _ _ _ (T180.setTop (mkF m 159 #[.val (.ref b), .val (.int x9)] [(.int (1 : Int32)), (.ref b174), (.ref b174), (.ref b170), (.ref b170)]))
              refine own_goW (fun _ ww => XS.aloadN X180.here hx rfl (hb hby d2_159) rfl rfl ww) ?_
              show own_GoesW _ _ _ _ _ _ _ (T180.setTop (mkF m 160 #[.val (.ref b), .val (.int x9)] [(.ref b), (.int (1 : Int32)), (.ref b174), (.ref b174), (.ref b170), (.ref b170)]))
              refine own_goW (fun _ ww => XS.iconst X180.here hx rfl (hb hby d2_160) ww) ?_
              show own_GoesW _ _ _ _ _ _ _ (T180.setTop (mkF m 161 #[.val (.ref b), .val (.int x9)] [(.int (1 : Int32)), (.ref b), (.int (1 : Int32)), (.ref b174), (.ref b174), (.ref b170), (.ref b170)]))
              obtain ⟨cl186, Ar186, -, S186, -, H186, -⟩ := id f181
              have hin186 := inb_of (j := (1 : Int32)) S186 ⟨by decide, by decide⟩
              have hat186 : cl186.slots[((1 : Int32)).toNatClampNeg]? = some (.int c1) := Has.at H186 hin186 rfl
              refine own_goW (fun _ ww => X180.caload hx (j := (1 : Int32)) (v := (.int c1)) (by rw [e180]; exact Ar186.1) (State.isArrayOf_alike hZ.alike Ar186.2.1) Ar186.2.2 hin186 hat186 (g := (mkF m 161 #[.val (.ref b), .val (.int x9)] [(.int (1 : Int32)), (.ref b), (.int (1 : Int32)), (.ref b174), (.ref b174), (.ref b170), (.ref b170)])) rfl rfl (hb hby d2_161) _ ww) ?_
              show own_GoesW _ _ _ _ _ _ _ (T180.setTop (mkF m 162 #[.val (.ref b), .val (.int x9)] [(.int c1), (.int (1 : Int32)), (.ref b174), (.ref b174), (.ref b170), (.ref b170)]))
              obtain ⟨cl187, Ar187, q187, S187, M187, H187, U187⟩ := id f185
              obtain ⟨T187, h187, X187, e187, W187, st187⟩ := stC X180 hx hZ e180 Ar187 (j := (1 : Int32)) (inb_of S187 ⟨by decide, by decide⟩) (g := (mkF m 162 #[.val (.ref b), .val (.int x9)] [(.int c1), (.int (1 : Int32)), (.ref b174), (.ref b174), (.ref b170), (.ref b170)])) rfl rfl (hb hby d2_162)
              have nr187 : nar .char c1 = c1 := (own_narc bc1)
              rw [nr187] at W187
              have ft187 : fits .char (.int c1) = true := by have q := fits_nar_char c1; rw [nr187] at q; exact q
              have f188 : Arv Z h187 b kc .char (8 : Int32) [(.int c0), (.int c1), (.int c2), (.int c3), (.int c4), (.int c5), (.int c6), (.int c7)] (.int (0 : Int32)) := (f181.other W187 ne_b_b174)
              have f189 : Fld Z h187 b170 "java/lang/String" "value" "[B" .null := (f182.other W187 (Or.inl ne_b170_b174))
              have f190 : Fld Z h187 b170 "java/lang/String" "coder" "B" (.int (0 : Int32)) := (f183.other W187 (Or.inl ne_b170_b174))
              have f191 : Exa Z h187 b170 "java/lang/String" := (f184.wr W187)
              have f192 : Arv Z h187 b174 k174 .char (5 : Int32) [(.int c0), (.int c1), (.int (0 : Int32)), (.int (0 : Int32)), (.int (0 : Int32))] (.int (0 : Int32)) := (Arv.set Ar187 q187 S187 M187 H187 U187 ft187 W187 1 rfl (Nat.le_of_ble_eq_true rfl))
              have hk := Nat.le_trans hk (Keep.of_wr W187).1
              have N187 := Fr.snoc X187 N180 g_b174
              have O187 := O180.wr W187 g_b174
              have K187 := K180.wr W187 (Or.inr sz_b174)
              refine own_goW st187 ?_
              show own_GoesW _ _ _ _ _ _ _ (T187.setTop (mkF m 163 #[.val (.ref b), .val (.int x9)] [(.ref b174), (.ref b170), (.ref b170)]))
              refine own_goW (fun _ ww => XS.dup X187.here hx rfl (hb hby d2_163) rfl rfl ww) ?_
              show own_GoesW _ _ _ _ _ _ _ (T187.setTop (mkF m 164 #[.val (.ref b), .val (.int x9)] [(.ref b174), (.ref b174), (.ref b170), (.ref b170)]))
              refine own_goW (fun _ ww => XS.iconst X187.here hx rfl (hb hby d2_164) ww) ?_
              show own_GoesW _ _ _ _ _ _ _ (T187.setTop (mkF m 165 #[.val (.ref b), .val (.int x9)] [(.int (2 : Int32)), (.ref b174), (.ref b174), (.ref b170), (.ref b170)]))
              refine own_goW (fun _ ww => XS.aloadN X187.here hx rfl (hb hby d2_165) rfl rfl ww) ?_
              show own_GoesW _ _ _ _ _ _ _ (T187.setTop (mkF m 166 #[.val (.ref b), .val (.int x9)] [(.ref b), (.int (2 : Int32)), (.ref b174), (.ref b174), (.ref b170), (.ref b170)]))
              refine own_goW (fun _ ww => XS.iconst X187.here hx rfl (hb hby d2_166) ww) ?_
              show own_GoesW _ _ _ _ _ _ _ (T187.setTop (mkF m 167 #[.val (.ref b), .val (.int x9)] [(.int (2 : Int32)), (.ref b), (.int (2 : Int32)), (.ref b174), (.ref b174), (.ref b170), (.ref b170)]))
              obtain ⟨cl193, Ar193, -, S193, -, H193, -⟩ := id f188
              have hin193 := inb_of (j := (2 : Int32)) S193 ⟨by decide, by decide⟩
              have hat193 : cl193.slots[((2 : Int32)).toNatClampNeg]? = some (.int c2) := Has.at H193 hin193 rfl
              refine own_goW (fun _ ww => X187.caload hx (j := (2 : Int32)) (v := (.int c2)) (by rw [e187]; exact Ar193.1) (State.isArrayOf_alike hZ.alike Ar193.2.1) Ar193.2.2 hin193 hat193 (g := (mkF m 167 #[.val (.ref b), .val (.int x9)] [(.int (2 : Int32)), (.ref b), (.int (2 : Int32)), (.ref b174), (.ref b174), (.ref b170), (.ref b170)])) rfl rfl (hb hby d2_167) _ ww) ?_
              show own_GoesW _ _ _ _ _ _ _ (T187.setTop (mkF m 168 #[.val (.ref b), .val (.int x9)] [(.int c2), (.int (2 : Int32)), (.ref b174), (.ref b174), (.ref b170), (.ref b170)]))
              obtain ⟨cl194, Ar194, q194, S194, M194, H194, U194⟩ := id f192
              obtain ⟨T194, h194, X194, e194, W194, st194⟩ := stC X187 hx hZ e187 Ar194 (j := (2 : Int32)) (inb_of S194 ⟨by decide, by decide⟩) (g := (mkF m 168 #[.val (.ref b), .val (.int x9)] [(.int c2), (.int (2 : Int32)), (.ref b174), (.ref b174), (.ref b170), (.ref b170)])) rfl rfl (hb hby d2_168)
              have nr194 : nar .char c2 = c2 := (own_narc bc2)
              rw [nr194] at W194
              have ft194 : fits .char (.int c2) = true := by have q := fits_nar_char c2; rw [nr194] at q; exact q
              have f195 : Arv Z h194 b kc .char (8 : Int32) [(.int c0), (.int c1), (.int c2), (.int c3), (.int c4), (.int c5), (.int c6), (.int c7)] (.int (0 : Int32)) := (f188.other W194 ne_b_b174)
              have f196 : Fld Z h194 b170 "java/lang/String" "value" "[B" .null := (f189.other W194 (Or.inl ne_b170_b174))
              have f197 : Fld Z h194 b170 "java/lang/String" "coder" "B" (.int (0 : Int32)) := (f190.other W194 (Or.inl ne_b170_b174))
              have f198 : Exa Z h194 b170 "java/lang/String" := (f191.wr W194)
              have f199 : Arv Z h194 b174 k174 .char (5 : Int32) [(.int c0), (.int c1), (.int c2), (.int (0 : Int32)), (.int (0 : Int32))] (.int (0 : Int32)) := (Arv.set Ar194 q194 S194 M194 H194 U194 ft194 W194 2 rfl (Nat.le_of_ble_eq_true rfl))
              have hk := Nat.le_trans hk (Keep.of_wr W194).1
              have N194 := Fr.snoc X194 N187 g_b174
              have O194 := O187.wr W194 g_b174
              have K194 := K187.wr W194 (Or.inr sz_b174)
              refine own_goW st194 ?_
              show own_GoesW _ _ _ _ _ _ _ (T194.setTop (mkF m 169 #[.val (.ref b), .val (.int x9)] [(.ref b174), (.ref b170), (.ref b170)]))
              refine own_goW (fun _ ww => XS.dup X194.here hx rfl (hb hby d2_169) rfl rfl ww) ?_
              show own_GoesW _ _ _ _ _ _ _ (T194.setTop (mkF m 170 #[.val (.ref b), .val (.int x9)] [(.ref b174), (.ref b174), (.ref b170), (.ref b170)]))
              refine own_goW (fun _ ww => XS.iconst X194.here hx rfl (hb hby d2_170) ww) ?_
              show own_GoesW _ _ _ _ _ _ _ (T194.setTop (mkF m 171 #[.val (.ref b), .val (.int x9)] [(.int (3 : Int32)), (.ref b174), (.ref b174), (.ref b170), (.ref b170)]))
              refine own_goW (fun _ ww => XS.aloadN X194.here hx rfl (hb hby d2_171) rfl rfl ww) ?_
              show own_GoesW _ _ _ _ _ _ _ (T194.setTop (mkF m 172 #[.val (.ref b), .val (.int x9)] [(.ref b), (.int (3 : Int32)), (.ref b174), (.ref b174), (.ref b170), (.ref b170)]))
              refine own_goW (fun _ ww => XS.iconst X194.here hx rfl (hb hby d2_172) ww) ?_
              show own_GoesW _ _ _ _ _ _ _ (T194.setTop (mkF m 173 #[.val (.ref b), .val (.int x9)] [(.int (3 : Int32)), (.ref b), (.int (3 : Int32)), (.ref b174), (.ref b174), (.ref b170), (.ref b170)]))
              obtain ⟨cl200, Ar200, -, S200, -, H200, -⟩ := id f195
              have hin200 := inb_of (j := (3 : Int32)) S200 ⟨by decide, by decide⟩
              have hat200 : cl200.slots[((3 : Int32)).toNatClampNeg]? = some (.int c3) := Has.at H200 hin200 rfl
              refine own_goW (fun _ ww => X194.caload hx (j := (3 : Int32)) (v := (.int c3)) (by rw [e194]; exact Ar200.1) (State.isArrayOf_alike hZ.alike Ar200.2.1) Ar200.2.2 hin200 hat200 (g := (mkF m 173 #[.val (.ref b), .val (.int x9)] [(.int (3 : Int32)), (.ref b), (.int (3 : Int32)), (.ref b174), (.ref b174), (.ref b170), (.ref b170)])) rfl rfl (hb hby d2_173) _ ww) ?_
              show own_GoesW _ _ _ _ _ _ _ (T194.setTop (mkF m 174 #[.val (.ref b), .val (.int x9)] [(.int c3), (.int (3 : Int32)), (.ref b174), (.ref b174), (.ref b170), (.ref b170)]))
              obtain ⟨cl201, Ar201, q201, S201, M201, H201, U201⟩ := id f199
              obtain ⟨T201, h201, X201, e201, W201, st201⟩ := stC X194 hx hZ e194 Ar201 (j := (3 : Int32)) (inb_of S201 ⟨by decide, by decide⟩) (g := (mkF m 174 #[.val (.ref b), .val (.int x9)] [(.int c3), (.int (3 : Int32)), (.ref b174), (.ref b174), (.ref b170), (.ref b170)])) rfl rfl (hb hby d2_174)
              have nr201 : nar .char c3 = c3 := (own_narc bc3)
              rw [nr201] at W201
              have ft201 : fits .char (.int c3) = true := by have q := fits_nar_char c3; rw [nr201] at q; exact q
              have f202 : Arv Z h201 b kc .char (8 : Int32) [(.int c0), (.int c1), (.int c2), (.int c3), (.int c4), (.int c5), (.int c6), (.int c7)] (.int (0 : Int32)) := (f195.other W201 ne_b_b174)
              have f203 : Fld Z h201 b170 "java/lang/String" "value" "[B" .null := (f196.other W201 (Or.inl ne_b170_b174))
              have f204 : Fld Z h201 b170 "java/lang/String" "coder" "B" (.int (0 : Int32)) := (f197.other W201 (Or.inl ne_b170_b174))
              have f205 : Exa Z h201 b170 "java/lang/String" := (f198.wr W201)
              have f206 : Arv Z h201 b174 k174 .char (5 : Int32) [(.int c0), (.int c1), (.int c2), (.int c3), (.int (0 : Int32))] (.int (0 : Int32)) := (Arv.set Ar201 q201 S201 M201 H201 U201 ft201 W201 3 rfl (Nat.le_of_ble_eq_true rfl))
              have hk := Nat.le_trans hk (Keep.of_wr W201).1
              have N201 := Fr.snoc X201 N194 g_b174
              have O201 := O194.wr W201 g_b174
              have K201 := K194.wr W201 (Or.inr sz_b174)
              refine own_goW st201 ?_
              show own_GoesW _ _ _ _ _ _ _ (T201.setTop (mkF m 175 #[.val (.ref b), .val (.int x9)] [(.ref b174), (.ref b170), (.ref b170)]))
              refine own_goW (fun _ ww => XS.dup X201.here hx rfl (hb hby d2_175) rfl rfl ww) ?_
              show own_GoesW _ _ _ _ _ _ _ (T201.setTop (mkF m 176 #[.val (.ref b), .val (.int x9)] [(.ref b174), (.ref b174), (.ref b170), (.ref b170)]))
              refine own_goW (fun _ ww => XS.iconst X201.here hx rfl (hb hby d2_176) ww) ?_
              show own_GoesW _ _ _ _ _ _ _ (T201.setTop (mkF m 177 #[.val (.ref b), .val (.int x9)] [(.int (4 : Int32)), (.ref b174), (.ref b174), (.ref b170), (.ref b170)]))
              refine own_goW (fun _ ww => XS.aloadN X201.here hx rfl (hb hby d2_177) rfl rfl ww) ?_
              show own_GoesW _ _ _ _ _ _ _ (T201.setTop (mkF m 178 #[.val (.ref b), .val (.int x9)] [(.ref b), (.int (4 : Int32)), (.ref b174), (.ref b174), (.ref b170), (.ref b170)]))
              refine own_goW (fun _ ww => XS.iconst X201.here hx rfl (hb hby d2_178) ww) ?_
              show own_GoesW _ _ _ _ _ _ _ (T201.setTop (mkF m 179 #[.val (.ref b), .val (.int x9)] [(.int (4 : Int32)), (.ref b), (.int (4 : Int32)), (.ref b174), (.ref b174), (.ref b170), (.ref b170)]))
              obtain ⟨cl207, Ar207, -, S207, -, H207, -⟩ := id f202
              have hin207 := inb_of (j := (4 : Int32)) S207 ⟨by decide, by decide⟩
              have hat207 : cl207.slots[((4 : Int32)).toNatClampNeg]? = some (.int c4) := Has.at H207 hin207 rfl
              refine own_goW (fun _ ww => X201.caload hx (j := (4 : Int32)) (v := (.int c4)) (by rw [e201]; exact Ar207.1) (State.isArrayOf_alike hZ.alike Ar207.2.1) Ar207.2.2 hin207 hat207 (g := (mkF m 179 #[.val (.ref b), .val (.int x9)] [(.int (4 : Int32)), (.ref b), (.int (4 : Int32)), (.ref b174), (.ref b174), (.ref b170), (.ref b170)])) rfl rfl (hb hby d2_179) _ ww) ?_
              show own_GoesW _ _ _ _ _ _ _ (T201.setTop (mkF m 180 #[.val (.ref b), .val (.int x9)] [(.int c4), (.int (4 : Int32)), (.ref b174), (.ref b174), (.ref b170), (.ref b170)]))
              obtain ⟨cl208, Ar208, q208, S208, M208, H208, U208⟩ := id f206
              obtain ⟨T208, h208, X208, e208, W208, st208⟩ := stC X201 hx hZ e201 Ar208 (j := (4 : Int32)) (inb_of S208 ⟨by decide, by decide⟩) (g := (mkF m 180 #[.val (.ref b), .val (.int x9)] [(.int c4), (.int (4 : Int32)), (.ref b174), (.ref b174), (.ref b170), (.ref b170)])) rfl rfl (hb hby d2_180)
              have nr208 : nar .char c4 = c4 := (own_narc bc4)
              rw [nr208] at W208
              have ft208 : fits .char (.int c4) = true := by have q := fits_nar_char c4; rw [nr208] at q; exact q
              have f209 : Arv Z h208 b kc .char (8 : Int32) [(.int c0), (.int c1), (.int c2), (.int c3), (.int c4), (.int c5), (.int c6), (.int c7)] (.int (0 : Int32)) := (f202.other W208 ne_b_b174)
              have f210 : Fld Z h208 b170 "java/lang/String" "value" "[B" .null := (f203.other W208 (Or.inl ne_b170_b174))
              have f211 : Fld Z h208 b170 "java/lang/String" "coder" "B" (.int (0 : Int32)) := (f204.other W208 (Or.inl ne_b170_b174))
              have f212 : Exa Z h208 b170 "java/lang/String" := (f205.wr W208)
              have f213 : Arv Z h208 b174 k174 .char (5 : Int32) [(.int c0), (.int c1), (.int c2), (.int c3), (.int c4)] (.int (0 : Int32)) := (Arv.set Ar208 q208 S208 M208 H208 U208 ft208 W208 4 rfl (Nat.le_of_ble_eq_true rfl))
              have hk := Nat.le_trans hk (Keep.of_wr W208).1
              have N208 := Fr.snoc X208 N201 g_b174
              have O208 := O201.wr W208 g_b174
              have K208 := K201.wr W208 (Or.inr sz_b174)
              refine own_goW st208 ?_
              show own_GoesW _ _ _ _ _ _ _ (T208.setTop (mkF m 181 #[.val (.ref b), .val (.int x9)] [(.ref b174), (.ref b170), (.ref b170)]))
              have hp_b170 : ∀ c ∈ ([c0, c1, c2, c3, c4] : List Int32), ¬ c < 0 ∧ ¬ (255 : Int32) < c := (own_allc bc0 (own_allc bc1 (own_allc bc2 (own_allc bc3 (own_allc bc4 (fun _ q => nomatch q))))))
              obtain ⟨_, _, ⟨T214, L214, k214, n214⟩, -, X214, ⟨Lc214, hQ214, l214, y214, z214⟩, st214⟩ := X208.specialBack hx (y := (⟨"java/lang/String", "<init>", "([C)V"⟩ : MethodName)) rfl hown (mvT hZ (hw _ (List.mem_of_getElem? (i := 16) rfl))) (mvT hZ (hw _ (List.mem_of_getElem? (i := 17) rfl))) (mvT hZ (hw _ (List.mem_of_getElem? (i := 18) rfl))) (by decide) (StrChars.Road.backV (W := 1) hZ (own_words hw) (kI := 4) (hw _ (List.mem_of_getElem? (i := 14) rfl)) (cs := ([c0, c1, c2, c3, c4] : List Int32)) (bs := (([c0, c1, c2, c3, c4] : List Int32)).map (fun c => c.toInt8.toInt32)) (n := 5) g_b170 (own_ns O208) f212 f210 f211 f213 (SC.ext O208.2) hzc rfl rfl (by decide) (by decide) hp_b170 rfl (by decide) (by decide)) (g := (mkF m 181 #[.val (.ref b), .val (.int x9)] [(.ref b174), (.ref b170), (.ref b170)])) rfl (by rw [hml]; rfl) (Steps.refl _) (a := b170) (argsL := [(.ref b174)]) (rest := [(.ref b170)]) (lenOf pd_1 rfl) rfl (by show 2 * 0 + _ ≤ _; exact Nat.le_of_eq rfl) (hb hby d2_181) (fun _ _ => ⟨rfl, e208, (by decide : 2 + 1 ≤ _), (by decide : 9 + 5 ≤ _)⟩)
              dsimp only [Pt.U, Pt.locs, Pt.cells, Pt.slots] at X214 l214 y214 z214 st214 hQ214
              subst l214 y214 z214
              obtain ⟨rfl, N214q, K214q, E214q, C214q, t214, kb214, -, G214q, -, V214q, A214q⟩ := hQ214
              have N214 := Fr.app N208 N214q
              have hk := Nat.le_trans hk (own_ks K214q)
              have ne_b_t214 : b ≠ t214 := Nat.ne_of_lt (Nat.lt_of_lt_of_le f209.lt G214q)
              have ne_b170_t214 : b170 ≠ t214 := Nat.ne_of_lt (Nat.lt_of_lt_of_le f210.lt G214q)
              have ne_b174_t214 : b174 ≠ t214 := Nat.ne_of_lt (Nat.lt_of_lt_of_le f213.lt G214q)
              have g_t214 : n0 ≤ t214 := Nat.le_trans (O208.1 ▸ O208.2.1) G214q
              have sz_t214 : h0.size ≤ t214 := Nat.le_trans (own_ks K208) G214q
              have f215 : Arv Z T214.heap b kc .char (8 : Int32) [(.int c0), (.int c1), (.int c2), (.int c3), (.int c4), (.int c5), (.int c6), (.int c7)] (.int (0 : Int32)) := (f209.keep K214q (ninS ne_b_b170 nin0))
              have f216 : Exa Z T214.heap b170 "java/lang/String" := (f212.keep K214q)
              have f217 : Arv Z T214.heap b174 k174 .char (5 : Int32) [(.int c0), (.int c1), (.int c2), (.int c3), (.int c4)] (.int (0 : Int32)) := (f213.keep K214q (ninS (Ne.symm ne_b170_b174) nin0))
              have O214 := O208.keep K214q (allS g_b170 all0)
              have K214 := K208.trans K214q (allS (Or.inr sz_b170) all0)
              refine own_goW (fun _ ww => Steps.trans st214 ww) ?_
              show own_GoesW _ _ _ _ _ _ _ (T214.setTop (mkF m 184 #[.val (.ref b), .val (.int x9)] [(.ref b170)]))
              exact own_outW X214 hS hk hlk (v := some (.ref b170)) (fun h => by rw [hret] at h; cases h) (fun fs hr => retOut X214 hx (t := (.object "java/lang/String")) hret rfl (Or.inr (Or.inr (Or.inr (Or.inr ⟨rfl, rfl, rfl⟩)))) (hb hby d2_184) hr) rfl ⟨b170, t214, kb214, ([c0, c1, c2, c3, c4] : List Int32), (5 : Int32), [(.int (c0).toInt8.toInt32), (.int (c1).toInt8.toInt32), (.int (c2).toInt8.toInt32), (.int (c3).toInt8.toInt32), (.int (c4).toInt8.toInt32)], rfl, N214, K214, f216, C214q, V214q, A214q, (StrChars.Road.codOf (cs := ([c0, c1, c2, c3, c4] : List Int32)) (n := 5) rfl (fun c hc => (hp_b170 c hc).2)), (own_up hp_b170), (Nat.le_of_ble_eq_true rfl), (own_IBm (own_IBw X214.warmed hI))⟩ (by decide) (by decide)
            ·
              refine own_goW (fun _ ww => XS.icmpYes X0.here hx rfl (pc0 := 141) (pc' := 185) rfl (hb hby d2_141) rfl (feq hc169).2 (by decide) (by decide) ww) ?_
              show own_GoesW _ _ _ _ _ _ _ (s₁.setTop (mkF m 185 #[.val (.ref b), .val (.int x9)] []))
              refine own_goW (fun _ ww => XS.iloadN X0.here hx rfl (hb hby d2_185) rfl  ww) ?_
              show own_GoesW _ _ _ _ _ _ _ (s₁.setTop (mkF m 186 #[.val (.ref b), .val (.int x9)] [(.int x9)]))
              refine own_goW (fun _ ww => XS.bipush X0.here hx rfl (hb hby d2_186) ww) ?_
              show own_GoesW _ _ _ _ _ _ _ (s₁.setTop (mkF m 188 #[.val (.ref b), .val (.int x9)] [(.int (6 : Int32)), (.int x9)]))
              by_cases hc218 : x9 = (6 : Int32)
              ·
                refine own_goW (fun _ ww => XS.icmpNo X0.here hx rfl (hb hby d2_188) rfl (teq hc218).2 ww) ?_
                show own_GoesW _ _ _ _ _ _ _ (s₁.setTop (mkF m 191 #[.val (.ref b), .val (.int x9)] []))
                obtain ⟨T219, h219, X219, e219, E219, A219, D219, -, st219⟩ := newO X0 hx hZ hown (hw _ (List.mem_of_getElem? (i := 13) rfl)) (hw _ (List.mem_of_getElem? (i := 14) rfl)) (hw _ (List.mem_of_getElem? (i := 15) rfl)) e0 (g := (mkF m 191 #[.val (.ref b), .val (.int x9)] [])) rfl (hb hby d2_191) (by decide) (by decide)
                obtain ⟨b219, g219⟩ : ∃ z, z = h0.size := ⟨_, rfl⟩
                rw [← g219] at A219 D219 st219
                have ne_b_b219 : b ≠ b219 := Nat.ne_of_lt (Nat.lt_of_lt_of_le Vb.lt (Nat.le_of_eq g219.symm))
                have g_b219 : n0 ≤ b219 := Nat.le_trans (O0.1 ▸ O0.2.1) (Nat.le_of_eq g219.symm)
                have f220 : Arv Z h219 b kc .char (8 : Int32) [(.int c0), (.int c1), (.int c2), (.int c3), (.int c4), (.int c5), (.int c6), (.int c7)] (.int (0 : Int32)) := (Arv.ext Vb E219)
                have O219 := O0.ext E219
                have hk := Nat.le_trans hk E219.1
                have sz_b219 : h0.size ≤ b219 := Nat.le_trans (own_ks (Keep.refl h0 [])) (Nat.le_of_eq g219.symm)
                have K219 := (Keep.refl h0 []).ext E219
                have f221 : Fld Z h219 b219 "java/lang/String" "value" "[B" .null := D219 (Or.inr (hw _ (List.mem_of_getElem? (i := 28) rfl))) (ty := (.array .byte)) (by decide)
                have f222 : Fld Z h219 b219 "java/lang/String" "coder" "B" (.int (0 : Int32)) := D219 (Or.inr (hw _ (List.mem_of_getElem? (i := 29) rfl))) (ty := .byte) (by decide)
                refine own_goW st219 ?_
                show own_GoesW _ _ _ _ _ _ _ (T219.setTop (mkF m 194 #[.val (.ref b), .val (.int x9)] [(.ref b219)]))
                refine own_goW (fun _ ww => XS.dup X219.here hx rfl (hb hby d2_194) rfl rfl ww) ?_
                show own_GoesW _ _ _ _ _ _ _ (T219.setTop (mkF m 195 #[.val (.ref b), .val (.int x9)] [(.ref b219), (.ref b219)]))
                refine own_goW (fun _ ww => XS.bipush X219.here hx rfl (hb hby d2_195) ww) ?_
                show own_GoesW _ _ _ _ _ _ _ (T219.setTop (mkF m 197 #[.val (.ref b), .val (.int x9)] [(.int (6 : Int32)), (.ref b219), (.ref b219)]))
                obtain ⟨T223, h223, k223, X223, e223, E223, A223, st223⟩ := newP X219 hx hZ (hw _ (List.mem_of_getElem? (i := 4) rfl)) e219 (g := (mkF m 197 #[.val (.ref b), .val (.int x9)] [(.int (6 : Int32)), (.ref b219), (.ref b219)])) rfl (hb hby d2_197) rfl (by decide) (cap := 6) (by decide) (by decide) (by decide) (by decide)
                obtain ⟨b223, g223⟩ : ∃ z, z = h219.size := ⟨_, rfl⟩
                rw [← g223] at A223 st223
                have ne_b_b223 : b ≠ b223 := Nat.ne_of_lt (Nat.lt_of_lt_of_le f220.lt (Nat.le_of_eq g223.symm))
                have ne_b219_b223 : b219 ≠ b223 := Nat.ne_of_lt (Nat.lt_of_lt_of_le f221.lt (Nat.le_of_eq g223.symm))
                have g_b223 : n0 ≤ b223 := Nat.le_trans (O219.1 ▸ O219.2.1) (Nat.le_of_eq g223.symm)
                have f224 : Arv Z h223 b kc .char (8 : Int32) [(.int c0), (.int c1), (.int c2), (.int c3), (.int c4), (.int c5), (.int c6), (.int c7)] (.int (0 : Int32)) := (Arv.ext f220 E223)
                have f225 : Fld Z h223 b219 "java/lang/String" "value" "[B" .null := (f221.ext E223)
                have f226 : Fld Z h223 b219 "java/lang/String" "coder" "B" (.int (0 : Int32)) := (f222.ext E223)
                have f227 : Exa Z h223 b219 "java/lang/String" := (A219.ext E223)
                have O223 := O219.ext E223
                have hk := Nat.le_trans hk E223.1
                have sz_b223 : h0.size ≤ b223 := Nat.le_trans (own_ks K219) (Nat.le_of_eq g223.symm)
                have K223 := K219.ext E223
                have V223 : Arv Z h223 b223 k223 .char (6 : Int32) [(.int (0 : Int32)), (.int (0 : Int32)), (.int (0 : Int32)), (.int (0 : Int32)), (.int (0 : Int32)), (.int (0 : Int32))] (.int (0 : Int32)) := (Arv.new A223 (by decide)).pad (pad_rep [] (.int (0 : Int32)) 6)
                refine own_goW st223 ?_
                show own_GoesW _ _ _ _ _ _ _ (T223.setTop (mkF m 199 #[.val (.ref b), .val (.int x9)] [(.ref b223), (.ref b219), (.ref b219)]))
                refine own_goW (fun _ ww => XS.dup X223.here hx rfl (hb hby d2_199) rfl rfl ww) ?_
                show own_GoesW _ _ _ _ _ _ _ (T223.setTop (mkF m 200 #[.val (.ref b), .val (.int x9)] [(.ref b223), (.ref b223), (.ref b219), (.ref b219)]))
                refine own_goW (fun _ ww => XS.iconst X223.here hx rfl (hb hby d2_200) ww) ?_
                show own_GoesW _ _ _ _ _ _ _ (T223.setTop (mkF m 201 #[.val (.ref b), .val (.int x9)] [(.int (0 : Int32)), (.ref b223), (.ref b223), (.ref b219), (.ref b219)]))
                refine own_goW (fun _ ww => XS.aloadN X223.here hx rfl (hb hby d2_201) rfl rfl ww) ?_
                show own_GoesW _ _ _ _ _ _ _ (T223.setTop (mkF m 202 #[.val (.ref b), .val (.int x9)] [(.ref b), (.int (0 : Int32)), (.ref b223), (.ref b223), (.ref b219), (.ref b219)]))
                refine own_goW (fun _ ww => XS.iconst X223.here hx rfl (hb hby d2_202) ww) ?_
                show own_GoesW _ _ _ _ _ _ _ (T223.setTop (mkF m 203 #[.val (.ref b), .val (.int x9)] [(.int (0 : Int32)), (.ref b), (.int (0 : Int32)), (.ref b223), (.ref b223), (.ref b219), (.ref b219)]))
                obtain ⟨cl228, Ar228, -, S228, -, H228, -⟩ := id f224
                have hin228 := inb_of (j := (0 : Int32)) S228 ⟨by decide, by decide⟩
                have hat228 : cl228.slots[((0 : Int32)).toNatClampNeg]? = some (.int c0) := Has.at H228 hin228 rfl
                refine own_goW (fun _ ww => X223.caload hx (j := (0 : Int32)) (v := (.int c0)) (by rw [e223]; exact Ar228.1) (State.isArrayOf_alike hZ.alike Ar228.2.1) Ar228.2.2 hin228 hat228 (g := (mkF m 203 #[.val (.ref b), .val (.int x9)] [(.int (0 : Int32)), (.ref b), (.int (0 : Int32)), (.ref b223), (.ref b223), (.ref b219), (.ref b219)])) rfl rfl (hb hby d2_203) _ ww) ?_
                show own_GoesW _ _ _ _ _ _ _ (T223.setTop (mkF m 204 #[.val (.ref b), .val (.int x9)] [(.int c0), (.int (0 : Int32)), (.ref b223), (.ref b223), (.ref b219), (.ref b219)]))
                obtain ⟨cl229, Ar229, q229, S229, M229, H229, U229⟩ := id V223
                obtain ⟨T229, h229, X229, e229, W229, st229⟩ := stC X223 hx hZ e223 Ar229 (j := (0 : Int32)) (inb_of S229 ⟨by decide, by decide⟩) (g := (mkF m 204 #[.val (.ref b), .val (.int x9)] [(.int c0), (.int (0 : Int32)), (.ref b223), (.ref b223), (.ref b219), (.ref b219)])) rfl rfl (hb hby d2_204)
                have nr229 : nar .char c0 = c0 := (own_narc bc0)
                rw [nr229] at W229
                have ft229 : fits .char (.int c0) = true := by have q := fits_nar_char c0; rw [nr229] at q; exact q
                have f230 : Arv Z h229 b kc .char (8 : Int32) [(.int c0), (.int c1), (.int c2), (.int c3), (.int c4), (.int c5), (.int c6), (.int c7)] (.int (0 : Int32)) := (f224.other W229 ne_b_b223)
                have f231 : Fld Z h229 b219 "java/lang/String" "value" "[B" .null := (f225.other W229 (Or.inl ne_b219_b223))
                have f232 : Fld Z h229 b219 "java/lang/String" "coder" "B" (.int (0 : Int32)) := (f226.other W229 (Or.inl ne_b219_b223))
                have f233 : Exa Z h229 b219 "java/lang/String" := (f227.wr W229)
                have f234 : Arv Z h229 b223 k223 .char (6 : Int32) [(.int c0), (.int (0 : Int32)), (.int (0 : Int32)), (.int (0 : Int32)), (.int (0 : Int32)), (.int (0 : Int32))] (.int (0 : Int32)) := (Arv.set Ar229 q229 S229 M229 H229 U229 ft229 W229 0 rfl (Nat.le_of_ble_eq_true rfl))
                have hk := Nat.le_trans hk (Keep.of_wr W229).1
                have N229 := Fr.snoc X229 N0 g_b223
                have O229 := O223.wr W229 g_b223
                have K229 := K223.wr W229 (Or.inr sz_b223)
                refine own_goW st229 ?_
                show own_GoesW _ _ _ _ _ _ _ (T229.setTop (mkF m 205 #[.val (.ref b), .val (.int x9)] [(.ref b223), (.ref b219), (.ref b219)]))
                refine own_goW (fun _ ww => XS.dup X229.here hx rfl (hb hby d2_205) rfl rfl ww) ?_
                show own_GoesW _ _ _ _ _ _ _ (T229.setTop (mkF m 206 #[.val (.ref b), .val (.int x9)] [(.ref b223), (.ref b223), (.ref b219), (.ref b219)]))
                refine own_goW (fun _ ww => XS.iconst X229.here hx rfl (hb hby d2_206) ww) ?_
                show own_GoesW _ _ _ _ _ _ _ (T229.setTop (mkF m 207 #[.val (.ref b), .val (.int x9)] [(.int (1 : Int32)), (.ref b223), (.ref b223), (.ref b219), (.ref b219)]))
                refine own_goW (fun _ ww => XS.aloadN X229.here hx rfl (hb hby d2_207) rfl rfl ww) ?_
                show own_GoesW _ _ _ _ _ _ _ (T229.setTop (mkF m 208 #[.val (.ref b), .val (.int x9)] [(.ref b), (.int (1 : Int32)), (.ref b223), (.ref b223), (.ref b219), (.ref b219)]))
                refine own_goW (fun _ ww => XS.iconst X229.here hx rfl (hb hby d2_208) ww) ?_
                show own_GoesW _ _ _ _ _ _ _ (T229.setTop (mkF m 209 #[.val (.ref b), .val (.int x9)] [(.int (1 : Int32)), (.ref b), (.int (1 : Int32)), (.ref b223), (.ref b223), (.ref b219), (.ref b219)]))
                obtain ⟨cl235, Ar235, -, S235, -, H235, -⟩ := id f230
                have hin235 := inb_of (j := (1 : Int32)) S235 ⟨by decide, by decide⟩
                have hat235 : cl235.slots[((1 : Int32)).toNatClampNeg]? = some (.int c1) := Has.at H235 hin235 rfl
                refine own_goW (fun _ ww => X229.caload hx (j := (1 : Int32)) (v := (.int c1)) (by rw [e229]; exact Ar235.1) (State.isArrayOf_alike hZ.alike Ar235.2.1) Ar235.2.2 hin235 hat235 (g := (mkF m 209 #[.val (.ref b), .val (.int x9)] [(.int (1 : Int32)), (.ref b), (.int (1 : Int32)), (.ref b223), (.ref b223), (.ref b219), (.ref b219)])) rfl rfl (hb hby d2_209) _ ww) ?_
                show own_GoesW _ _ _ _ _ _ _ (T229.setTop (mkF m 210 #[.val (.ref b), .val (.int x9)] [(.int c1), (.int (1 : Int32)), (.ref b223), (.ref b223), (.ref b219), (.ref b219)]))
                obtain ⟨cl236, Ar236, q236, S236, M236, H236, U236⟩ := id f234
                obtain ⟨T236, h236, X236, e236, W236, st236⟩ := stC X229 hx hZ e229 Ar236 (j := (1 : Int32)) (inb_of S236 ⟨by decide, by decide⟩) (g := (mkF m 210 #[.val (.ref b), .val (.int x9)] [(.int c1), (.int (1 : Int32)), (.ref b223), (.ref b223), (.ref b219), (.ref b219)])) rfl rfl (hb hby d2_210)
                have nr236 : nar .char c1 = c1 := (own_narc bc1)
                rw [nr236] at W236
                have ft236 : fits .char (.int c1) = true := by have q := fits_nar_char c1; rw [nr236] at q; exact q
                have f237 : Arv Z h236 b kc .char (8 : Int32) [(.int c0), (.int c1), (.int c2), (.int c3), (.int c4), (.int c5), (.int c6), (.int c7)] (.int (0 : Int32)) := (f230.other W236 ne_b_b223)
                have f238 : Fld Z h236 b219 "java/lang/String" "value" "[B" .null := (f231.other W236 (Or.inl ne_b219_b223))
                have f239 : Fld Z h236 b219 "java/lang/String" "coder" "B" (.int (0 : Int32)) := (f232.other W236 (Or.inl ne_b219_b223))
                have f240 : Exa Z h236 b219 "java/lang/String" := (f233.wr W236)
                have f241 : Arv Z h236 b223 k223 .char (6 : Int32) [(.int c0), (.int c1), (.int (0 : Int32)), (.int (0 : Int32)), (.int (0 : Int32)), (.int (0 : Int32))] (.int (0 : Int32)) := (Arv.set Ar236 q236 S236 M236 H236 U236 ft236 W236 1 rfl (Nat.le_of_ble_eq_true rfl))
                have hk := Nat.le_trans hk (Keep.of_wr W236).1
                have N236 := Fr.snoc X236 N229 g_b223
                have O236 := O229.wr W236 g_b223
                have K236 := K229.wr W236 (Or.inr sz_b223)
                refine own_goW st236 ?_
                show own_GoesW _ _ _ _ _ _ _ (T236.setTop (mkF m 211 #[.val (.ref b), .val (.int x9)] [(.ref b223), (.ref b219), (.ref b219)]))
                refine own_goW (fun _ ww => XS.dup X236.here hx rfl (hb hby d2_211) rfl rfl ww) ?_
                show own_GoesW _ _ _ _ _ _ _ (T236.setTop (mkF m 212 #[.val (.ref b), .val (.int x9)] [(.ref b223), (.ref b223), (.ref b219), (.ref b219)]))
                refine own_goW (fun _ ww => XS.iconst X236.here hx rfl (hb hby d2_212) ww) ?_
                show own_GoesW _ _ _ _ _ _ _ (T236.setTop (mkF m 213 #[.val (.ref b), .val (.int x9)] [(.int (2 : Int32)), (.ref b223), (.ref b223), (.ref b219), (.ref b219)]))
                refine own_goW (fun _ ww => XS.aloadN X236.here hx rfl (hb hby d2_213) rfl rfl ww) ?_
                show own_GoesW _ _ _ _ _ _ _ (T236.setTop (mkF m 214 #[.val (.ref b), .val (.int x9)] [(.ref b), (.int (2 : Int32)), (.ref b223), (.ref b223), (.ref b219), (.ref b219)]))
                refine own_goW (fun _ ww => XS.iconst X236.here hx rfl (hb hby d2_214) ww) ?_
                show own_GoesW _ _ _ _ _ _ _ (T236.setTop (mkF m 215 #[.val (.ref b), .val (.int x9)] [(.int (2 : Int32)), (.ref b), (.int (2 : Int32)), (.ref b223), (.ref b223), (.ref b219), (.ref b219)]))
                obtain ⟨cl242, Ar242, -, S242, -, H242, -⟩ := id f237
                have hin242 := inb_of (j := (2 : Int32)) S242 ⟨by decide, by decide⟩
                have hat242 : cl242.slots[((2 : Int32)).toNatClampNeg]? = some (.int c2) := Has.at H242 hin242 rfl
                refine own_goW (fun _ ww => X236.caload hx (j := (2 : Int32)) (v := (.int c2)) (by rw [e236]; exact Ar242.1) (State.isArrayOf_alike hZ.alike Ar242.2.1) Ar242.2.2 hin242 hat242 (g := (mkF m 215 #[.val (.ref b), .val (.int x9)] [(.int (2 : Int32)), (.ref b), (.int (2 : Int32)), (.ref b223), (.ref b223), (.ref b219), (.ref b219)])) rfl rfl (hb hby d2_215) _ ww) ?_
                show own_GoesW _ _ _ _ _ _ _ (T236.setTop (mkF m 216 #[.val (.ref b), .val (.int x9)] [(.int c2), (.int (2 : Int32)), (.ref b223), (.ref b223), (.ref b219), (.ref b219)]))
                obtain ⟨cl243, Ar243, q243, S243, M243, H243, U243⟩ := id f241
                obtain ⟨T243, h243, X243, e243, W243, st243⟩ := stC X236 hx hZ e236 Ar243 (j := (2 : Int32)) (inb_of S243 ⟨by decide, by decide⟩) (g := (mkF m 216 #[.val (.ref b), .val (.int x9)] [(.int c2), (.int (2 : Int32)), (.ref b223), (.ref b223), (.ref b219), (.ref b219)])) rfl rfl (hb hby d2_216)
                have nr243 : nar .char c2 = c2 := (own_narc bc2)
                rw [nr243] at W243
                have ft243 : fits .char (.int c2) = true := by have q := fits_nar_char c2; rw [nr243] at q; exact q
                have f244 : Arv Z h243 b kc .char (8 : Int32) [(.int c0), (.int c1), (.int c2), (.int c3), (.int c4), (.int c5), (.int c6), (.int c7)] (.int (0 : Int32)) := (f237.other W243 ne_b_b223)
                have f245 : Fld Z h243 b219 "java/lang/String" "value" "[B" .null := (f238.other W243 (Or.inl ne_b219_b223))
                have f246 : Fld Z h243 b219 "java/lang/String" "coder" "B" (.int (0 : Int32)) := (f239.other W243 (Or.inl ne_b219_b223))
                have f247 : Exa Z h243 b219 "java/lang/String" := (f240.wr W243)
                have f248 : Arv Z h243 b223 k223 .char (6 : Int32) [(.int c0), (.int c1), (.int c2), (.int (0 : Int32)), (.int (0 : Int32)), (.int (0 : Int32))] (.int (0 : Int32)) := (Arv.set Ar243 q243 S243 M243 H243 U243 ft243 W243 2 rfl (Nat.le_of_ble_eq_true rfl))
                have hk := Nat.le_trans hk (Keep.of_wr W243).1
                have N243 := Fr.snoc X243 N236 g_b223
                have O243 := O236.wr W243 g_b223
                have K243 := K236.wr W243 (Or.inr sz_b223)
                refine own_goW st243 ?_
                show own_GoesW _ _ _ _ _ _ _ (T243.setTop (mkF m 217 #[.val (.ref b), .val (.int x9)] [(.ref b223), (.ref b219), (.ref b219)]))
                refine own_goW (fun _ ww => XS.dup X243.here hx rfl (hb hby d2_217) rfl rfl ww) ?_
                show own_GoesW _ _ _ _ _ _ _ (T243.setTop (mkF m 218 #[.val (.ref b), .val (.int x9)] [(.ref b223), (.ref b223), (.ref b219), (.ref b219)]))
                refine own_goW (fun _ ww => XS.iconst X243.here hx rfl (hb hby d2_218) ww) ?_
                show own_GoesW _ _ _ _ _ _ _ (T243.setTop (mkF m 219 #[.val (.ref b), .val (.int x9)] [(.int (3 : Int32)), (.ref b223), (.ref b223), (.ref b219), (.ref b219)]))
                refine own_goW (fun _ ww => XS.aloadN X243.here hx rfl (hb hby d2_219) rfl rfl ww) ?_
                show own_GoesW _ _ _ _ _ _ _ (T243.setTop (mkF m 220 #[.val (.ref b), .val (.int x9)] [(.ref b), (.int (3 : Int32)), (.ref b223), (.ref b223), (.ref b219), (.ref b219)]))
                refine own_goW (fun _ ww => XS.iconst X243.here hx rfl (hb hby d2_220) ww) ?_
                show own_GoesW _ _ _ _ _ _ _ (T243.setTop (mkF m 221 #[.val (.ref b), .val (.int x9)] [(.int (3 : Int32)), (.ref b), (.int (3 : Int32)), (.ref b223), (.ref b223), (.ref b219), (.ref b219)]))
                obtain ⟨cl249, Ar249, -, S249, -, H249, -⟩ := id f244
                have hin249 := inb_of (j := (3 : Int32)) S249 ⟨by decide, by decide⟩
                have hat249 : cl249.slots[((3 : Int32)).toNatClampNeg]? = some (.int c3) := Has.at H249 hin249 rfl
                refine own_goW (fun _ ww => X243.caload hx (j := (3 : Int32)) (v := (.int c3)) (by rw [e243]; exact Ar249.1) (State.isArrayOf_alike hZ.alike Ar249.2.1) Ar249.2.2 hin249 hat249 (g := (mkF m 221 #[.val (.ref b), .val (.int x9)] [(.int (3 : Int32)), (.ref b), (.int (3 : Int32)), (.ref b223), (.ref b223), (.ref b219), (.ref b219)])) rfl rfl (hb hby d2_221) _ ww) ?_
                show own_GoesW _ _ _ _ _ _ _ (T243.setTop (mkF m 222 #[.val (.ref b), .val (.int x9)] [(.int c3), (.int (3 : Int32)), (.ref b223), (.ref b223), (.ref b219), (.ref b219)]))
                obtain ⟨cl250, Ar250, q250, S250, M250, H250, U250⟩ := id f248
                obtain ⟨T250, h250, X250, e250, W250, st250⟩ := stC X243 hx hZ e243 Ar250 (j := (3 : Int32)) (inb_of S250 ⟨by decide, by decide⟩) (g := (mkF m 222 #[.val (.ref b), .val (.int x9)] [(.int c3), (.int (3 : Int32)), (.ref b223), (.ref b223), (.ref b219), (.ref b219)])) rfl rfl (hb hby d2_222)
                have nr250 : nar .char c3 = c3 := (own_narc bc3)
                rw [nr250] at W250
                have ft250 : fits .char (.int c3) = true := by have q := fits_nar_char c3; rw [nr250] at q; exact q
                have f251 : Arv Z h250 b kc .char (8 : Int32) [(.int c0), (.int c1), (.int c2), (.int c3), (.int c4), (.int c5), (.int c6), (.int c7)] (.int (0 : Int32)) := (f244.other W250 ne_b_b223)
                have f252 : Fld Z h250 b219 "java/lang/String" "value" "[B" .null := (f245.other W250 (Or.inl ne_b219_b223))
                have f253 : Fld Z h250 b219 "java/lang/String" "coder" "B" (.int (0 : Int32)) := (f246.other W250 (Or.inl ne_b219_b223))
                have f254 : Exa Z h250 b219 "java/lang/String" := (f247.wr W250)
                have f255 : Arv Z h250 b223 k223 .char (6 : Int32) [(.int c0), (.int c1), (.int c2), (.int c3), (.int (0 : Int32)), (.int (0 : Int32))] (.int (0 : Int32)) := (Arv.set Ar250 q250 S250 M250 H250 U250 ft250 W250 3 rfl (Nat.le_of_ble_eq_true rfl))
                have hk := Nat.le_trans hk (Keep.of_wr W250).1
                have N250 := Fr.snoc X250 N243 g_b223
                have O250 := O243.wr W250 g_b223
                have K250 := K243.wr W250 (Or.inr sz_b223)
                refine own_goW st250 ?_
                show own_GoesW _ _ _ _ _ _ _ (T250.setTop (mkF m 223 #[.val (.ref b), .val (.int x9)] [(.ref b223), (.ref b219), (.ref b219)]))
                refine own_goW (fun _ ww => XS.dup X250.here hx rfl (hb hby d2_223) rfl rfl ww) ?_
                show own_GoesW _ _ _ _ _ _ _ (T250.setTop (mkF m 224 #[.val (.ref b), .val (.int x9)] [(.ref b223), (.ref b223), (.ref b219), (.ref b219)]))
                refine own_goW (fun _ ww => XS.iconst X250.here hx rfl (hb hby d2_224) ww) ?_
                show own_GoesW _ _ _ _ _ _ _ (T250.setTop (mkF m 225 #[.val (.ref b), .val (.int x9)] [(.int (4 : Int32)), (.ref b223), (.ref b223), (.ref b219), (.ref b219)]))
                refine own_goW (fun _ ww => XS.aloadN X250.here hx rfl (hb hby d2_225) rfl rfl ww) ?_
                show own_GoesW _ _ _ _ _ _ _ (T250.setTop (mkF m 226 #[.val (.ref b), .val (.int x9)] [(.ref b), (.int (4 : Int32)), (.ref b223), (.ref b223), (.ref b219), (.ref b219)]))
                refine own_goW (fun _ ww => XS.iconst X250.here hx rfl (hb hby d2_226) ww) ?_
                show own_GoesW _ _ _ _ _ _ _ (T250.setTop (mkF m 227 #[.val (.ref b), .val (.int x9)] [(.int (4 : Int32)), (.ref b), (.int (4 : Int32)), (.ref b223), (.ref b223), (.ref b219), (.ref b219)]))
                obtain ⟨cl256, Ar256, -, S256, -, H256, -⟩ := id f251
                have hin256 := inb_of (j := (4 : Int32)) S256 ⟨by decide, by decide⟩
                have hat256 : cl256.slots[((4 : Int32)).toNatClampNeg]? = some (.int c4) := Has.at H256 hin256 rfl
                refine own_goW (fun _ ww => X250.caload hx (j := (4 : Int32)) (v := (.int c4)) (by rw [e250]; exact Ar256.1) (State.isArrayOf_alike hZ.alike Ar256.2.1) Ar256.2.2 hin256 hat256 (g := (mkF m 227 #[.val (.ref b), .val (.int x9)] [(.int (4 : Int32)), (.ref b), (.int (4 : Int32)), (.ref b223), (.ref b223), (.ref b219), (.ref b219)])) rfl rfl (hb hby d2_227) _ ww) ?_
                show own_GoesW _ _ _ _ _ _ _ (T250.setTop (mkF m 228 #[.val (.ref b), .val (.int x9)] [(.int c4), (.int (4 : Int32)), (.ref b223), (.ref b223), (.ref b219), (.ref b219)]))
                obtain ⟨cl257, Ar257, q257, S257, M257, H257, U257⟩ := id f255
                obtain ⟨T257, h257, X257, e257, W257, st257⟩ := stC X250 hx hZ e250 Ar257 (j := (4 : Int32)) (inb_of S257 ⟨by decide, by decide⟩) (g := (mkF m 228 #[.val (.ref b), .val (.int x9)] [(.int c4), (.int (4 : Int32)), (.ref b223), (.ref b223), (.ref b219), (.ref b219)])) rfl rfl (hb hby d2_228)
                have nr257 : nar .char c4 = c4 := (own_narc bc4)
                rw [nr257] at W257
                have ft257 : fits .char (.int c4) = true := by have q := fits_nar_char c4; rw [nr257] at q; exact q
                have f258 : Arv Z h257 b kc .char (8 : Int32) [(.int c0), (.int c1), (.int c2), (.int c3), (.int c4), (.int c5), (.int c6), (.int c7)] (.int (0 : Int32)) := (f251.other W257 ne_b_b223)
                have f259 : Fld Z h257 b219 "java/lang/String" "value" "[B" .null := (f252.other W257 (Or.inl ne_b219_b223))
                have f260 : Fld Z h257 b219 "java/lang/String" "coder" "B" (.int (0 : Int32)) := (f253.other W257 (Or.inl ne_b219_b223))
                have f261 : Exa Z h257 b219 "java/lang/String" := (f254.wr W257)
                have f262 : Arv Z h257 b223 k223 .char (6 : Int32) [(.int c0), (.int c1), (.int c2), (.int c3), (.int c4), (.int (0 : Int32))] (.int (0 : Int32)) := (Arv.set Ar257 q257 S257 M257 H257 U257 ft257 W257 4 rfl (Nat.le_of_ble_eq_true rfl))
                have hk := Nat.le_trans hk (Keep.of_wr W257).1
                have N257 := Fr.snoc X257 N250 g_b223
                have O257 := O250.wr W257 g_b223
                have K257 := K250.wr W257 (Or.inr sz_b223)
                refine own_goW st257 ?_
                show own_GoesW _ _ _ _ _ _ _ (T257.setTop (mkF m 229 #[.val (.ref b), .val (.int x9)] [(.ref b223), (.ref b219), (.ref b219)]))
                refine own_goW (fun _ ww => XS.dup X257.here hx rfl (hb hby d2_229) rfl rfl ww) ?_
                show own_GoesW _ _ _ _ _ _ _ (T257.setTop (mkF m 230 #[.val (.ref b), .val (.int x9)] [(.ref b223), (.ref b223), (.ref b219), (.ref b219)]))
                refine own_goW (fun _ ww => XS.iconst X257.here hx rfl (hb hby d2_230) ww) ?_
                show own_GoesW _ _ _ _ _ _ _ (T257.setTop (mkF m 231 #[.val (.ref b), .val (.int x9)] [(.int (5 : Int32)), (.ref b223), (.ref b223), (.ref b219), (.ref b219)]))
                refine own_goW (fun _ ww => XS.aloadN X257.here hx rfl (hb hby d2_231) rfl rfl ww) ?_
                show own_GoesW _ _ _ _ _ _ _ (T257.setTop (mkF m 232 #[.val (.ref b), .val (.int x9)] [(.ref b), (.int (5 : Int32)), (.ref b223), (.ref b223), (.ref b219), (.ref b219)]))
                refine own_goW (fun _ ww => XS.iconst X257.here hx rfl (hb hby d2_232) ww) ?_
                show own_GoesW _ _ _ _ _ _ _ (T257.setTop (mkF m 233 #[.val (.ref b), .val (.int x9)] [(.int (5 : Int32)), (.ref b), (.int (5 : Int32)), (.ref b223), (.ref b223), (.ref b219), (.ref b219)]))
                obtain ⟨cl263, Ar263, -, S263, -, H263, -⟩ := id f258
                have hin263 := inb_of (j := (5 : Int32)) S263 ⟨by decide, by decide⟩
                have hat263 : cl263.slots[((5 : Int32)).toNatClampNeg]? = some (.int c5) := Has.at H263 hin263 rfl
                refine own_goW (fun _ ww => X257.caload hx (j := (5 : Int32)) (v := (.int c5)) (by rw [e257]; exact Ar263.1) (State.isArrayOf_alike hZ.alike Ar263.2.1) Ar263.2.2 hin263 hat263 (g := (mkF m 233 #[.val (.ref b), .val (.int x9)] [(.int (5 : Int32)), (.ref b), (.int (5 : Int32)), (.ref b223), (.ref b223), (.ref b219), (.ref b219)])) rfl rfl (hb hby d2_233) _ ww) ?_
                show own_GoesW _ _ _ _ _ _ _ (T257.setTop (mkF m 234 #[.val (.ref b), .val (.int x9)] [(.int c5), (.int (5 : Int32)), (.ref b223), (.ref b223), (.ref b219), (.ref b219)]))
                obtain ⟨cl264, Ar264, q264, S264, M264, H264, U264⟩ := id f262
                obtain ⟨T264, h264, X264, e264, W264, st264⟩ := stC X257 hx hZ e257 Ar264 (j := (5 : Int32)) (inb_of S264 ⟨by decide, by decide⟩) (g := (mkF m 234 #[.val (.ref b), .val (.int x9)] [(.int c5), (.int (5 : Int32)), (.ref b223), (.ref b223), (.ref b219), (.ref b219)])) rfl rfl (hb hby d2_234)
                have nr264 : nar .char c5 = c5 := (own_narc bc5)
                rw [nr264] at W264
                have ft264 : fits .char (.int c5) = true := by have q := fits_nar_char c5; rw [nr264] at q; exact q
                have f265 : Arv Z h264 b kc .char (8 : Int32) [(.int c0), (.int c1), (.int c2), (.int c3), (.int c4), (.int c5), (.int c6), (.int c7)] (.int (0 : Int32)) := (f258.other W264 ne_b_b223)
                have f266 : Fld Z h264 b219 "java/lang/String" "value" "[B" .null := (f259.other W264 (Or.inl ne_b219_b223))
                have f267 : Fld Z h264 b219 "java/lang/String" "coder" "B" (.int (0 : Int32)) := (f260.other W264 (Or.inl ne_b219_b223))
                have f268 : Exa Z h264 b219 "java/lang/String" := (f261.wr W264)
                have f269 : Arv Z h264 b223 k223 .char (6 : Int32) [(.int c0), (.int c1), (.int c2), (.int c3), (.int c4), (.int c5)] (.int (0 : Int32)) := (Arv.set Ar264 q264 S264 M264 H264 U264 ft264 W264 5 rfl (Nat.le_of_ble_eq_true rfl))
                have hk := Nat.le_trans hk (Keep.of_wr W264).1
                have N264 := Fr.snoc X264 N257 g_b223
                have O264 := O257.wr W264 g_b223
                have K264 := K257.wr W264 (Or.inr sz_b223)
                refine own_goW st264 ?_
                show own_GoesW _ _ _ _ _ _ _ (T264.setTop (mkF m 235 #[.val (.ref b), .val (.int x9)] [(.ref b223), (.ref b219), (.ref b219)]))
                have hp_b219 : ∀ c ∈ ([c0, c1, c2, c3, c4, c5] : List Int32), ¬ c < 0 ∧ ¬ (255 : Int32) < c := (own_allc bc0 (own_allc bc1 (own_allc bc2 (own_allc bc3 (own_allc bc4 (own_allc bc5 (fun _ q => nomatch q)))))))
                obtain ⟨_, _, ⟨T270, L270, k270, n270⟩, -, X270, ⟨Lc270, hQ270, l270, y270, z270⟩, st270⟩ := X264.specialBack hx (y := (⟨"java/lang/String", "<init>", "([C)V"⟩ : MethodName)) rfl hown (mvT hZ (hw _ (List.mem_of_getElem? (i := 16) rfl))) (mvT hZ (hw _ (List.mem_of_getElem? (i := 17) rfl))) (mvT hZ (hw _ (List.mem_of_getElem? (i := 18) rfl))) (by decide) (StrChars.Road.backV (W := 1) hZ (own_words hw) (kI := 4) (hw _ (List.mem_of_getElem? (i := 14) rfl)) (cs := ([c0, c1, c2, c3, c4, c5] : List Int32)) (bs := (([c0, c1, c2, c3, c4, c5] : List Int32)).map (fun c => c.toInt8.toInt32)) (n := 6) g_b219 (own_ns O264) f268 f266 f267 f269 (SC.ext O264.2) hzc rfl rfl (by decide) (by decide) hp_b219 rfl (by decide) (by decide)) (g := (mkF m 235 #[.val (.ref b), .val (.int x9)] [(.ref b223), (.ref b219), (.ref b219)])) rfl (by rw [hml]; rfl) (Steps.refl _) (a := b219) (argsL := [(.ref b223)]) (rest := [(.ref b219)]) (lenOf pd_1 rfl) rfl (by show 2 * 0 + _ ≤ _; exact Nat.le_of_eq rfl) (hb hby d2_235) (fun _ _ => ⟨rfl, e264, (by decide : 2 + 1 ≤ _), (by decide : 10 + 6 ≤ _)⟩)
                dsimp only [Pt.U, Pt.locs, Pt.cells, Pt.slots] at X270 l270 y270 z270 st270 hQ270
                subst l270 y270 z270
                obtain ⟨rfl, N270q, K270q, E270q, C270q, t270, kb270, -, G270q, -, V270q, A270q⟩ := hQ270
                have N270 := Fr.app N264 N270q
                have hk := Nat.le_trans hk (own_ks K270q)
                have ne_b_t270 : b ≠ t270 := Nat.ne_of_lt (Nat.lt_of_lt_of_le f265.lt G270q)
                have ne_b219_t270 : b219 ≠ t270 := Nat.ne_of_lt (Nat.lt_of_lt_of_le f266.lt G270q)
                have ne_b223_t270 : b223 ≠ t270 := Nat.ne_of_lt (Nat.lt_of_lt_of_le f269.lt G270q)
                have g_t270 : n0 ≤ t270 := Nat.le_trans (O264.1 ▸ O264.2.1) G270q
                have sz_t270 : h0.size ≤ t270 := Nat.le_trans (own_ks K264) G270q
                have f271 : Arv Z T270.heap b kc .char (8 : Int32) [(.int c0), (.int c1), (.int c2), (.int c3), (.int c4), (.int c5), (.int c6), (.int c7)] (.int (0 : Int32)) := (f265.keep K270q (ninS ne_b_b219 nin0))
                have f272 : Exa Z T270.heap b219 "java/lang/String" := (f268.keep K270q)
                have f273 : Arv Z T270.heap b223 k223 .char (6 : Int32) [(.int c0), (.int c1), (.int c2), (.int c3), (.int c4), (.int c5)] (.int (0 : Int32)) := (f269.keep K270q (ninS (Ne.symm ne_b219_b223) nin0))
                have O270 := O264.keep K270q (allS g_b219 all0)
                have K270 := K264.trans K270q (allS (Or.inr sz_b219) all0)
                refine own_goW (fun _ ww => Steps.trans st270 ww) ?_
                show own_GoesW _ _ _ _ _ _ _ (T270.setTop (mkF m 238 #[.val (.ref b), .val (.int x9)] [(.ref b219)]))
                exact own_outW X270 hS hk hlk (v := some (.ref b219)) (fun h => by rw [hret] at h; cases h) (fun fs hr => retOut X270 hx (t := (.object "java/lang/String")) hret rfl (Or.inr (Or.inr (Or.inr (Or.inr ⟨rfl, rfl, rfl⟩)))) (hb hby d2_238) hr) rfl ⟨b219, t270, kb270, ([c0, c1, c2, c3, c4, c5] : List Int32), (6 : Int32), [(.int (c0).toInt8.toInt32), (.int (c1).toInt8.toInt32), (.int (c2).toInt8.toInt32), (.int (c3).toInt8.toInt32), (.int (c4).toInt8.toInt32), (.int (c5).toInt8.toInt32)], rfl, N270, K270, f272, C270q, V270q, A270q, (StrChars.Road.codOf (cs := ([c0, c1, c2, c3, c4, c5] : List Int32)) (n := 6) rfl (fun c hc => (hp_b219 c hc).2)), (own_up hp_b219), (Nat.le_of_ble_eq_true rfl), (own_IBm (own_IBw X270.warmed hI))⟩ (by decide) (by decide)
              ·
                refine own_goW (fun _ ww => XS.icmpYes X0.here hx rfl (pc0 := 188) (pc' := 239) rfl (hb hby d2_188) rfl (feq hc218).2 (by decide) (by decide) ww) ?_
                show own_GoesW _ _ _ _ _ _ _ (s₁.setTop (mkF m 239 #[.val (.ref b), .val (.int x9)] []))
                refine own_goW (fun _ ww => XS.iloadN X0.here hx rfl (hb hby d2_239) rfl  ww) ?_
                show own_GoesW _ _ _ _ _ _ _ (s₁.setTop (mkF m 240 #[.val (.ref b), .val (.int x9)] [(.int x9)]))
                refine own_goW (fun _ ww => XS.bipush X0.here hx rfl (hb hby d2_240) ww) ?_
                show own_GoesW _ _ _ _ _ _ _ (s₁.setTop (mkF m 242 #[.val (.ref b), .val (.int x9)] [(.int (7 : Int32)), (.int x9)]))
                by_cases hc274 : x9 = (7 : Int32)
                ·
                  refine own_goW (fun _ ww => XS.icmpNo X0.here hx rfl (hb hby d2_242) rfl (teq hc274).2 ww) ?_
                  show own_GoesW _ _ _ _ _ _ _ (s₁.setTop (mkF m 245 #[.val (.ref b), .val (.int x9)] []))
                  obtain ⟨T275, h275, X275, e275, E275, A275, D275, -, st275⟩ := newO X0 hx hZ hown (hw _ (List.mem_of_getElem? (i := 13) rfl)) (hw _ (List.mem_of_getElem? (i := 14) rfl)) (hw _ (List.mem_of_getElem? (i := 15) rfl)) e0 (g := (mkF m 245 #[.val (.ref b), .val (.int x9)] [])) rfl (hb hby d2_245) (by decide) (by decide)
                  obtain ⟨b275, g275⟩ : ∃ z, z = h0.size := ⟨_, rfl⟩
                  rw [← g275] at A275 D275 st275
                  have ne_b_b275 : b ≠ b275 := Nat.ne_of_lt (Nat.lt_of_lt_of_le Vb.lt (Nat.le_of_eq g275.symm))
                  have g_b275 : n0 ≤ b275 := Nat.le_trans (O0.1 ▸ O0.2.1) (Nat.le_of_eq g275.symm)
                  have f276 : Arv Z h275 b kc .char (8 : Int32) [(.int c0), (.int c1), (.int c2), (.int c3), (.int c4), (.int c5), (.int c6), (.int c7)] (.int (0 : Int32)) := (Arv.ext Vb E275)
                  have O275 := O0.ext E275
                  have hk := Nat.le_trans hk E275.1
                  have sz_b275 : h0.size ≤ b275 := Nat.le_trans (own_ks (Keep.refl h0 [])) (Nat.le_of_eq g275.symm)
                  have K275 := (Keep.refl h0 []).ext E275
                  have f277 : Fld Z h275 b275 "java/lang/String" "value" "[B" .null := D275 (Or.inr (hw _ (List.mem_of_getElem? (i := 28) rfl))) (ty := (.array .byte)) (by decide)
                  have f278 : Fld Z h275 b275 "java/lang/String" "coder" "B" (.int (0 : Int32)) := D275 (Or.inr (hw _ (List.mem_of_getElem? (i := 29) rfl))) (ty := .byte) (by decide)
                  refine own_goW st275 ?_
                  show own_GoesW _ _ _ _ _ _ _ (T275.setTop (mkF m 248 #[.val (.ref b), .val (.int x9)] [(.ref b275)]))
                  refine own_goW (fun _ ww => XS.dup X275.here hx rfl (hb hby d2_248) rfl rfl ww) ?_
                  show own_GoesW _ _ _ _ _ _ _ (T275.setTop (mkF m 249 #[.val (.ref b), .val (.int x9)] [(.ref b275), (.ref b275)]))
                  refine own_goW (fun _ ww => XS.bipush X275.here hx rfl (hb hby d2_249) ww) ?_
                  show own_GoesW _ _ _ _ _ _ _ (T275.setTop (mkF m 251 #[.val (.ref b), .val (.int x9)] [(.int (7 : Int32)), (.ref b275), (.ref b275)]))
                  obtain ⟨T279, h279, k279, X279, e279, E279, A279, st279⟩ := newP X275 hx hZ (hw _ (List.mem_of_getElem? (i := 4) rfl)) e275 (g := (mkF m 251 #[.val (.ref b), .val (.int x9)] [(.int (7 : Int32)), (.ref b275), (.ref b275)])) rfl (hb hby d2_251) rfl (by decide) (cap := 7) (by decide) (by decide) (by decide) (by decide)
                  obtain ⟨b279, g279⟩ : ∃ z, z = h275.size := ⟨_, rfl⟩
                  rw [← g279] at A279 st279
                  have ne_b_b279 : b ≠ b279 := Nat.ne_of_lt (Nat.lt_of_lt_of_le f276.lt (Nat.le_of_eq g279.symm))
                  have ne_b275_b279 : b275 ≠ b279 := Nat.ne_of_lt (Nat.lt_of_lt_of_le f277.lt (Nat.le_of_eq g279.symm))
                  have g_b279 : n0 ≤ b279 := Nat.le_trans (O275.1 ▸ O275.2.1) (Nat.le_of_eq g279.symm)
                  have f280 : Arv Z h279 b kc .char (8 : Int32) [(.int c0), (.int c1), (.int c2), (.int c3), (.int c4), (.int c5), (.int c6), (.int c7)] (.int (0 : Int32)) := (Arv.ext f276 E279)
                  have f281 : Fld Z h279 b275 "java/lang/String" "value" "[B" .null := (f277.ext E279)
                  have f282 : Fld Z h279 b275 "java/lang/String" "coder" "B" (.int (0 : Int32)) := (f278.ext E279)
                  have f283 : Exa Z h279 b275 "java/lang/String" := (A275.ext E279)
                  have O279 := O275.ext E279
                  have hk := Nat.le_trans hk E279.1
                  have sz_b279 : h0.size ≤ b279 := Nat.le_trans (own_ks K275) (Nat.le_of_eq g279.symm)
                  have K279 := K275.ext E279
                  have V279 : Arv Z h279 b279 k279 .char (7 : Int32) [(.int (0 : Int32)), (.int (0 : Int32)), (.int (0 : Int32)), (.int (0 : Int32)), (.int (0 : Int32)), (.int (0 : Int32)), (.int (0 : Int32))] (.int (0 : Int32)) := (Arv.new A279 (by decide)).pad (pad_rep [] (.int (0 : Int32)) 7)
                  refine own_goW st279 ?_
                  show own_GoesW _ _ _ _ _ _ _ (T279.setTop (mkF m 253 #[.val (.ref b), .val (.int x9)] [(.ref b279), (.ref b275), (.ref b275)]))
                  refine own_goW (fun _ ww => XS.dup X279.here hx rfl (hb hby d2_253) rfl rfl ww) ?_
                  show own_GoesW _ _ _ _ _ _ _ (T279.setTop (mkF m 254 #[.val (.ref b), .val (.int x9)] [(.ref b279), (.ref b279), (.ref b275), (.ref b275)]))
                  refine own_goW (fun _ ww => XS.iconst X279.here hx rfl (hb hby d2_254) ww) ?_
                  show own_GoesW _ _ _ _ _ _ _ (T279.setTop (mkF m 255 #[.val (.ref b), .val (.int x9)] [(.int (0 : Int32)), (.ref b279), (.ref b279), (.ref b275), (.ref b275)]))
                  refine own_goW (fun _ ww => XS.aloadN X279.here hx rfl (hb hby d2_255) rfl rfl ww) ?_
                  show own_GoesW _ _ _ _ _ _ _ (T279.setTop (mkF m 256 #[.val (.ref b), .val (.int x9)] [(.ref b), (.int (0 : Int32)), (.ref b279), (.ref b279), (.ref b275), (.ref b275)]))
                  refine own_goW (fun _ ww => XS.iconst X279.here hx rfl (hb hby d2_256) ww) ?_
                  show own_GoesW _ _ _ _ _ _ _ (T279.setTop (mkF m 257 #[.val (.ref b), .val (.int x9)] [(.int (0 : Int32)), (.ref b), (.int (0 : Int32)), (.ref b279), (.ref b279), (.ref b275), (.ref b275)]))
                  obtain ⟨cl284, Ar284, -, S284, -, H284, -⟩ := id f280
                  have hin284 := inb_of (j := (0 : Int32)) S284 ⟨by decide, by decide⟩
                  have hat284 : cl284.slots[((0 : Int32)).toNatClampNeg]? = some (.int c0) := Has.at H284 hin284 rfl
                  refine own_goW (fun _ ww => X279.caload hx (j := (0 : Int32)) (v := (.int c0)) (by rw [e279]; exact Ar284.1) (State.isArrayOf_alike hZ.alike Ar284.2.1) Ar284.2.2 hin284 hat284 (g := (mkF m 257 #[.val (.ref b), .val (.int x9)] [(.int (0 : Int32)), (.ref b), (.int (0 : Int32)), (.ref b279), (.ref b279), (.ref b275), (.ref b275)])) rfl rfl (hb hby d2_257) _ ww) ?_
                  show own_GoesW _ _ _ _ _ _ _ (T279.setTop (mkF m 258 #[.val (.ref b), .val (.int x9)] [(.int c0), (.int (0 : Int32)), (.ref b279), (.ref b279), (.ref b275), (.ref b275)]))
                  obtain ⟨cl285, Ar285, q285, S285, M285, H285, U285⟩ := id V279
                  obtain ⟨T285, h285, X285, e285, W285, st285⟩ := stC X279 hx hZ e279 Ar285 (j := (0 : Int32)) (inb_of S285 ⟨by decide, by decide⟩) (g := (mkF m 258 #[.val (.ref b), .val (.int x9)] [(.int c0), (.int (0 : Int32)), (.ref b279), (.ref b279), (.ref b275), (.ref b275)])) rfl rfl (hb hby d2_258)
                  have nr285 : nar .char c0 = c0 := (own_narc bc0)
                  rw [nr285] at W285
                  have ft285 : fits .char (.int c0) = true := by have q := fits_nar_char c0; rw [nr285] at q; exact q
                  have f286 : Arv Z h285 b kc .char (8 : Int32) [(.int c0), (.int c1), (.int c2), (.int c3), (.int c4), (.int c5), (.int c6), (.int c7)] (.int (0 : Int32)) := (f280.other W285 ne_b_b279)
                  have f287 : Fld Z h285 b275 "java/lang/String" "value" "[B" .null := (f281.other W285 (Or.inl ne_b275_b279))
                  have f288 : Fld Z h285 b275 "java/lang/String" "coder" "B" (.int (0 : Int32)) := (f282.other W285 (Or.inl ne_b275_b279))
                  have f289 : Exa Z h285 b275 "java/lang/String" := (f283.wr W285)
                  have f290 : Arv Z h285 b279 k279 .char (7 : Int32) [(.int c0), (.int (0 : Int32)), (.int (0 : Int32)), (.int (0 : Int32)), (.int (0 : Int32)), (.int (0 : Int32)), (.int (0 : Int32))] (.int (0 : Int32)) := (Arv.set Ar285 q285 S285 M285 H285 U285 ft285 W285 0 rfl (Nat.le_of_ble_eq_true rfl))
                  have hk := Nat.le_trans hk (Keep.of_wr W285).1
                  have N285 := Fr.snoc X285 N0 g_b279
                  have O285 := O279.wr W285 g_b279
                  have K285 := K279.wr W285 (Or.inr sz_b279)
                  refine own_goW st285 ?_
                  show own_GoesW _ _ _ _ _ _ _ (T285.setTop (mkF m 259 #[.val (.ref b), .val (.int x9)] [(.ref b279), (.ref b275), (.ref b275)]))
                  refine own_goW (fun _ ww => XS.dup X285.here hx rfl (hb hby d2_259) rfl rfl ww) ?_
                  show own_GoesW _ _ _ _ _ _ _ (T285.setTop (mkF m 260 #[.val (.ref b), .val (.int x9)] [(.ref b279), (.ref b279), (.ref b275), (.ref b275)]))
                  refine own_goW (fun _ ww => XS.iconst X285.here hx rfl (hb hby d2_260) ww) ?_
                  show own_GoesW _ _ _ _ _ _ _ (T285.setTop (mkF m 261 #[.val (.ref b), .val (.int x9)] [(.int (1 : Int32)), (.ref b279), (.ref b279), (.ref b275), (.ref b275)]))
                  refine own_goW (fun _ ww => XS.aloadN X285.here hx rfl (hb hby d2_261) rfl rfl ww) ?_
                  show own_GoesW _ _ _ _ _ _ _ (T285.setTop (mkF m 262 #[.val (.ref b), .val (.int x9)] [(.ref b), (.int (1 : Int32)), (.ref b279), (.ref b279), (.ref b275), (.ref b275)]))
                  refine own_goW (fun _ ww => XS.iconst X285.here hx rfl (hb hby d2_262) ww) ?_
                  show own_GoesW _ _ _ _ _ _ _ (T285.setTop (mkF m 263 #[.val (.ref b), .val (.int x9)] [(.int (1 : Int32)), (.ref b), (.int (1 : Int32)), (.ref b279), (.ref b279), (.ref b275), (.ref b275)]))
                  obtain ⟨cl291, Ar291, -, S291, -, H291, -⟩ := id f286
                  have hin291 := inb_of (j := (1 : Int32)) S291 ⟨by decide, by decide⟩
                  have hat291 : cl291.slots[((1 : Int32)).toNatClampNeg]? = some (.int c1) := Has.at H291 hin291 rfl
                  refine own_goW (fun _ ww => X285.caload hx (j := (1 : Int32)) (v := (.int c1)) (by rw [e285]; exact Ar291.1) (State.isArrayOf_alike hZ.alike Ar291.2.1) Ar291.2.2 hin291 hat291 (g := (mkF m 263 #[.val (.ref b), .val (.int x9)] [(.int (1 : Int32)), (.ref b), (.int (1 : Int32)), (.ref b279), (.ref b279), (.ref b275), (.ref b275)])) rfl rfl (hb hby d2_263) _ ww) ?_
                  show own_GoesW _ _ _ _ _ _ _ (T285.setTop (mkF m 264 #[.val (.ref b), .val (.int x9)] [(.int c1), (.int (1 : Int32)), (.ref b279), (.ref b279), (.ref b275), (.ref b275)]))
                  obtain ⟨cl292, Ar292, q292, S292, M292, H292, U292⟩ := id f290
                  obtain ⟨T292, h292, X292, e292, W292, st292⟩ := stC X285 hx hZ e285 Ar292 (j := (1 : Int32)) (inb_of S292 ⟨by decide, by decide⟩) (g := (mkF m 264 #[.val (.ref b), .val (.int x9)] [(.int c1), (.int (1 : Int32)), (.ref b279), (.ref b279), (.ref b275), (.ref b275)])) rfl rfl (hb hby d2_264)
                  have nr292 : nar .char c1 = c1 := (own_narc bc1)
                  rw [nr292] at W292
                  have ft292 : fits .char (.int c1) = true := by have q := fits_nar_char c1; rw [nr292] at q; exact q
                  have f293 : Arv Z h292 b kc .char (8 : Int32) [(.int c0), (.int c1), (.int c2), (.int c3), (.int c4), (.int c5), (.int c6), (.int c7)] (.int (0 : Int32)) := (f286.other W292 ne_b_b279)
                  have f294 : Fld Z h292 b275 "java/lang/String" "value" "[B" .null := (f287.other W292 (Or.inl ne_b275_b279))
                  have f295 : Fld Z h292 b275 "java/lang/String" "coder" "B" (.int (0 : Int32)) := (f288.other W292 (Or.inl ne_b275_b279))
                  have f296 : Exa Z h292 b275 "java/lang/String" := (f289.wr W292)
                  have f297 : Arv Z h292 b279 k279 .char (7 : Int32) [(.int c0), (.int c1), (.int (0 : Int32)), (.int (0 : Int32)), (.int (0 : Int32)), (.int (0 : Int32)), (.int (0 : Int32))] (.int (0 : Int32)) := (Arv.set Ar292 q292 S292 M292 H292 U292 ft292 W292 1 rfl (Nat.le_of_ble_eq_true rfl))
                  have hk := Nat.le_trans hk (Keep.of_wr W292).1
                  have N292 := Fr.snoc X292 N285 g_b279
                  have O292 := O285.wr W292 g_b279
                  have K292 := K285.wr W292 (Or.inr sz_b279)
                  refine own_goW st292 ?_
                  show own_GoesW _ _ _ _ _ _ _ (T292.setTop (mkF m 265 #[.val (.ref b), .val (.int x9)] [(.ref b279), (.ref b275), (.ref b275)]))
                  refine own_goW (fun _ ww => XS.dup X292.here hx rfl (hb hby d2_265) rfl rfl ww) ?_
                  show own_GoesW _ _ _ _ _ _ _ (T292.setTop (mkF m 266 #[.val (.ref b), .val (.int x9)] [(.ref b279), (.ref b279), (.ref b275), (.ref b275)]))
                  refine own_goW (fun _ ww => XS.iconst X292.here hx rfl (hb hby d2_266) ww) ?_
                  show own_GoesW _ _ _ _ _ _ _ (T292.setTop (mkF m 267 #[.val (.ref b), .val (.int x9)] [(.int (2 : Int32)), (.ref b279), (.ref b279), (.ref b275), (.ref b275)]))
                  refine own_goW (fun _ ww => XS.aloadN X292.here hx rfl (hb hby d2_267) rfl rfl ww) ?_
                  show own_GoesW _ _ _ _ _ _ _ (T292.setTop (mkF m 268 #[.val (.ref b), .val (.int x9)] [(.ref b), (.int (2 : Int32)), (.ref b279), (.ref b279), (.ref b275), (.ref b275)]))
                  refine own_goW (fun _ ww => XS.iconst X292.here hx rfl (hb hby d2_268) ww) ?_
                  show own_GoesW _ _ _ _ _ _ _ (T292.setTop (mkF m 269 #[.val (.ref b), .val (.int x9)] [(.int (2 : Int32)), (.ref b), (.int (2 : Int32)), (.ref b279), (.ref b279), (.ref b275), (.ref b275)]))
                  obtain ⟨cl298, Ar298, -, S298, -, H298, -⟩ := id f293
                  have hin298 := inb_of (j := (2 : Int32)) S298 ⟨by decide, by decide⟩
                  have hat298 : cl298.slots[((2 : Int32)).toNatClampNeg]? = some (.int c2) := Has.at H298 hin298 rfl
                  refine own_goW (fun _ ww => X292.caload hx (j := (2 : Int32)) (v := (.int c2)) (by rw [e292]; exact Ar298.1) (State.isArrayOf_alike hZ.alike Ar298.2.1) Ar298.2.2 hin298 hat298 (g := (mkF m 269 #[.val (.ref b), .val (.int x9)] [(.int (2 : Int32)), (.ref b), (.int (2 : Int32)), (.ref b279), (.ref b279), (.ref b275), (.ref b275)])) rfl rfl (hb hby d2_269) _ ww) ?_
                  show own_GoesW _ _ _ _ _ _ _ (T292.setTop (mkF m 270 #[.val (.ref b), .val (.int x9)] [(.int c2), (.int (2 : Int32)), (.ref b279), (.ref b279), (.ref b275), (.ref b275)]))
                  obtain ⟨cl299, Ar299, q299, S299, M299, H299, U299⟩ := id f297
                  obtain ⟨T299, h299, X299, e299, W299, st299⟩ := stC X292 hx hZ e292 Ar299 (j := (2 : Int32)) (inb_of S299 ⟨by decide, by decide⟩) (g := (mkF m 270 #[.val (.ref b), .val (.int x9)] [(.int c2), (.int (2 : Int32)), (.ref b279), (.ref b279), (.ref b275), (.ref b275)])) rfl rfl (hb hby d2_270)
                  have nr299 : nar .char c2 = c2 := (own_narc bc2)
                  rw [nr299] at W299
                  have ft299 : fits .char (.int c2) = true := by have q := fits_nar_char c2; rw [nr299] at q; exact q
                  have f300 : Arv Z h299 b kc .char (8 : Int32) [(.int c0), (.int c1), (.int c2), (.int c3), (.int c4), (.int c5), (.int c6), (.int c7)] (.int (0 : Int32)) := (f293.other W299 ne_b_b279)
                  have f301 : Fld Z h299 b275 "java/lang/String" "value" "[B" .null := (f294.other W299 (Or.inl ne_b275_b279))
                  have f302 : Fld Z h299 b275 "java/lang/String" "coder" "B" (.int (0 : Int32)) := (f295.other W299 (Or.inl ne_b275_b279))
                  have f303 : Exa Z h299 b275 "java/lang/String" := (f296.wr W299)
                  have f304 : Arv Z h299 b279 k279 .char (7 : Int32) [(.int c0), (.int c1), (.int c2), (.int (0 : Int32)), (.int (0 : Int32)), (.int (0 : Int32)), (.int (0 : Int32))] (.int (0 : Int32)) := (Arv.set Ar299 q299 S299 M299 H299 U299 ft299 W299 2 rfl (Nat.le_of_ble_eq_true rfl))
                  have hk := Nat.le_trans hk (Keep.of_wr W299).1
                  have N299 := Fr.snoc X299 N292 g_b279
                  have O299 := O292.wr W299 g_b279
                  have K299 := K292.wr W299 (Or.inr sz_b279)
                  refine own_goW st299 ?_
                  show own_GoesW _ _ _ _ _ _ _ (T299.setTop (mkF m 271 #[.val (.ref b), .val (.int x9)] [(.ref b279), (.ref b275), (.ref b275)]))
                  refine own_goW (fun _ ww => XS.dup X299.here hx rfl (hb hby d2_271) rfl rfl ww) ?_
                  show own_GoesW _ _ _ _ _ _ _ (T299.setTop (mkF m 272 #[.val (.ref b), .val (.int x9)] [(.ref b279), (.ref b279), (.ref b275), (.ref b275)]))
                  refine own_goW (fun _ ww => XS.iconst X299.here hx rfl (hb hby d2_272) ww) ?_
                  show own_GoesW _ _ _ _ _ _ _ (T299.setTop (mkF m 273 #[.val (.ref b), .val (.int x9)] [(.int (3 : Int32)), (.ref b279), (.ref b279), (.ref b275), (.ref b275)]))
                  refine own_goW (fun _ ww => XS.aloadN X299.here hx rfl (hb hby d2_273) rfl rfl ww) ?_
                  show own_GoesW _ _ _ _ _ _ _ (T299.setTop (mkF m 274 #[.val (.ref b), .val (.int x9)] [(.ref b), (.int (3 : Int32)), (.ref b279), (.ref b279), (.ref b275), (.ref b275)]))
                  refine own_goW (fun _ ww => XS.iconst X299.here hx rfl (hb hby d2_274) ww) ?_
                  show own_GoesW _ _ _ _ _ _ _ (T299.setTop (mkF m 275 #[.val (.ref b), .val (.int x9)] [(.int (3 : Int32)), (.ref b), (.int (3 : Int32)), (.ref b279), (.ref b279), (.ref b275), (.ref b275)]))
                  obtain ⟨cl305, Ar305, -, S305, -, H305, -⟩ := id f300
                  have hin305 := inb_of (j := (3 : Int32)) S305 ⟨by decide, by decide⟩
                  have hat305 : cl305.slots[((3 : Int32)).toNatClampNeg]? = some (.int c3) := Has.at H305 hin305 rfl
                  refine own_goW (fun _ ww => X299.caload hx (j := (3 : Int32)) (v := (.int c3)) (by rw [e299]; exact Ar305.1) (State.isArrayOf_alike hZ.alike Ar305.2.1) Ar305.2.2 hin305 hat305 (g := (mkF m 275 #[.val (.ref b), .val (.int x9)] [(.int (3 : Int32)), (.ref b), (.int (3 : Int32)), (.ref b279), (.ref b279), (.ref b275), (.ref b275)])) rfl rfl (hb hby d2_275) _ ww) ?_
                  show own_GoesW _ _ _ _ _ _ _ (T299.setTop (mkF m 276 #[.val (.ref b), .val (.int x9)] [(.int c3), (.int (3 : Int32)), (.ref b279), (.ref b279), (.ref b275), (.ref b275)]))
                  obtain ⟨cl306, Ar306, q306, S306, M306, H306, U306⟩ := id f304
                  obtain ⟨T306, h306, X306, e306, W306, st306⟩ := stC X299 hx hZ e299 Ar306 (j := (3 : Int32)) (inb_of S306 ⟨by decide, by decide⟩) (g := (mkF m 276 #[.val (.ref b), .val (.int x9)] [(.int c3), (.int (3 : Int32)), (.ref b279), (.ref b279), (.ref b275), (.ref b275)])) rfl rfl (hb hby d2_276)
                  have nr306 : nar .char c3 = c3 := (own_narc bc3)
                  rw [nr306] at W306
                  have ft306 : fits .char (.int c3) = true := by have q := fits_nar_char c3; rw [nr306] at q; exact q
                  have f307 : Arv Z h306 b kc .char (8 : Int32) [(.int c0), (.int c1), (.int c2), (.int c3), (.int c4), (.int c5), (.int c6), (.int c7)] (.int (0 : Int32)) := (f300.other W306 ne_b_b279)
                  have f308 : Fld Z h306 b275 "java/lang/String" "value" "[B" .null := (f301.other W306 (Or.inl ne_b275_b279))
                  have f309 : Fld Z h306 b275 "java/lang/String" "coder" "B" (.int (0 : Int32)) := (f302.other W306 (Or.inl ne_b275_b279))
                  have f310 : Exa Z h306 b275 "java/lang/String" := (f303.wr W306)
                  have f311 : Arv Z h306 b279 k279 .char (7 : Int32) [(.int c0), (.int c1), (.int c2), (.int c3), (.int (0 : Int32)), (.int (0 : Int32)), (.int (0 : Int32))] (.int (0 : Int32)) := (Arv.set Ar306 q306 S306 M306 H306 U306 ft306 W306 3 rfl (Nat.le_of_ble_eq_true rfl))
                  have hk := Nat.le_trans hk (Keep.of_wr W306).1
                  have N306 := Fr.snoc X306 N299 g_b279
                  have O306 := O299.wr W306 g_b279
                  have K306 := K299.wr W306 (Or.inr sz_b279)
                  refine own_goW st306 ?_
                  show own_GoesW _ _ _ _ _ _ _ (T306.setTop (mkF m 277 #[.val (.ref b), .val (.int x9)] [(.ref b279), (.ref b275), (.ref b275)]))
                  refine own_goW (fun _ ww => XS.dup X306.here hx rfl (hb hby d2_277) rfl rfl ww) ?_
                  show own_GoesW _ _ _ _ _ _ _ (T306.setTop (mkF m 278 #[.val (.ref b), .val (.int x9)] [(.ref b279), (.ref b279), (.ref b275), (.ref b275)]))
                  refine own_goW (fun _ ww => XS.iconst X306.here hx rfl (hb hby d2_278) ww) ?_
                  show own_GoesW _ _ _ _ _ _ _ (T306.setTop (mkF m 279 #[.val (.ref b), .val (.int x9)] [(.int (4 : Int32)), (.ref b279), (.ref b279), (.ref b275), (.ref b275)]))
                  refine own_goW (fun _ ww => XS.aloadN X306.here hx rfl (hb hby d2_279) rfl rfl ww) ?_
                  show own_GoesW _ _ _ _ _ _ _ (T306.setTop (mkF m 280 #[.val (.ref b), .val (.int x9)] [(.ref b), (.int (4 : Int32)), (.ref b279), (.ref b279), (.ref b275), (.ref b275)]))
                  refine own_goW (fun _ ww => XS.iconst X306.here hx rfl (hb hby d2_280) ww) ?_
                  show own_GoesW _ _ _ _ _ _ _ (T306.setTop (mkF m 281 #[.val (.ref b), .val (.int x9)] [(.int (4 : Int32)), (.ref b), (.int (4 : Int32)), (.ref b279), (.ref b279), (.ref b275), (.ref b275)]))
                  obtain ⟨cl312, Ar312, -, S312, -, H312, -⟩ := id f307
                  have hin312 := inb_of (j := (4 : Int32)) S312 ⟨by decide, by decide⟩
                  have hat312 : cl312.slots[((4 : Int32)).toNatClampNeg]? = some (.int c4) := Has.at H312 hin312 rfl
                  refine own_goW (fun _ ww => X306.caload hx (j := (4 : Int32)) (v := (.int c4)) (by rw [e306]; exact Ar312.1) (State.isArrayOf_alike hZ.alike Ar312.2.1) Ar312.2.2 hin312 hat312 (g := (mkF m 281 #[.val (.ref b), .val (.int x9)] [(.int (4 : Int32)), (.ref b), (.int (4 : Int32)), (.ref b279), (.ref b279), (.ref b275), (.ref b275)])) rfl rfl (hb hby d2_281) _ ww) ?_
                  show own_GoesW _ _ _ _ _ _ _ (T306.setTop (mkF m 282 #[.val (.ref b), .val (.int x9)] [(.int c4), (.int (4 : Int32)), (.ref b279), (.ref b279), (.ref b275), (.ref b275)]))
                  obtain ⟨cl313, Ar313, q313, S313, M313, H313, U313⟩ := id f311
                  obtain ⟨T313, h313, X313, e313, W313, st313⟩ := stC X306 hx hZ e306 Ar313 (j := (4 : Int32)) (inb_of S313 ⟨by decide, by decide⟩) (g := (mkF m 282 #[.val (.ref b), .val (.int x9)] [(.int c4), (.int (4 : Int32)), (.ref b279), (.ref b279), (.ref b275), (.ref b275)])) rfl rfl (hb hby d2_282)
                  have nr313 : nar .char c4 = c4 := (own_narc bc4)
                  rw [nr313] at W313
                  have ft313 : fits .char (.int c4) = true := by have q := fits_nar_char c4; rw [nr313] at q; exact q
                  have f314 : Arv Z h313 b kc .char (8 : Int32) [(.int c0), (.int c1), (.int c2), (.int c3), (.int c4), (.int c5), (.int c6), (.int c7)] (.int (0 : Int32)) := (f307.other W313 ne_b_b279)
                  have f315 : Fld Z h313 b275 "java/lang/String" "value" "[B" .null := (f308.other W313 (Or.inl ne_b275_b279))
                  have f316 : Fld Z h313 b275 "java/lang/String" "coder" "B" (.int (0 : Int32)) := (f309.other W313 (Or.inl ne_b275_b279))
                  have f317 : Exa Z h313 b275 "java/lang/String" := (f310.wr W313)
                  have f318 : Arv Z h313 b279 k279 .char (7 : Int32) [(.int c0), (.int c1), (.int c2), (.int c3), (.int c4), (.int (0 : Int32)), (.int (0 : Int32))] (.int (0 : Int32)) := (Arv.set Ar313 q313 S313 M313 H313 U313 ft313 W313 4 rfl (Nat.le_of_ble_eq_true rfl))
                  have hk := Nat.le_trans hk (Keep.of_wr W313).1
                  have N313 := Fr.snoc X313 N306 g_b279
                  have O313 := O306.wr W313 g_b279
                  have K313 := K306.wr W313 (Or.inr sz_b279)
                  refine own_goW st313 ?_
                  show own_GoesW _ _ _ _ _ _ _ (T313.setTop (mkF m 283 #[.val (.ref b), .val (.int x9)] [(.ref b279), (.ref b275), (.ref b275)]))
                  refine own_goW (fun _ ww => XS.dup X313.here hx rfl (hb hby d2_283) rfl rfl ww) ?_
                  show own_GoesW _ _ _ _ _ _ _ (T313.setTop (mkF m 284 #[.val (.ref b), .val (.int x9)] [(.ref b279), (.ref b279), (.ref b275), (.ref b275)]))
                  refine own_goW (fun _ ww => XS.iconst X313.here hx rfl (hb hby d2_284) ww) ?_
                  show own_GoesW _ _ _ _ _ _ _ (T313.setTop (mkF m 285 #[.val (.ref b), .val (.int x9)] [(.int (5 : Int32)), (.ref b279), (.ref b279), (.ref b275), (.ref b275)]))
                  refine own_goW (fun _ ww => XS.aloadN X313.here hx rfl (hb hby d2_285) rfl rfl ww) ?_
                  show own_GoesW _ _ _ _ _ _ _ (T313.setTop (mkF m 286 #[.val (.ref b), .val (.int x9)] [(.ref b), (.int (5 : Int32)), (.ref b279), (.ref b279), (.ref b275), (.ref b275)]))
                  refine own_goW (fun _ ww => XS.iconst X313.here hx rfl (hb hby d2_286) ww) ?_
                  show own_GoesW _ _ _ _ _ _ _ (T313.setTop (mkF m 287 #[.val (.ref b), .val (.int x9)] [(.int (5 : Int32)), (.ref b), (.int (5 : Int32)), (.ref b279), (.ref b279), (.ref b275), (.ref b275)]))
                  obtain ⟨cl319, Ar319, -, S319, -, H319, -⟩ := id f314
                  have hin319 := inb_of (j := (5 : Int32)) S319 ⟨by decide, by decide⟩
                  have hat319 : cl319.slots[((5 : Int32)).toNatClampNeg]? = some (.int c5) := Has.at H319 hin319 rfl
                  refine own_goW (fun _ ww => X313.caload hx (j := (5 : Int32)) (v := (.int c5)) (by rw [e313]; exact Ar319.1) (State.isArrayOf_alike hZ.alike Ar319.2.1) Ar319.2.2 hin319 hat319 (g := (mkF m 287 #[.val (.ref b), .val (.int x9)] [(.int (5 : Int32)), (.ref b), (.int (5 : Int32)), (.ref b279), (.ref b279), (.ref b275), (.ref b275)])) rfl rfl (hb hby d2_287) _ ww) ?_
                  show own_GoesW _ _ _ _ _ _ _ (T313.setTop (mkF m 288 #[.val (.ref b), .val (.int x9)] [(.int c5), (.int (5 : Int32)), (.ref b279), (.ref b279), (.ref b275), (.ref b275)]))
                  obtain ⟨cl320, Ar320, q320, S320, M320, H320, U320⟩ := id f318
                  obtain ⟨T320, h320, X320, e320, W320, st320⟩ := stC X313 hx hZ e313 Ar320 (j := (5 : Int32)) (inb_of S320 ⟨by decide, by decide⟩) (g := (mkF m 288 #[.val (.ref b), .val (.int x9)] [(.int c5), (.int (5 : Int32)), (.ref b279), (.ref b279), (.ref b275), (.ref b275)])) rfl rfl (hb hby d2_288)
                  have nr320 : nar .char c5 = c5 := (own_narc bc5)
                  rw [nr320] at W320
                  have ft320 : fits .char (.int c5) = true := by have q := fits_nar_char c5; rw [nr320] at q; exact q
                  have f321 : Arv Z h320 b kc .char (8 : Int32) [(.int c0), (.int c1), (.int c2), (.int c3), (.int c4), (.int c5), (.int c6), (.int c7)] (.int (0 : Int32)) := (f314.other W320 ne_b_b279)
                  have f322 : Fld Z h320 b275 "java/lang/String" "value" "[B" .null := (f315.other W320 (Or.inl ne_b275_b279))
                  have f323 : Fld Z h320 b275 "java/lang/String" "coder" "B" (.int (0 : Int32)) := (f316.other W320 (Or.inl ne_b275_b279))
                  have f324 : Exa Z h320 b275 "java/lang/String" := (f317.wr W320)
                  have f325 : Arv Z h320 b279 k279 .char (7 : Int32) [(.int c0), (.int c1), (.int c2), (.int c3), (.int c4), (.int c5), (.int (0 : Int32))] (.int (0 : Int32)) := (Arv.set Ar320 q320 S320 M320 H320 U320 ft320 W320 5 rfl (Nat.le_of_ble_eq_true rfl))
                  have hk := Nat.le_trans hk (Keep.of_wr W320).1
                  have N320 := Fr.snoc X320 N313 g_b279
                  have O320 := O313.wr W320 g_b279
                  have K320 := K313.wr W320 (Or.inr sz_b279)
                  refine own_goW st320 ?_
                  show own_GoesW _ _ _ _ _ _ _ (T320.setTop (mkF m 289 #[.val (.ref b), .val (.int x9)] [(.ref b279), (.ref b275), (.ref b275)]))
                  refine own_goW (fun _ ww => XS.dup X320.here hx rfl (hb hby d2_289) rfl rfl ww) ?_
                  show own_GoesW _ _ _ _ _ _ _ (T320.setTop (mkF m 290 #[.val (.ref b), .val (.int x9)] [(.ref b279), (.ref b279), (.ref b275), (.ref b275)]))
                  refine own_goW (fun _ ww => XS.bipush X320.here hx rfl (hb hby d2_290) ww) ?_
                  show own_GoesW _ _ _ _ _ _ _ (T320.setTop (mkF m 292 #[.val (.ref b), .val (.int x9)] [(.int (6 : Int32)), (.ref b279), (.ref b279), (.ref b275), (.ref b275)]))
                  refine own_goW (fun _ ww => XS.aloadN X320.here hx rfl (hb hby d2_292) rfl rfl ww) ?_
                  show own_GoesW _ _ _ _ _ _ _ (T320.setTop (mkF m 293 #[.val (.ref b), .val (.int x9)] [(.ref b), (.int (6 : Int32)), (.ref b279), (.ref b279), (.ref b275), (.ref b275)]))
                  refine own_goW (fun _ ww => XS.bipush X320.here hx rfl (hb hby d2_293) ww) ?_
                  show own_GoesW _ _ _ _ _ _ _ (T320.setTop (mkF m 295 #[.val (.ref b), .val (.int x9)] [(.int (6 : Int32)), (.ref b), (.int (6 : Int32)), (.ref b279), (.ref b279), (.ref b275), (.ref b275)]))
                  obtain ⟨cl326, Ar326, -, S326, -, H326, -⟩ := id f321
                  have hin326 := inb_of (j := (6 : Int32)) S326 ⟨by decide, by decide⟩
                  have hat326 : cl326.slots[((6 : Int32)).toNatClampNeg]? = some (.int c6) := Has.at H326 hin326 rfl
                  refine own_goW (fun _ ww => X320.caload hx (j := (6 : Int32)) (v := (.int c6)) (by rw [e320]; exact Ar326.1) (State.isArrayOf_alike hZ.alike Ar326.2.1) Ar326.2.2 hin326 hat326 (g := (mkF m 295 #[.val (.ref b), .val (.int x9)] [(.int (6 : Int32)), (.ref b), (.int (6 : Int32)), (.ref b279), (.ref b279), (.ref b275), (.ref b275)])) rfl rfl (hb hby d2_295) _ ww) ?_
                  show own_GoesW _ _ _ _ _ _ _ (T320.setTop (mkF m 296 #[.val (.ref b), .val (.int x9)] [(.int c6), (.int (6 : Int32)), (.ref b279), (.ref b279), (.ref b275), (.ref b275)]))
                  obtain ⟨cl327, Ar327, q327, S327, M327, H327, U327⟩ := id f325
                  obtain ⟨T327, h327, X327, e327, W327, st327⟩ := stC X320 hx hZ e320 Ar327 (j := (6 : Int32)) (inb_of S327 ⟨by decide, by decide⟩) (g := (mkF m 296 #[.val (.ref b), .val (.int x9)] [(.int c6), (.int (6 : Int32)), (.ref b279), (.ref b279), (.ref b275), (.ref b275)])) rfl rfl (hb hby d2_296)
                  have nr327 : nar .char c6 = c6 := (own_narc bc6)
                  rw [nr327] at W327
                  have ft327 : fits .char (.int c6) = true := by have q := fits_nar_char c6; rw [nr327] at q; exact q
                  have f328 : Arv Z h327 b kc .char (8 : Int32) [(.int c0), (.int c1), (.int c2), (.int c3), (.int c4), (.int c5), (.int c6), (.int c7)] (.int (0 : Int32)) := (f321.other W327 ne_b_b279)
                  have f329 : Fld Z h327 b275 "java/lang/String" "value" "[B" .null := (f322.other W327 (Or.inl ne_b275_b279))
                  have f330 : Fld Z h327 b275 "java/lang/String" "coder" "B" (.int (0 : Int32)) := (f323.other W327 (Or.inl ne_b275_b279))
                  have f331 : Exa Z h327 b275 "java/lang/String" := (f324.wr W327)
                  have f332 : Arv Z h327 b279 k279 .char (7 : Int32) [(.int c0), (.int c1), (.int c2), (.int c3), (.int c4), (.int c5), (.int c6)] (.int (0 : Int32)) := (Arv.set Ar327 q327 S327 M327 H327 U327 ft327 W327 6 rfl (Nat.le_of_ble_eq_true rfl))
                  have hk := Nat.le_trans hk (Keep.of_wr W327).1
                  have N327 := Fr.snoc X327 N320 g_b279
                  have O327 := O320.wr W327 g_b279
                  have K327 := K320.wr W327 (Or.inr sz_b279)
                  refine own_goW st327 ?_
                  show own_GoesW _ _ _ _ _ _ _ (T327.setTop (mkF m 297 #[.val (.ref b), .val (.int x9)] [(.ref b279), (.ref b275), (.ref b275)]))
                  have hp_b275 : ∀ c ∈ ([c0, c1, c2, c3, c4, c5, c6] : List Int32), ¬ c < 0 ∧ ¬ (255 : Int32) < c := (own_allc bc0 (own_allc bc1 (own_allc bc2 (own_allc bc3 (own_allc bc4 (own_allc bc5 (own_allc bc6 (fun _ q => nomatch q))))))))
                  obtain ⟨_, _, ⟨T333, L333, k333, n333⟩, -, X333, ⟨Lc333, hQ333, l333, y333, z333⟩, st333⟩ := X327.specialBack hx (y := (⟨"java/lang/String", "<init>", "([C)V"⟩ : MethodName)) rfl hown (mvT hZ (hw _ (List.mem_of_getElem? (i := 16) rfl))) (mvT hZ (hw _ (List.mem_of_getElem? (i := 17) rfl))) (mvT hZ (hw _ (List.mem_of_getElem? (i := 18) rfl))) (by decide) (StrChars.Road.backV (W := 1) hZ (own_words hw) (kI := 4) (hw _ (List.mem_of_getElem? (i := 14) rfl)) (cs := ([c0, c1, c2, c3, c4, c5, c6] : List Int32)) (bs := (([c0, c1, c2, c3, c4, c5, c6] : List Int32)).map (fun c => c.toInt8.toInt32)) (n := 7) g_b275 (own_ns O327) f331 f329 f330 f332 (SC.ext O327.2) hzc rfl rfl (by decide) (by decide) hp_b275 rfl (by decide) (by decide)) (g := (mkF m 297 #[.val (.ref b), .val (.int x9)] [(.ref b279), (.ref b275), (.ref b275)])) rfl (by rw [hml]; rfl) (Steps.refl _) (a := b275) (argsL := [(.ref b279)]) (rest := [(.ref b275)]) (lenOf pd_1 rfl) rfl (by show 2 * 0 + _ ≤ _; exact Nat.le_of_eq rfl) (hb hby d2_297) (fun _ _ => ⟨rfl, e327, (by decide : 2 + 1 ≤ _), (by decide : 11 + 7 ≤ _)⟩)
                  dsimp only [Pt.U, Pt.locs, Pt.cells, Pt.slots] at X333 l333 y333 z333 st333 hQ333
                  subst l333 y333 z333
                  obtain ⟨rfl, N333q, K333q, E333q, C333q, t333, kb333, -, G333q, -, V333q, A333q⟩ := hQ333
                  have N333 := Fr.app N327 N333q
                  have hk := Nat.le_trans hk (own_ks K333q)
                  have ne_b_t333 : b ≠ t333 := Nat.ne_of_lt (Nat.lt_of_lt_of_le f328.lt G333q)
                  have ne_b275_t333 : b275 ≠ t333 := Nat.ne_of_lt (Nat.lt_of_lt_of_le f329.lt G333q)
                  have ne_b279_t333 : b279 ≠ t333 := Nat.ne_of_lt (Nat.lt_of_lt_of_le f332.lt G333q)
                  have g_t333 : n0 ≤ t333 := Nat.le_trans (O327.1 ▸ O327.2.1) G333q
                  have sz_t333 : h0.size ≤ t333 := Nat.le_trans (own_ks K327) G333q
                  have f334 : Arv Z T333.heap b kc .char (8 : Int32) [(.int c0), (.int c1), (.int c2), (.int c3), (.int c4), (.int c5), (.int c6), (.int c7)] (.int (0 : Int32)) := (f328.keep K333q (ninS ne_b_b275 nin0))
                  have f335 : Exa Z T333.heap b275 "java/lang/String" := (f331.keep K333q)
                  have f336 : Arv Z T333.heap b279 k279 .char (7 : Int32) [(.int c0), (.int c1), (.int c2), (.int c3), (.int c4), (.int c5), (.int c6)] (.int (0 : Int32)) := (f332.keep K333q (ninS (Ne.symm ne_b275_b279) nin0))
                  have O333 := O327.keep K333q (allS g_b275 all0)
                  have K333 := K327.trans K333q (allS (Or.inr sz_b275) all0)
                  refine own_goW (fun _ ww => Steps.trans st333 ww) ?_
                  show own_GoesW _ _ _ _ _ _ _ (T333.setTop (mkF m 300 #[.val (.ref b), .val (.int x9)] [(.ref b275)]))
                  exact own_outW X333 hS hk hlk (v := some (.ref b275)) (fun h => by rw [hret] at h; cases h) (fun fs hr => retOut X333 hx (t := (.object "java/lang/String")) hret rfl (Or.inr (Or.inr (Or.inr (Or.inr ⟨rfl, rfl, rfl⟩)))) (hb hby d2_300) hr) rfl ⟨b275, t333, kb333, ([c0, c1, c2, c3, c4, c5, c6] : List Int32), (7 : Int32), [(.int (c0).toInt8.toInt32), (.int (c1).toInt8.toInt32), (.int (c2).toInt8.toInt32), (.int (c3).toInt8.toInt32), (.int (c4).toInt8.toInt32), (.int (c5).toInt8.toInt32), (.int (c6).toInt8.toInt32)], rfl, N333, K333, f335, C333q, V333q, A333q, (StrChars.Road.codOf (cs := ([c0, c1, c2, c3, c4, c5, c6] : List Int32)) (n := 7) rfl (fun c hc => (hp_b275 c hc).2)), (own_up hp_b275), (Nat.le_of_ble_eq_true rfl), (own_IBm (own_IBw X333.warmed hI))⟩ (by decide) (by decide)
                ·
                  refine own_goW (fun _ ww => XS.icmpYes X0.here hx rfl (pc0 := 242) (pc' := 301) rfl (hb hby d2_242) rfl (feq hc274).2 (by decide) (by decide) ww) ?_
                  show own_GoesW _ _ _ _ _ _ _ (s₁.setTop (mkF m 301 #[.val (.ref b), .val (.int x9)] []))
                  obtain ⟨T337, h337, X337, e337, E337, A337, D337, -, st337⟩ := newO X0 hx hZ hown (hw _ (List.mem_of_getElem? (i := 13) rfl)) (hw _ (List.mem_of_getElem? (i := 14) rfl)) (hw _ (List.mem_of_getElem? (i := 15) rfl)) e0 (g := (mkF m 301 #[.val (.ref b), .val (.int x9)] [])) rfl (hb hby d2_301) (by decide) (by decide)
                  obtain ⟨b337, g337⟩ : ∃ z, z = h0.size := ⟨_, rfl⟩
                  rw [← g337] at A337 D337 st337
                  have ne_b_b337 : b ≠ b337 := Nat.ne_of_lt (Nat.lt_of_lt_of_le Vb.lt (Nat.le_of_eq g337.symm))
                  have g_b337 : n0 ≤ b337 := Nat.le_trans (O0.1 ▸ O0.2.1) (Nat.le_of_eq g337.symm)
                  have f338 : Arv Z h337 b kc .char (8 : Int32) [(.int c0), (.int c1), (.int c2), (.int c3), (.int c4), (.int c5), (.int c6), (.int c7)] (.int (0 : Int32)) := (Arv.ext Vb E337)
                  have O337 := O0.ext E337
                  have hk := Nat.le_trans hk E337.1
                  have sz_b337 : h0.size ≤ b337 := Nat.le_trans (own_ks (Keep.refl h0 [])) (Nat.le_of_eq g337.symm)
                  have K337 := (Keep.refl h0 []).ext E337
                  have f339 : Fld Z h337 b337 "java/lang/String" "value" "[B" .null := D337 (Or.inr (hw _ (List.mem_of_getElem? (i := 28) rfl))) (ty := (.array .byte)) (by decide)
                  have f340 : Fld Z h337 b337 "java/lang/String" "coder" "B" (.int (0 : Int32)) := D337 (Or.inr (hw _ (List.mem_of_getElem? (i := 29) rfl))) (ty := .byte) (by decide)
                  refine own_goW st337 ?_
                  show own_GoesW _ _ _ _ _ _ _ (T337.setTop (mkF m 304 #[.val (.ref b), .val (.int x9)] [(.ref b337)]))
                  refine own_goW (fun _ ww => XS.dup X337.here hx rfl (hb hby d2_304) rfl rfl ww) ?_
                  show own_GoesW _ _ _ _ _ _ _ (T337.setTop (mkF m 305 #[.val (.ref b), .val (.int x9)] [(.ref b337), (.ref b337)]))
                  refine own_goW (fun _ ww => XS.bipush X337.here hx rfl (hb hby d2_305) ww) ?_
                  show own_GoesW _ _ _ _ _ _ _ (T337.setTop (mkF m 307 #[.val (.ref b), .val (.int x9)] [(.int (8 : Int32)), (.ref b337), (.ref b337)]))
                  obtain ⟨T341, h341, k341, X341, e341, E341, A341, st341⟩ := newP X337 hx hZ (hw _ (List.mem_of_getElem? (i := 4) rfl)) e337 (g := (mkF m 307 #[.val (.ref b), .val (.int x9)] [(.int (8 : Int32)), (.ref b337), (.ref b337)])) rfl (hb hby d2_307) rfl (by decide) (cap := 8) (by decide) (by decide) (by decide) (by decide)
                  obtain ⟨b341, g341⟩ : ∃ z, z = h337.size := ⟨_, rfl⟩
                  rw [← g341] at A341 st341
                  have ne_b_b341 : b ≠ b341 := Nat.ne_of_lt (Nat.lt_of_lt_of_le f338.lt (Nat.le_of_eq g341.symm))
                  have ne_b337_b341 : b337 ≠ b341 := Nat.ne_of_lt (Nat.lt_of_lt_of_le f339.lt (Nat.le_of_eq g341.symm))
                  have g_b341 : n0 ≤ b341 := Nat.le_trans (O337.1 ▸ O337.2.1) (Nat.le_of_eq g341.symm)
                  have f342 : Arv Z h341 b kc .char (8 : Int32) [(.int c0), (.int c1), (.int c2), (.int c3), (.int c4), (.int c5), (.int c6), (.int c7)] (.int (0 : Int32)) := (Arv.ext f338 E341)
                  have f343 : Fld Z h341 b337 "java/lang/String" "value" "[B" .null := (f339.ext E341)
                  have f344 : Fld Z h341 b337 "java/lang/String" "coder" "B" (.int (0 : Int32)) := (f340.ext E341)
                  have f345 : Exa Z h341 b337 "java/lang/String" := (A337.ext E341)
                  have O341 := O337.ext E341
                  have hk := Nat.le_trans hk E341.1
                  have sz_b341 : h0.size ≤ b341 := Nat.le_trans (own_ks K337) (Nat.le_of_eq g341.symm)
                  have K341 := K337.ext E341
                  have V341 : Arv Z h341 b341 k341 .char (8 : Int32) [(.int (0 : Int32)), (.int (0 : Int32)), (.int (0 : Int32)), (.int (0 : Int32)), (.int (0 : Int32)), (.int (0 : Int32)), (.int (0 : Int32)), (.int (0 : Int32))] (.int (0 : Int32)) := (Arv.new A341 (by decide)).pad (pad_rep [] (.int (0 : Int32)) 8)
                  refine own_goW st341 ?_
                  show own_GoesW _ _ _ _ _ _ _ (T341.setTop (mkF m 309 #[.val (.ref b), .val (.int x9)] [(.ref b341), (.ref b337), (.ref b337)]))
                  refine own_goW (fun _ ww => XS.dup X341.here hx rfl (hb hby d2_309) rfl rfl ww) ?_
                  show own_GoesW _ _ _ _ _ _ _ (T341.setTop (mkF m 310 #[.val (.ref b), .val (.int x9)] [(.ref b341), (.ref b341), (.ref b337), (.ref b337)]))
                  refine own_goW (fun _ ww => XS.iconst X341.here hx rfl (hb hby d2_310) ww) ?_
                  show own_GoesW _ _ _ _ _ _ _ (T341.setTop (mkF m 311 #[.val (.ref b), .val (.int x9)] [(.int (0 : Int32)), (.ref b341), (.ref b341), (.ref b337), (.ref b337)]))
                  refine own_goW (fun _ ww => XS.aloadN X341.here hx rfl (hb hby d2_311) rfl rfl ww) ?_
                  show own_GoesW _ _ _ _ _ _ _ (T341.setTop (mkF m 312 #[.val (.ref b), .val (.int x9)] [(.ref b), (.int (0 : Int32)), (.ref b341), (.ref b341), (.ref b337), (.ref b337)]))
                  refine own_goW (fun _ ww => XS.iconst X341.here hx rfl (hb hby d2_312) ww) ?_
                  show own_GoesW _ _ _ _ _ _ _ (T341.setTop (mkF m 313 #[.val (.ref b), .val (.int x9)] [(.int (0 : Int32)), (.ref b), (.int (0 : Int32)), (.ref b341), (.ref b341), (.ref b337), (.ref b337)]))
                  obtain ⟨cl346, Ar346, -, S346, -, H346, -⟩ := id f342
                  have hin346 := inb_of (j := (0 : Int32)) S346 ⟨by decide, by decide⟩
                  have hat346 : cl346.slots[((0 : Int32)).toNatClampNeg]? = some (.int c0) := Has.at H346 hin346 rfl
                  refine own_goW (fun _ ww => X341.caload hx (j := (0 : Int32)) (v := (.int c0)) (by rw [e341]; exact Ar346.1) (State.isArrayOf_alike hZ.alike Ar346.2.1) Ar346.2.2 hin346 hat346 (g := (mkF m 313 #[.val (.ref b), .val (.int x9)] [(.int (0 : Int32)), (.ref b), (.int (0 : Int32)), (.ref b341), (.ref b341), (.ref b337), (.ref b337)])) rfl rfl (hb hby d2_313) _ ww) ?_
                  show own_GoesW _ _ _ _ _ _ _ (T341.setTop (mkF m 314 #[.val (.ref b), .val (.int x9)] [(.int c0), (.int (0 : Int32)), (.ref b341), (.ref b341), (.ref b337), (.ref b337)]))
                  obtain ⟨cl347, Ar347, q347, S347, M347, H347, U347⟩ := id V341
                  obtain ⟨T347, h347, X347, e347, W347, st347⟩ := stC X341 hx hZ e341 Ar347 (j := (0 : Int32)) (inb_of S347 ⟨by decide, by decide⟩) (g := (mkF m 314 #[.val (.ref b), .val (.int x9)] [(.int c0), (.int (0 : Int32)), (.ref b341), (.ref b341), (.ref b337), (.ref b337)])) rfl rfl (hb hby d2_314)
                  have nr347 : nar .char c0 = c0 := (own_narc bc0)
                  rw [nr347] at W347
                  have ft347 : fits .char (.int c0) = true := by have q := fits_nar_char c0; rw [nr347] at q; exact q
                  have f348 : Arv Z h347 b kc .char (8 : Int32) [(.int c0), (.int c1), (.int c2), (.int c3), (.int c4), (.int c5), (.int c6), (.int c7)] (.int (0 : Int32)) := (f342.other W347 ne_b_b341)
                  have f349 : Fld Z h347 b337 "java/lang/String" "value" "[B" .null := (f343.other W347 (Or.inl ne_b337_b341))
                  have f350 : Fld Z h347 b337 "java/lang/String" "coder" "B" (.int (0 : Int32)) := (f344.other W347 (Or.inl ne_b337_b341))
                  have f351 : Exa Z h347 b337 "java/lang/String" := (f345.wr W347)
                  have f352 : Arv Z h347 b341 k341 .char (8 : Int32) [(.int c0), (.int (0 : Int32)), (.int (0 : Int32)), (.int (0 : Int32)), (.int (0 : Int32)), (.int (0 : Int32)), (.int (0 : Int32)), (.int (0 : Int32))] (.int (0 : Int32)) := (Arv.set Ar347 q347 S347 M347 H347 U347 ft347 W347 0 rfl (Nat.le_of_ble_eq_true rfl))
                  have hk := Nat.le_trans hk (Keep.of_wr W347).1
                  have N347 := Fr.snoc X347 N0 g_b341
                  have O347 := O341.wr W347 g_b341
                  have K347 := K341.wr W347 (Or.inr sz_b341)
                  refine own_goW st347 ?_
                  show own_GoesW _ _ _ _ _ _ _ (T347.setTop (mkF m 315 #[.val (.ref b), .val (.int x9)] [(.ref b341), (.ref b337), (.ref b337)]))
                  refine own_goW (fun _ ww => XS.dup X347.here hx rfl (hb hby d2_315) rfl rfl ww) ?_
                  show own_GoesW _ _ _ _ _ _ _ (T347.setTop (mkF m 316 #[.val (.ref b), .val (.int x9)] [(.ref b341), (.ref b341), (.ref b337), (.ref b337)]))
                  refine own_goW (fun _ ww => XS.iconst X347.here hx rfl (hb hby d2_316) ww) ?_
                  show own_GoesW _ _ _ _ _ _ _ (T347.setTop (mkF m 317 #[.val (.ref b), .val (.int x9)] [(.int (1 : Int32)), (.ref b341), (.ref b341), (.ref b337), (.ref b337)]))
                  refine own_goW (fun _ ww => XS.aloadN X347.here hx rfl (hb hby d2_317) rfl rfl ww) ?_
                  show own_GoesW _ _ _ _ _ _ _ (T347.setTop (mkF m 318 #[.val (.ref b), .val (.int x9)] [(.ref b), (.int (1 : Int32)), (.ref b341), (.ref b341), (.ref b337), (.ref b337)]))
                  refine own_goW (fun _ ww => XS.iconst X347.here hx rfl (hb hby d2_318) ww) ?_
                  show own_GoesW _ _ _ _ _ _ _ (T347.setTop (mkF m 319 #[.val (.ref b), .val (.int x9)] [(.int (1 : Int32)), (.ref b), (.int (1 : Int32)), (.ref b341), (.ref b341), (.ref b337), (.ref b337)]))
                  obtain ⟨cl353, Ar353, -, S353, -, H353, -⟩ := id f348
                  have hin353 := inb_of (j := (1 : Int32)) S353 ⟨by decide, by decide⟩
                  have hat353 : cl353.slots[((1 : Int32)).toNatClampNeg]? = some (.int c1) := Has.at H353 hin353 rfl
                  refine own_goW (fun _ ww => X347.caload hx (j := (1 : Int32)) (v := (.int c1)) (by rw [e347]; exact Ar353.1) (State.isArrayOf_alike hZ.alike Ar353.2.1) Ar353.2.2 hin353 hat353 (g := (mkF m 319 #[.val (.ref b), .val (.int x9)] [(.int (1 : Int32)), (.ref b), (.int (1 : Int32)), (.ref b341), (.ref b341), (.ref b337), (.ref b337)])) rfl rfl (hb hby d2_319) _ ww) ?_
                  show own_GoesW _ _ _ _ _ _ _ (T347.setTop (mkF m 320 #[.val (.ref b), .val (.int x9)] [(.int c1), (.int (1 : Int32)), (.ref b341), (.ref b341), (.ref b337), (.ref b337)]))
                  obtain ⟨cl354, Ar354, q354, S354, M354, H354, U354⟩ := id f352
                  obtain ⟨T354, h354, X354, e354, W354, st354⟩ := stC X347 hx hZ e347 Ar354 (j := (1 : Int32)) (inb_of S354 ⟨by decide, by decide⟩) (g := (mkF m 320 #[.val (.ref b), .val (.int x9)] [(.int c1), (.int (1 : Int32)), (.ref b341), (.ref b341), (.ref b337), (.ref b337)])) rfl rfl (hb hby d2_320)
                  have nr354 : nar .char c1 = c1 := (own_narc bc1)
                  rw [nr354] at W354
                  have ft354 : fits .char (.int c1) = true := by have q := fits_nar_char c1; rw [nr354] at q; exact q
                  have f355 : Arv Z h354 b kc .char (8 : Int32) [(.int c0), (.int c1), (.int c2), (.int c3), (.int c4), (.int c5), (.int c6), (.int c7)] (.int (0 : Int32)) := (f348.other W354 ne_b_b341)
                  have f356 : Fld Z h354 b337 "java/lang/String" "value" "[B" .null := (f349.other W354 (Or.inl ne_b337_b341))
                  have f357 : Fld Z h354 b337 "java/lang/String" "coder" "B" (.int (0 : Int32)) := (f350.other W354 (Or.inl ne_b337_b341))
                  have f358 : Exa Z h354 b337 "java/lang/String" := (f351.wr W354)
                  have f359 : Arv Z h354 b341 k341 .char (8 : Int32) [(.int c0), (.int c1), (.int (0 : Int32)), (.int (0 : Int32)), (.int (0 : Int32)), (.int (0 : Int32)), (.int (0 : Int32)), (.int (0 : Int32))] (.int (0 : Int32)) := (Arv.set Ar354 q354 S354 M354 H354 U354 ft354 W354 1 rfl (Nat.le_of_ble_eq_true rfl))
                  have hk := Nat.le_trans hk (Keep.of_wr W354).1
                  have N354 := Fr.snoc X354 N347 g_b341
                  have O354 := O347.wr W354 g_b341
                  have K354 := K347.wr W354 (Or.inr sz_b341)
                  refine own_goW st354 ?_
                  show own_GoesW _ _ _ _ _ _ _ (T354.setTop (mkF m 321 #[.val (.ref b), .val (.int x9)] [(.ref b341), (.ref b337), (.ref b337)]))
                  refine own_goW (fun _ ww => XS.dup X354.here hx rfl (hb hby d2_321) rfl rfl ww) ?_
                  show own_GoesW _ _ _ _ _ _ _ (T354.setTop (mkF m 322 #[.val (.ref b), .val (.int x9)] [(.ref b341), (.ref b341), (.ref b337), (.ref b337)]))
                  refine own_goW (fun _ ww => XS.iconst X354.here hx rfl (hb hby d2_322) ww) ?_
                  show own_GoesW _ _ _ _ _ _ _ (T354.setTop (mkF m 323 #[.val (.ref b), .val (.int x9)] [(.int (2 : Int32)), (.ref b341), (.ref b341), (.ref b337), (.ref b337)]))
                  refine own_goW (fun _ ww => XS.aloadN X354.here hx rfl (hb hby d2_323) rfl rfl ww) ?_
                  show own_GoesW _ _ _ _ _ _ _ (T354.setTop (mkF m 324 #[.val (.ref b), .val (.int x9)] [(.ref b), (.int (2 : Int32)), (.ref b341), (.ref b341), (.ref b337), (.ref b337)]))
                  refine own_goW (fun _ ww => XS.iconst X354.here hx rfl (hb hby d2_324) ww) ?_
                  show own_GoesW _ _ _ _ _ _ _ (T354.setTop (mkF m 325 #[.val (.ref b), .val (.int x9)] [(.int (2 : Int32)), (.ref b), (.int (2 : Int32)), (.ref b341), (.ref b341), (.ref b337), (.ref b337)]))
                  obtain ⟨cl360, Ar360, -, S360, -, H360, -⟩ := id f355
                  have hin360 := inb_of (j := (2 : Int32)) S360 ⟨by decide, by decide⟩
                  have hat360 : cl360.slots[((2 : Int32)).toNatClampNeg]? = some (.int c2) := Has.at H360 hin360 rfl
                  refine own_goW (fun _ ww => X354.caload hx (j := (2 : Int32)) (v := (.int c2)) (by rw [e354]; exact Ar360.1) (State.isArrayOf_alike hZ.alike Ar360.2.1) Ar360.2.2 hin360 hat360 (g := (mkF m 325 #[.val (.ref b), .val (.int x9)] [(.int (2 : Int32)), (.ref b), (.int (2 : Int32)), (.ref b341), (.ref b341), (.ref b337), (.ref b337)])) rfl rfl (hb hby d2_325) _ ww) ?_
                  show own_GoesW _ _ _ _ _ _ _ (T354.setTop (mkF m 326 #[.val (.ref b), .val (.int x9)] [(.int c2), (.int (2 : Int32)), (.ref b341), (.ref b341), (.ref b337), (.ref b337)]))
                  obtain ⟨cl361, Ar361, q361, S361, M361, H361, U361⟩ := id f359
                  obtain ⟨T361, h361, X361, e361, W361, st361⟩ := stC X354 hx hZ e354 Ar361 (j := (2 : Int32)) (inb_of S361 ⟨by decide, by decide⟩) (g := (mkF m 326 #[.val (.ref b), .val (.int x9)] [(.int c2), (.int (2 : Int32)), (.ref b341), (.ref b341), (.ref b337), (.ref b337)])) rfl rfl (hb hby d2_326)
                  have nr361 : nar .char c2 = c2 := (own_narc bc2)
                  rw [nr361] at W361
                  have ft361 : fits .char (.int c2) = true := by have q := fits_nar_char c2; rw [nr361] at q; exact q
                  have f362 : Arv Z h361 b kc .char (8 : Int32) [(.int c0), (.int c1), (.int c2), (.int c3), (.int c4), (.int c5), (.int c6), (.int c7)] (.int (0 : Int32)) := (f355.other W361 ne_b_b341)
                  have f363 : Fld Z h361 b337 "java/lang/String" "value" "[B" .null := (f356.other W361 (Or.inl ne_b337_b341))
                  have f364 : Fld Z h361 b337 "java/lang/String" "coder" "B" (.int (0 : Int32)) := (f357.other W361 (Or.inl ne_b337_b341))
                  have f365 : Exa Z h361 b337 "java/lang/String" := (f358.wr W361)
                  have f366 : Arv Z h361 b341 k341 .char (8 : Int32) [(.int c0), (.int c1), (.int c2), (.int (0 : Int32)), (.int (0 : Int32)), (.int (0 : Int32)), (.int (0 : Int32)), (.int (0 : Int32))] (.int (0 : Int32)) := (Arv.set Ar361 q361 S361 M361 H361 U361 ft361 W361 2 rfl (Nat.le_of_ble_eq_true rfl))
                  have hk := Nat.le_trans hk (Keep.of_wr W361).1
                  have N361 := Fr.snoc X361 N354 g_b341
                  have O361 := O354.wr W361 g_b341
                  have K361 := K354.wr W361 (Or.inr sz_b341)
                  refine own_goW st361 ?_
                  show own_GoesW _ _ _ _ _ _ _ (T361.setTop (mkF m 327 #[.val (.ref b), .val (.int x9)] [(.ref b341), (.ref b337), (.ref b337)]))
                  refine own_goW (fun _ ww => XS.dup X361.here hx rfl (hb hby d2_327) rfl rfl ww) ?_
                  show own_GoesW _ _ _ _ _ _ _ (T361.setTop (mkF m 328 #[.val (.ref b), .val (.int x9)] [(.ref b341), (.ref b341), (.ref b337), (.ref b337)]))
                  refine own_goW (fun _ ww => XS.iconst X361.here hx rfl (hb hby d2_328) ww) ?_
                  show own_GoesW _ _ _ _ _ _ _ (T361.setTop (mkF m 329 #[.val (.ref b), .val (.int x9)] [(.int (3 : Int32)), (.ref b341), (.ref b341), (.ref b337), (.ref b337)]))
                  refine own_goW (fun _ ww => XS.aloadN X361.here hx rfl (hb hby d2_329) rfl rfl ww) ?_
                  show own_GoesW _ _ _ _ _ _ _ (T361.setTop (mkF m 330 #[.val (.ref b), .val (.int x9)] [(.ref b), (.int (3 : Int32)), (.ref b341), (.ref b341), (.ref b337), (.ref b337)]))
                  refine own_goW (fun _ ww => XS.iconst X361.here hx rfl (hb hby d2_330) ww) ?_
                  show own_GoesW _ _ _ _ _ _ _ (T361.setTop (mkF m 331 #[.val (.ref b), .val (.int x9)] [(.int (3 : Int32)), (.ref b), (.int (3 : Int32)), (.ref b341), (.ref b341), (.ref b337), (.ref b337)]))
                  obtain ⟨cl367, Ar367, -, S367, -, H367, -⟩ := id f362
                  have hin367 := inb_of (j := (3 : Int32)) S367 ⟨by decide, by decide⟩
                  have hat367 : cl367.slots[((3 : Int32)).toNatClampNeg]? = some (.int c3) := Has.at H367 hin367 rfl
                  refine own_goW (fun _ ww => X361.caload hx (j := (3 : Int32)) (v := (.int c3)) (by rw [e361]; exact Ar367.1) (State.isArrayOf_alike hZ.alike Ar367.2.1) Ar367.2.2 hin367 hat367 (g := (mkF m 331 #[.val (.ref b), .val (.int x9)] [(.int (3 : Int32)), (.ref b), (.int (3 : Int32)), (.ref b341), (.ref b341), (.ref b337), (.ref b337)])) rfl rfl (hb hby d2_331) _ ww) ?_
                  show own_GoesW _ _ _ _ _ _ _ (T361.setTop (mkF m 332 #[.val (.ref b), .val (.int x9)] [(.int c3), (.int (3 : Int32)), (.ref b341), (.ref b341), (.ref b337), (.ref b337)]))
                  obtain ⟨cl368, Ar368, q368, S368, M368, H368, U368⟩ := id f366
                  obtain ⟨T368, h368, X368, e368, W368, st368⟩ := stC X361 hx hZ e361 Ar368 (j := (3 : Int32)) (inb_of S368 ⟨by decide, by decide⟩) (g := (mkF m 332 #[.val (.ref b), .val (.int x9)] [(.int c3), (.int (3 : Int32)), (.ref b341), (.ref b341), (.ref b337), (.ref b337)])) rfl rfl (hb hby d2_332)
                  have nr368 : nar .char c3 = c3 := (own_narc bc3)
                  rw [nr368] at W368
                  have ft368 : fits .char (.int c3) = true := by have q := fits_nar_char c3; rw [nr368] at q; exact q
                  have f369 : Arv Z h368 b kc .char (8 : Int32) [(.int c0), (.int c1), (.int c2), (.int c3), (.int c4), (.int c5), (.int c6), (.int c7)] (.int (0 : Int32)) := (f362.other W368 ne_b_b341)
                  have f370 : Fld Z h368 b337 "java/lang/String" "value" "[B" .null := (f363.other W368 (Or.inl ne_b337_b341))
                  have f371 : Fld Z h368 b337 "java/lang/String" "coder" "B" (.int (0 : Int32)) := (f364.other W368 (Or.inl ne_b337_b341))
                  have f372 : Exa Z h368 b337 "java/lang/String" := (f365.wr W368)
                  have f373 : Arv Z h368 b341 k341 .char (8 : Int32) [(.int c0), (.int c1), (.int c2), (.int c3), (.int (0 : Int32)), (.int (0 : Int32)), (.int (0 : Int32)), (.int (0 : Int32))] (.int (0 : Int32)) := (Arv.set Ar368 q368 S368 M368 H368 U368 ft368 W368 3 rfl (Nat.le_of_ble_eq_true rfl))
                  have hk := Nat.le_trans hk (Keep.of_wr W368).1
                  have N368 := Fr.snoc X368 N361 g_b341
                  have O368 := O361.wr W368 g_b341
                  have K368 := K361.wr W368 (Or.inr sz_b341)
                  refine own_goW st368 ?_
                  show own_GoesW _ _ _ _ _ _ _ (T368.setTop (mkF m 333 #[.val (.ref b), .val (.int x9)] [(.ref b341), (.ref b337), (.ref b337)]))
                  refine own_goW (fun _ ww => XS.dup X368.here hx rfl (hb hby d2_333) rfl rfl ww) ?_
                  show own_GoesW _ _ _ _ _ _ _ (T368.setTop (mkF m 334 #[.val (.ref b), .val (.int x9)] [(.ref b341), (.ref b341), (.ref b337), (.ref b337)]))
                  refine own_goW (fun _ ww => XS.iconst X368.here hx rfl (hb hby d2_334) ww) ?_
                  show own_GoesW _ _ _ _ _ _ _ (T368.setTop (mkF m 335 #[.val (.ref b), .val (.int x9)] [(.int (4 : Int32)), (.ref b341), (.ref b341), (.ref b337), (.ref b337)]))
                  refine own_goW (fun _ ww => XS.aloadN X368.here hx rfl (hb hby d2_335) rfl rfl ww) ?_
                  show own_GoesW _ _ _ _ _ _ _ (T368.setTop (mkF m 336 #[.val (.ref b), .val (.int x9)] [(.ref b), (.int (4 : Int32)), (.ref b341), (.ref b341), (.ref b337), (.ref b337)]))
                  refine own_goW (fun _ ww => XS.iconst X368.here hx rfl (hb hby d2_336) ww) ?_
                  show own_GoesW _ _ _ _ _ _ _ (T368.setTop (mkF m 337 #[.val (.ref b), .val (.int x9)] [(.int (4 : Int32)), (.ref b), (.int (4 : Int32)), (.ref b341), (.ref b341), (.ref b337), (.ref b337)]))
                  obtain ⟨cl374, Ar374, -, S374, -, H374, -⟩ := id f369
                  have hin374 := inb_of (j := (4 : Int32)) S374 ⟨by decide, by decide⟩
                  have hat374 : cl374.slots[((4 : Int32)).toNatClampNeg]? = some (.int c4) := Has.at H374 hin374 rfl
                  refine own_goW (fun _ ww => X368.caload hx (j := (4 : Int32)) (v := (.int c4)) (by rw [e368]; exact Ar374.1) (State.isArrayOf_alike hZ.alike Ar374.2.1) Ar374.2.2 hin374 hat374 (g := (mkF m 337 #[.val (.ref b), .val (.int x9)] [(.int (4 : Int32)), (.ref b), (.int (4 : Int32)), (.ref b341), (.ref b341), (.ref b337), (.ref b337)])) rfl rfl (hb hby d2_337) _ ww) ?_
                  show own_GoesW _ _ _ _ _ _ _ (T368.setTop (mkF m 338 #[.val (.ref b), .val (.int x9)] [(.int c4), (.int (4 : Int32)), (.ref b341), (.ref b341), (.ref b337), (.ref b337)]))
                  obtain ⟨cl375, Ar375, q375, S375, M375, H375, U375⟩ := id f373
                  obtain ⟨T375, h375, X375, e375, W375, st375⟩ := stC X368 hx hZ e368 Ar375 (j := (4 : Int32)) (inb_of S375 ⟨by decide, by decide⟩) (g := (mkF m 338 #[.val (.ref b), .val (.int x9)] [(.int c4), (.int (4 : Int32)), (.ref b341), (.ref b341), (.ref b337), (.ref b337)])) rfl rfl (hb hby d2_338)
                  have nr375 : nar .char c4 = c4 := (own_narc bc4)
                  rw [nr375] at W375
                  have ft375 : fits .char (.int c4) = true := by have q := fits_nar_char c4; rw [nr375] at q; exact q
                  have f376 : Arv Z h375 b kc .char (8 : Int32) [(.int c0), (.int c1), (.int c2), (.int c3), (.int c4), (.int c5), (.int c6), (.int c7)] (.int (0 : Int32)) := (f369.other W375 ne_b_b341)
                  have f377 : Fld Z h375 b337 "java/lang/String" "value" "[B" .null := (f370.other W375 (Or.inl ne_b337_b341))
                  have f378 : Fld Z h375 b337 "java/lang/String" "coder" "B" (.int (0 : Int32)) := (f371.other W375 (Or.inl ne_b337_b341))
                  have f379 : Exa Z h375 b337 "java/lang/String" := (f372.wr W375)
                  have f380 : Arv Z h375 b341 k341 .char (8 : Int32) [(.int c0), (.int c1), (.int c2), (.int c3), (.int c4), (.int (0 : Int32)), (.int (0 : Int32)), (.int (0 : Int32))] (.int (0 : Int32)) := (Arv.set Ar375 q375 S375 M375 H375 U375 ft375 W375 4 rfl (Nat.le_of_ble_eq_true rfl))
                  have hk := Nat.le_trans hk (Keep.of_wr W375).1
                  have N375 := Fr.snoc X375 N368 g_b341
                  have O375 := O368.wr W375 g_b341
                  have K375 := K368.wr W375 (Or.inr sz_b341)
                  refine own_goW st375 ?_
                  show own_GoesW _ _ _ _ _ _ _ (T375.setTop (mkF m 339 #[.val (.ref b), .val (.int x9)] [(.ref b341), (.ref b337), (.ref b337)]))
                  refine own_goW (fun _ ww => XS.dup X375.here hx rfl (hb hby d2_339) rfl rfl ww) ?_
                  show own_GoesW _ _ _ _ _ _ _ (T375.setTop (mkF m 340 #[.val (.ref b), .val (.int x9)] [(.ref b341), (.ref b341), (.ref b337), (.ref b337)]))
                  refine own_goW (fun _ ww => XS.iconst X375.here hx rfl (hb hby d2_340) ww) ?_
                  show own_GoesW _ _ _ _ _ _ _ (T375.setTop (mkF m 341 #[.val (.ref b), .val (.int x9)] [(.int (5 : Int32)), (.ref b341), (.ref b341), (.ref b337), (.ref b337)]))
                  refine own_goW (fun _ ww => XS.aloadN X375.here hx rfl (hb hby d2_341) rfl rfl ww) ?_
                  show own_GoesW _ _ _ _ _ _ _ (T375.setTop (mkF m 342 #[.val (.ref b), .val (.int x9)] [(.ref b), (.int (5 : Int32)), (.ref b341), (.ref b341), (.ref b337), (.ref b337)]))
                  refine own_goW (fun _ ww => XS.iconst X375.here hx rfl (hb hby d2_342) ww) ?_
                  show own_GoesW _ _ _ _ _ _ _ (T375.setTop (mkF m 343 #[.val (.ref b), .val (.int x9)] [(.int (5 : Int32)), (.ref b), (.int (5 : Int32)), (.ref b341), (.ref b341), (.ref b337), (.ref b337)]))
                  obtain ⟨cl381, Ar381, -, S381, -, H381, -⟩ := id f376
                  have hin381 := inb_of (j := (5 : Int32)) S381 ⟨by decide, by decide⟩
                  have hat381 : cl381.slots[((5 : Int32)).toNatClampNeg]? = some (.int c5) := Has.at H381 hin381 rfl
                  refine own_goW (fun _ ww => X375.caload hx (j := (5 : Int32)) (v := (.int c5)) (by rw [e375]; exact Ar381.1) (State.isArrayOf_alike hZ.alike Ar381.2.1) Ar381.2.2 hin381 hat381 (g := (mkF m 343 #[.val (.ref b), .val (.int x9)] [(.int (5 : Int32)), (.ref b), (.int (5 : Int32)), (.ref b341), (.ref b341), (.ref b337), (.ref b337)])) rfl rfl (hb hby d2_343) _ ww) ?_
                  show own_GoesW _ _ _ _ _ _ _ (T375.setTop (mkF m 344 #[.val (.ref b), .val (.int x9)] [(.int c5), (.int (5 : Int32)), (.ref b341), (.ref b341), (.ref b337), (.ref b337)]))
                  obtain ⟨cl382, Ar382, q382, S382, M382, H382, U382⟩ := id f380
                  obtain ⟨T382, h382, X382, e382, W382, st382⟩ := stC X375 hx hZ e375 Ar382 (j := (5 : Int32)) (inb_of S382 ⟨by decide, by decide⟩) (g := (mkF m 344 #[.val (.ref b), .val (.int x9)] [(.int c5), (.int (5 : Int32)), (.ref b341), (.ref b341), (.ref b337), (.ref b337)])) rfl rfl (hb hby d2_344)
                  have nr382 : nar .char c5 = c5 := (own_narc bc5)
                  rw [nr382] at W382
                  have ft382 : fits .char (.int c5) = true := by have q := fits_nar_char c5; rw [nr382] at q; exact q
                  have f383 : Arv Z h382 b kc .char (8 : Int32) [(.int c0), (.int c1), (.int c2), (.int c3), (.int c4), (.int c5), (.int c6), (.int c7)] (.int (0 : Int32)) := (f376.other W382 ne_b_b341)
                  have f384 : Fld Z h382 b337 "java/lang/String" "value" "[B" .null := (f377.other W382 (Or.inl ne_b337_b341))
                  have f385 : Fld Z h382 b337 "java/lang/String" "coder" "B" (.int (0 : Int32)) := (f378.other W382 (Or.inl ne_b337_b341))
                  have f386 : Exa Z h382 b337 "java/lang/String" := (f379.wr W382)
                  have f387 : Arv Z h382 b341 k341 .char (8 : Int32) [(.int c0), (.int c1), (.int c2), (.int c3), (.int c4), (.int c5), (.int (0 : Int32)), (.int (0 : Int32))] (.int (0 : Int32)) := (Arv.set Ar382 q382 S382 M382 H382 U382 ft382 W382 5 rfl (Nat.le_of_ble_eq_true rfl))
                  have hk := Nat.le_trans hk (Keep.of_wr W382).1
                  have N382 := Fr.snoc X382 N375 g_b341
                  have O382 := O375.wr W382 g_b341
                  have K382 := K375.wr W382 (Or.inr sz_b341)
                  refine own_goW st382 ?_
                  show own_GoesW _ _ _ _ _ _ _ (T382.setTop (mkF m 345 #[.val (.ref b), .val (.int x9)] [(.ref b341), (.ref b337), (.ref b337)]))
                  refine own_goW (fun _ ww => XS.dup X382.here hx rfl (hb hby d2_345) rfl rfl ww) ?_
                  show own_GoesW _ _ _ _ _ _ _ (T382.setTop (mkF m 346 #[.val (.ref b), .val (.int x9)] [(.ref b341), (.ref b341), (.ref b337), (.ref b337)]))
                  refine own_goW (fun _ ww => XS.bipush X382.here hx rfl (hb hby d2_346) ww) ?_
                  show own_GoesW _ _ _ _ _ _ _ (T382.setTop (mkF m 348 #[.val (.ref b), .val (.int x9)] [(.int (6 : Int32)), (.ref b341), (.ref b341), (.ref b337), (.ref b337)]))
                  refine own_goW (fun _ ww => XS.aloadN X382.here hx rfl (hb hby d2_348) rfl rfl ww) ?_
                  show own_GoesW _ _ _ _ _ _ _ (T382.setTop (mkF m 349 #[.val (.ref b), .val (.int x9)] [(.ref b), (.int (6 : Int32)), (.ref b341), (.ref b341), (.ref b337), (.ref b337)]))
                  refine own_goW (fun _ ww => XS.bipush X382.here hx rfl (hb hby d2_349) ww) ?_
                  show own_GoesW _ _ _ _ _ _ _ (T382.setTop (mkF m 351 #[.val (.ref b), .val (.int x9)] [(.int (6 : Int32)), (.ref b), (.int (6 : Int32)), (.ref b341), (.ref b341), (.ref b337), (.ref b337)]))
                  obtain ⟨cl388, Ar388, -, S388, -, H388, -⟩ := id f383
                  have hin388 := inb_of (j := (6 : Int32)) S388 ⟨by decide, by decide⟩
                  have hat388 : cl388.slots[((6 : Int32)).toNatClampNeg]? = some (.int c6) := Has.at H388 hin388 rfl
                  refine own_goW (fun _ ww => X382.caload hx (j := (6 : Int32)) (v := (.int c6)) (by rw [e382]; exact Ar388.1) (State.isArrayOf_alike hZ.alike Ar388.2.1) Ar388.2.2 hin388 hat388 (g := (mkF m 351 #[.val (.ref b), .val (.int x9)] [(.int (6 : Int32)), (.ref b), (.int (6 : Int32)), (.ref b341), (.ref b341), (.ref b337), (.ref b337)])) rfl rfl (hb hby d2_351) _ ww) ?_
                  show own_GoesW _ _ _ _ _ _ _ (T382.setTop (mkF m 352 #[.val (.ref b), .val (.int x9)] [(.int c6), (.int (6 : Int32)), (.ref b341), (.ref b341), (.ref b337), (.ref b337)]))
                  obtain ⟨cl389, Ar389, q389, S389, M389, H389, U389⟩ := id f387
                  obtain ⟨T389, h389, X389, e389, W389, st389⟩ := stC X382 hx hZ e382 Ar389 (j := (6 : Int32)) (inb_of S389 ⟨by decide, by decide⟩) (g := (mkF m 352 #[.val (.ref b), .val (.int x9)] [(.int c6), (.int (6 : Int32)), (.ref b341), (.ref b341), (.ref b337), (.ref b337)])) rfl rfl (hb hby d2_352)
                  have nr389 : nar .char c6 = c6 := (own_narc bc6)
                  rw [nr389] at W389
                  have ft389 : fits .char (.int c6) = true := by have q := fits_nar_char c6; rw [nr389] at q; exact q
                  have f390 : Arv Z h389 b kc .char (8 : Int32) [(.int c0), (.int c1), (.int c2), (.int c3), (.int c4), (.int c5), (.int c6), (.int c7)] (.int (0 : Int32)) := (f383.other W389 ne_b_b341)
                  have f391 : Fld Z h389 b337 "java/lang/String" "value" "[B" .null := (f384.other W389 (Or.inl ne_b337_b341))
                  have f392 : Fld Z h389 b337 "java/lang/String" "coder" "B" (.int (0 : Int32)) := (f385.other W389 (Or.inl ne_b337_b341))
                  have f393 : Exa Z h389 b337 "java/lang/String" := (f386.wr W389)
                  have f394 : Arv Z h389 b341 k341 .char (8 : Int32) [(.int c0), (.int c1), (.int c2), (.int c3), (.int c4), (.int c5), (.int c6), (.int (0 : Int32))] (.int (0 : Int32)) := (Arv.set Ar389 q389 S389 M389 H389 U389 ft389 W389 6 rfl (Nat.le_of_ble_eq_true rfl))
                  have hk := Nat.le_trans hk (Keep.of_wr W389).1
                  have N389 := Fr.snoc X389 N382 g_b341
                  have O389 := O382.wr W389 g_b341
                  have K389 := K382.wr W389 (Or.inr sz_b341)
                  refine own_goW st389 ?_
                  show own_GoesW _ _ _ _ _ _ _ (T389.setTop (mkF m 353 #[.val (.ref b), .val (.int x9)] [(.ref b341), (.ref b337), (.ref b337)]))
                  refine own_goW (fun _ ww => XS.dup X389.here hx rfl (hb hby d2_353) rfl rfl ww) ?_
                  show own_GoesW _ _ _ _ _ _ _ (T389.setTop (mkF m 354 #[.val (.ref b), .val (.int x9)] [(.ref b341), (.ref b341), (.ref b337), (.ref b337)]))
                  refine own_goW (fun _ ww => XS.bipush X389.here hx rfl (hb hby d2_354) ww) ?_
                  show own_GoesW _ _ _ _ _ _ _ (T389.setTop (mkF m 356 #[.val (.ref b), .val (.int x9)] [(.int (7 : Int32)), (.ref b341), (.ref b341), (.ref b337), (.ref b337)]))
                  refine own_goW (fun _ ww => XS.aloadN X389.here hx rfl (hb hby d2_356) rfl rfl ww) ?_
                  show own_GoesW _ _ _ _ _ _ _ (T389.setTop (mkF m 357 #[.val (.ref b), .val (.int x9)] [(.ref b), (.int (7 : Int32)), (.ref b341), (.ref b341), (.ref b337), (.ref b337)]))
                  refine own_goW (fun _ ww => XS.bipush X389.here hx rfl (hb hby d2_357) ww) ?_
                  show own_GoesW _ _ _ _ _ _ _ (T389.setTop (mkF m 359 #[.val (.ref b), .val (.int x9)] [(.int (7 : Int32)), (.ref b), (.int (7 : Int32)), (.ref b341), (.ref b341), (.ref b337), (.ref b337)]))
                  obtain ⟨cl395, Ar395, -, S395, -, H395, -⟩ := id f390
                  have hin395 := inb_of (j := (7 : Int32)) S395 ⟨by decide, by decide⟩
                  have hat395 : cl395.slots[((7 : Int32)).toNatClampNeg]? = some (.int c7) := Has.at H395 hin395 rfl
                  refine own_goW (fun _ ww => X389.caload hx (j := (7 : Int32)) (v := (.int c7)) (by rw [e389]; exact Ar395.1) (State.isArrayOf_alike hZ.alike Ar395.2.1) Ar395.2.2 hin395 hat395 (g := (mkF m 359 #[.val (.ref b), .val (.int x9)] [(.int (7 : Int32)), (.ref b), (.int (7 : Int32)), (.ref b341), (.ref b341), (.ref b337), (.ref b337)])) rfl rfl (hb hby d2_359) _ ww) ?_
                  show own_GoesW _ _ _ _ _ _ _ (T389.setTop (mkF m 360 #[.val (.ref b), .val (.int x9)] [(.int c7), (.int (7 : Int32)), (.ref b341), (.ref b341), (.ref b337), (.ref b337)]))
                  obtain ⟨cl396, Ar396, q396, S396, M396, H396, U396⟩ := id f394
                  obtain ⟨T396, h396, X396, e396, W396, st396⟩ := stC X389 hx hZ e389 Ar396 (j := (7 : Int32)) (inb_of S396 ⟨by decide, by decide⟩) (g := (mkF m 360 #[.val (.ref b), .val (.int x9)] [(.int c7), (.int (7 : Int32)), (.ref b341), (.ref b341), (.ref b337), (.ref b337)])) rfl rfl (hb hby d2_360)
                  have nr396 : nar .char c7 = c7 := (own_narc bc7)
                  rw [nr396] at W396
                  have ft396 : fits .char (.int c7) = true := by have q := fits_nar_char c7; rw [nr396] at q; exact q
                  have f397 : Arv Z h396 b kc .char (8 : Int32) [(.int c0), (.int c1), (.int c2), (.int c3), (.int c4), (.int c5), (.int c6), (.int c7)] (.int (0 : Int32)) := (f390.other W396 ne_b_b341)
                  have f398 : Fld Z h396 b337 "java/lang/String" "value" "[B" .null := (f391.other W396 (Or.inl ne_b337_b341))
                  have f399 : Fld Z h396 b337 "java/lang/String" "coder" "B" (.int (0 : Int32)) := (f392.other W396 (Or.inl ne_b337_b341))
                  have f400 : Exa Z h396 b337 "java/lang/String" := (f393.wr W396)
                  have f401 : Arv Z h396 b341 k341 .char (8 : Int32) [(.int c0), (.int c1), (.int c2), (.int c3), (.int c4), (.int c5), (.int c6), (.int c7)] (.int (0 : Int32)) := (Arv.set Ar396 q396 S396 M396 H396 U396 ft396 W396 7 rfl (Nat.le_of_ble_eq_true rfl))
                  have hk := Nat.le_trans hk (Keep.of_wr W396).1
                  have N396 := Fr.snoc X396 N389 g_b341
                  have O396 := O389.wr W396 g_b341
                  have K396 := K389.wr W396 (Or.inr sz_b341)
                  refine own_goW st396 ?_
                  show own_GoesW _ _ _ _ _ _ _ (T396.setTop (mkF m 361 #[.val (.ref b), .val (.int x9)] [(.ref b341), (.ref b337), (.ref b337)]))
                  have hp_b337 : ∀ c ∈ ([c0, c1, c2, c3, c4, c5, c6, c7] : List Int32), ¬ c < 0 ∧ ¬ (255 : Int32) < c := (own_allc bc0 (own_allc bc1 (own_allc bc2 (own_allc bc3 (own_allc bc4 (own_allc bc5 (own_allc bc6 (own_allc bc7 (fun _ q => nomatch q)))))))))
                  obtain ⟨_, _, ⟨T402, L402, k402, n402⟩, -, X402, ⟨Lc402, hQ402, l402, y402, z402⟩, st402⟩ := X396.specialBack hx (y := (⟨"java/lang/String", "<init>", "([C)V"⟩ : MethodName)) rfl hown (mvT hZ (hw _ (List.mem_of_getElem? (i := 16) rfl))) (mvT hZ (hw _ (List.mem_of_getElem? (i := 17) rfl))) (mvT hZ (hw _ (List.mem_of_getElem? (i := 18) rfl))) (by decide) (StrChars.Road.backV (W := 1) hZ (own_words hw) (kI := 4) (hw _ (List.mem_of_getElem? (i := 14) rfl)) (cs := ([c0, c1, c2, c3, c4, c5, c6, c7] : List Int32)) (bs := (([c0, c1, c2, c3, c4, c5, c6, c7] : List Int32)).map (fun c => c.toInt8.toInt32)) (n := 8) g_b337 (own_ns O396) f400 f398 f399 f401 (SC.ext O396.2) hzc rfl rfl (by decide) (by decide) hp_b337 rfl (by decide) (by decide)) (g := (mkF m 361 #[.val (.ref b), .val (.int x9)] [(.ref b341), (.ref b337), (.ref b337)])) rfl (by rw [hml]; rfl) (Steps.refl _) (a := b337) (argsL := [(.ref b341)]) (rest := [(.ref b337)]) (lenOf pd_1 rfl) rfl (by show 2 * 0 + _ ≤ _; exact Nat.le_of_eq rfl) (hb hby d2_361) (fun _ _ => ⟨rfl, e396, (by decide : 2 + 1 ≤ _), (by decide : 12 + 8 ≤ _)⟩)
                  dsimp only [Pt.U, Pt.locs, Pt.cells, Pt.slots] at X402 l402 y402 z402 st402 hQ402
                  subst l402 y402 z402
                  obtain ⟨rfl, N402q, K402q, E402q, C402q, t402, kb402, -, G402q, -, V402q, A402q⟩ := hQ402
                  have N402 := Fr.app N396 N402q
                  have hk := Nat.le_trans hk (own_ks K402q)
                  have ne_b_t402 : b ≠ t402 := Nat.ne_of_lt (Nat.lt_of_lt_of_le f397.lt G402q)
                  have ne_b337_t402 : b337 ≠ t402 := Nat.ne_of_lt (Nat.lt_of_lt_of_le f398.lt G402q)
                  have ne_b341_t402 : b341 ≠ t402 := Nat.ne_of_lt (Nat.lt_of_lt_of_le f401.lt G402q)
                  have g_t402 : n0 ≤ t402 := Nat.le_trans (O396.1 ▸ O396.2.1) G402q
                  have sz_t402 : h0.size ≤ t402 := Nat.le_trans (own_ks K396) G402q
                  have f403 : Arv Z T402.heap b kc .char (8 : Int32) [(.int c0), (.int c1), (.int c2), (.int c3), (.int c4), (.int c5), (.int c6), (.int c7)] (.int (0 : Int32)) := (f397.keep K402q (ninS ne_b_b337 nin0))
                  have f404 : Exa Z T402.heap b337 "java/lang/String" := (f400.keep K402q)
                  have f405 : Arv Z T402.heap b341 k341 .char (8 : Int32) [(.int c0), (.int c1), (.int c2), (.int c3), (.int c4), (.int c5), (.int c6), (.int c7)] (.int (0 : Int32)) := (f401.keep K402q (ninS (Ne.symm ne_b337_b341) nin0))
                  have O402 := O396.keep K402q (allS g_b337 all0)
                  have K402 := K396.trans K402q (allS (Or.inr sz_b337) all0)
                  refine own_goW (fun _ ww => Steps.trans st402 ww) ?_
                  show own_GoesW _ _ _ _ _ _ _ (T402.setTop (mkF m 364 #[.val (.ref b), .val (.int x9)] [(.ref b337)]))
                  exact own_outW X402 hS hk hlk (v := some (.ref b337)) (fun h => by rw [hret] at h; cases h) (fun fs hr => retOut X402 hx (t := (.object "java/lang/String")) hret rfl (Or.inr (Or.inr (Or.inr (Or.inr ⟨rfl, rfl, rfl⟩)))) (hb hby d2_364) hr) rfl ⟨b337, t402, kb402, ([c0, c1, c2, c3, c4, c5, c6, c7] : List Int32), (8 : Int32), [(.int (c0).toInt8.toInt32), (.int (c1).toInt8.toInt32), (.int (c2).toInt8.toInt32), (.int (c3).toInt8.toInt32), (.int (c4).toInt8.toInt32), (.int (c5).toInt8.toInt32), (.int (c6).toInt8.toInt32), (.int (c7).toInt8.toInt32)], rfl, N402, K402, f404, C402q, V402q, A402q, (StrChars.Road.codOf (cs := ([c0, c1, c2, c3, c4, c5, c6, c7] : List Int32)) (n := 8) rfl (fun c hc => (hp_b337 c hc).2)), (own_up hp_b337), (Nat.le_of_ble_eq_true rfl), (own_IBm (own_IBw X402.warmed hI))⟩ (by decide) (by decide)
theorem d8_0 : decode prog_2_method_10_code 0 = .ok (.aload_n 0, 1) := by decide +kernel
theorem d8_1 : decode prog_2_method_10_code 1 = .ok (.getstatic 13, 3) := by decide +kernel
theorem d8_4 : decode prog_2_method_10_code 4 = .ok (.if_acmp .ne 16, 3) := by decide +kernel
theorem d8_20 : decode prog_2_method_10_code 20 = .ok (.iconst 0, 1) := by decide +kernel
theorem d8_21 : decode prog_2_method_10_code 21 = .ok (.ireturn, 1) := by decide +kernel
theorem ef_dfn (m : MethodId) (at_ : Addr) (aI : Addr) (sx : Addr) : entryFrame m #[(.ref at_), (.ref sx)] 2 = mkF m 0 #[.val (.ref at_), .val (.ref sx)] [] := by
  first | (simp [entryFrame, mkF, argsToLocals, Value.category]; done) | rfl
def Q_dfn (Z : State) (at_ : Addr) (aI : Addr) (sx : Addr) (h0 : Heap) (n0 : Nat) (v : Option Value) (h : Heap) (L : List Loc) : Prop := v = some (.int (0 : Int32)) ∧ Fr n0 L ∧ h = h0
set_option maxRecDepth 65536 in
set_option maxHeartbeats 40000000 in
theorem rm_dfn (l : Launch) (Z : State) (a0 : Array Value) (hw : ∀ d ∈ tables_1, d.before a0 Z = true) (ws : List Jvm.Cond) (at_ : Addr) (aI : Addr) (sx : Addr) (h0 : Heap) (n0 : Nat) (O0 : Old Z n0 h0) (SI : Sta Z Z.heap "com/example/izin/izin/Attribute" "INVITE" "Lcom/example/izin/izin/Attribute;" (.ref aI)) (hne : ¬ at_ = aI) :
    MetFree l (⟨"com/example/izin/izin/Attribute", "defaultFlag", "(Ljava/lang/String;)Z"⟩ : MethodName) (head1 (Jvm.Cond.code (⟨"com/example/izin/izin/Attribute", "defaultFlag", "(Ljava/lang/String;)Z"⟩ : MethodName) prog_2_method_10_code 2 (some .boolean) :: ws) ({ frames := 0, cells := 0, slots := 0, locals := 0 } : Room)) (fun av_ U => av_ = #[(.ref at_), (.ref sx)] ∧ Z.Warmed39 U.vm ∧ U.heap = h0) (fun _ _ _ _ _ => True) (fun _ U o_ U' => ∃ v L, o_ = .returned v ∧ Q_dfn Z at_ aI sx h0 n0 v U'.heap L ∧ FrameEnd U o_ U' L ({ frames := 0, cells := 0, slots := 0, locals := 0 } : Room).cells ({ frames := 0, cells := 0, slots := 0, locals := 0 } : Room).slots) := by
  refine MetFree.of_bodySF (plainFor_of_name pn_2) hisR ?_
  intro p e s m args below meth c s₁ Bd hml0 hP hK
  obtain ⟨rfl, hZ, hh⟩ := hP
  have hx := Bd.exec
  have hby := Bd.bytes
  have hml : c.maxLocals = 2 := hml0
  have hown : s.vm.findClass "com/example/izin/izin/Attribute" = some m.cls := findClass_of_methodNamed Bd.named
  have hnm := (name_of_methodNamed Bd.named Bd.method).1
  have hlk := own_lk Bd
  have hret := Bd.returns
  have X0 : Stand p l e ({ frames := 0, cells := 0, slots := 0, locals := 0 } : Room) s m #[(.ref at_), (.ref sx)] below meth c s₁ [] 0 0 := Stand.of_body Bd
  have e0 : s₁.heap = h0 := by rw [← hh, Bd.state]; rfl
  have N0 := Fr.nil n0
  show own_Goes p e below s (Q_dfn Z at_ aI sx h0 n0) ({ frames := 0, cells := 0, slots := 0, locals := 0 } : Room).cells ({ frames := 0, cells := 0, slots := 0, locals := 0 } : Room).slots (s₁.setTop (entryFrame m #[(.ref at_), (.ref sx)] 2))
  refine own_go (fun _ ww => castTop (ef_dfn m at_ aI sx) ww) ?_
  show own_Goes _ _ _ _ _ _ _ (s₁.setTop (mkF m 0 #[.val (.ref at_), .val (.ref sx)] []))
  refine own_go (fun _ ww => XS.aloadN X0.here hx rfl (hb hby d8_0) rfl rfl ww) ?_
  show own_Goes _ _ _ _ _ _ _ (s₁.setTop (mkF m 1 #[.val (.ref at_), .val (.ref sx)] [(.ref at_)]))
  obtain ⟨T406, X406, e406, st406⟩ := getS X0 hx hZ hown (host := "") (hw _ (List.mem_of_getElem? (i := 50) rfl)) Via.refl e0 (SI.ext O0.2) (g := (mkF m 1 #[.val (.ref at_), .val (.ref sx)] [(.ref at_)])) rfl (hb hby d8_1)
  refine own_go st406 ?_
  show own_Goes _ _ _ _ _ _ _ (T406.setTop (mkF m 4 #[.val (.ref at_), .val (.ref sx)] [(.ref aI), (.ref at_)]))
  refine own_go (fun _ ww => XT.acmpYes X406.here hx rfl (pc0 := 4) (pc' := 20) rfl (hb hby d8_4) rfl rfl rfl (own_ane hne).2 (by decide) (by decide) ww) ?_
  show own_Goes _ _ _ _ _ _ _ (T406.setTop (mkF m 20 #[.val (.ref at_), .val (.ref sx)] []))
  refine own_go (fun _ ww => XS.iconst X406.here hx rfl (hb hby d8_20) ww) ?_
  show own_Goes _ _ _ _ _ _ _ (T406.setTop (mkF m 21 #[.val (.ref at_), .val (.ref sx)] [(.int (0 : Int32))]))
  exact own_out X406 hlk (v := some (.int (0 : Int32))) (fun h => by rw [hret] at h; cases h) (fun fs hr => retOut X406 hx (t := .boolean) hret (by decide) (Or.inl ⟨rfl, by simp, _, rfl⟩) (hb hby d8_21) hr) e406 ⟨rfl, N0, rfl⟩ (by decide) (by decide)
theorem d8_7 : decode prog_2_method_10_code 7 = .ok (.aload_n 1, 1) := by decide +kernel
theorem d8_8 : decode prog_2_method_10_code 8 = .ok (.ldc 88, 2) := by decide +kernel
theorem d8_10 : decode prog_2_method_10_code 10 = .ok (.invokevirtual 90, 3) := by decide +kernel
theorem d8_13 : decode prog_2_method_10_code 13 = .ok (.ifCond .ne 7, 3) := by decide +kernel
theorem d8_16 : decode prog_2_method_10_code 16 = .ok (.iconst 1, 1) := by decide +kernel
theorem d8_17 : decode prog_2_method_10_code 17 = .ok (.goto 4, 3) := by decide +kernel
theorem ef_dfi (m : MethodId) (aI : Addr) (r : Int32) (zc : Int32) (sx : Addr) (tx : Addr) (kx : ClassId) (cs : List Int32) (Nx : Int32) (vx : List Value) : entryFrame m #[(.ref aI), (.ref sx)] 2 = mkF m 0 #[.val (.ref aI), .val (.ref sx)] [] := by
  first | (simp [entryFrame, mkF, argsToLocals, Value.category]; done) | rfl
def Q_dfi (Z : State) (aI : Addr) (r : Int32) (zc : Int32) (sx : Addr) (tx : Addr) (kx : ClassId) (cs : List Int32) (Nx : Int32) (vx : List Value) (h0 : Heap) (n0 : Nat) (v : Option Value) (h : Heap) (vm : Vm) (L : List Loc) : Prop := v = some (.int r) ∧ Fr n0 L ∧ Keep h0 h []
set_option maxRecDepth 65536 in
set_option maxHeartbeats 40000000 in
theorem rm_dfi (l : Launch) (Z : State) (a0 : Array Value) (hw : ∀ d ∈ tables_1, d.before a0 Z = true) (ws : List Jvm.Cond) (aI : Addr) (r : Int32) (zc : Int32) (sx : Addr) (tx : Addr) (kx : ClassId) (cs : List Int32) (Nx : Int32) (vx : List Value) (h0 : Heap) (n0 : Nat) (O0 : Old Z n0 h0) (SI : Sta Z Z.heap "com/example/izin/izin/Attribute" "INVITE" "Lcom/example/izin/izin/Attribute;" (.ref aI)) (hr0 : cs = ([112, 117, 98, 108, 105, 99] : List Int32) → r = 0) (hr1 : ¬ cs = ([112, 117, 98, 108, 105, 99] : List Int32) → r = 1) (hh88 : Jvm.Lit.constHeld Z "com/example/izin/izin/Attribute" 88) (hcw : Jvm.Lit.compactW.before a0 Z = true) (SC : Sta Z Z.heap "java/lang/String" "COMPACT_STRINGS" "Z" (.int zc)) (hzc : ¬ zc = 0) (Es : Exa Z h0 sx "java/lang/String") (Vs : Fld Z h0 sx "java/lang/String" "value" "[B" (.ref tx)) (Cs : Fld Z h0 sx "java/lang/String" "coder" "B" (.int (0 : Int32))) (Ks : Arv Z h0 tx kx .byte Nx vx (.int (0 : Int32))) (hcs : StrChars.Road.CodA cs 0 Nx vx) (hbs : ∀ c ∈ cs, ¬ c < 0 ∧ ¬ (65535 : Int32) < c) (hls : cs.length ≤ 4000) :
    MetFree l (⟨"com/example/izin/izin/Attribute", "defaultFlag", "(Ljava/lang/String;)Z"⟩ : MethodName) (head1 (Jvm.Cond.code (⟨"com/example/izin/izin/Attribute", "defaultFlag", "(Ljava/lang/String;)Z"⟩ : MethodName) prog_2_method_10_code 2 (some .boolean) :: ws) ({ frames := 2, cells := 2, slots := 28, locals := 28 } : Room)) (fun av_ U => av_ = #[(.ref aI), (.ref sx)] ∧ Z.Warmed39 U.vm ∧ U.heap = h0 ∧ (fun vm_ : Vm => IB Z vm_ [""]) U.vm) (fun _ _ _ _ _ => True) (fun _ U o_ U' => ∃ v L, o_ = .returned v ∧ Q_dfi Z aI r zc sx tx kx cs Nx vx h0 n0 v U'.heap U'.vm L ∧ ReturnedEndW U o_ U' L ({ frames := 2, cells := 2, slots := 28, locals := 28 } : Room).cells ({ frames := 2, cells := 2, slots := 28, locals := 28 } : Room).slots) := by
  refine MetFree.of_bodySF (plainFor_of_name pn_2) hisR ?_
  intro p e s m args below meth c s₁ Bd hml0 hP hK
  obtain ⟨rfl, hZ, hh, hVI⟩ := hP
  have hZ : Z.Warmed39 (s.setVm s.vm).vm := hZ
  have hx := Bd.exec
  have hby := Bd.bytes
  have hml : c.maxLocals = 2 := hml0
  have hown : (s.setVm s.vm).vm.findClass "com/example/izin/izin/Attribute" = some m.cls := findClass_of_methodNamed Bd.named
  have hnm := (name_of_methodNamed Bd.named Bd.method).1
  have hlk := own_lk Bd
  have hret := Bd.returns
  have X0 : Stand p l e ({ frames := 2, cells := 2, slots := 28, locals := 28 } : Room) (s.setVm s.vm) m #[(.ref aI), (.ref sx)] below meth c s₁ [] 0 0 := Stand.of_body Bd
  have e0 : s₁.heap = h0 := by rw [← hh, Bd.state]; rfl
  have N0 := Fr.nil n0
  have hS : s.Since s.vm h0.size := (State.WarmedH.refl s).since _
  have hk : h0.size ≤ h0.size := Nat.le_refl _
  have wS : ∀ a ∈ Bundle.stringAtoms, a.before a0 Z = true := own_wS hw
  show own_GoesW p e below s (Q_dfi Z aI r zc sx tx kx cs Nx vx h0 n0) ({ frames := 2, cells := 2, slots := 28, locals := 28 } : Room).cells ({ frames := 2, cells := 2, slots := 28, locals := 28 } : Room).slots (s₁.setTop (entryFrame m #[(.ref aI), (.ref sx)] 2))
  refine own_goW (fun _ ww => castTop (ef_dfi m aI r zc sx tx kx cs Nx vx) ww) ?_
  have hI : IB Z s.vm [""] := hVI
  have hkp : ∀ (b : Addr) (cl : Cell), Z.heap[b]? = some cl → s.heap[b]? = some cl := by rw [hh]; exact O0.2.2
  show own_GoesW _ _ _ _ _ _ _ (s₁.setTop (mkF m 0 #[.val (.ref aI), .val (.ref sx)] []))
  refine own_goW (fun _ ww => XS.aloadN X0.here hx rfl (hb hby d8_0) rfl rfl ww) ?_
  show own_GoesW _ _ _ _ _ _ _ (s₁.setTop (mkF m 1 #[.val (.ref aI), .val (.ref sx)] [(.ref aI)]))
  obtain ⟨T407, X407, e407, st407⟩ := getS X0 hx hZ hown (host := "") (hw _ (List.mem_of_getElem? (i := 50) rfl)) Via.refl e0 (SI.ext O0.2) (g := (mkF m 1 #[.val (.ref aI), .val (.ref sx)] [(.ref aI)])) rfl (hb hby d8_1)
  refine own_goW st407 ?_
  show own_GoesW _ _ _ _ _ _ _ (T407.setTop (mkF m 4 #[.val (.ref aI), .val (.ref sx)] [(.ref aI), (.ref aI)]))
  refine own_goW (fun _ ww => XT.acmpNo X407.here hx rfl (hb hby d8_4) rfl rfl rfl (own_aeq (rfl : aI = aI)).2 ww) ?_
  show own_GoesW _ _ _ _ _ _ _ (T407.setTop (mkF m 7 #[.val (.ref aI), .val (.ref sx)] []))
  refine own_goW (fun _ ww => XS.aloadN X407.here hx rfl (hb hby d8_7) rfl rfl ww) ?_
  show own_GoesW _ _ _ _ _ _ _ (T407.setTop (mkF m 8 #[.val (.ref aI), .val (.ref sx)] [(.ref sx)]))
  obtain ⟨a408, T408, h408, k408, t408, kb408, X408, e408, E408, hS, hk, hZ, hown, EA408, CA408, VA408, KA408, -, -, hI, -, st408⟩ := ldcSVL X407 hx hZ hown (hw _ (List.mem_of_getElem? (i := 85) rfl)) wS e407 hS hk (Fr.nil _) hkp hI (by decide) hh88 hcw (vs := [(.int (112 : Int32)), (.int (117 : Int32)), (.int (98 : Int32)), (.int (108 : Int32)), (.int (105 : Int32)), (.int (99 : Int32))]) (z := (6 : Int32)) ⟨by decide, rfl⟩ (by decide) rfl (g := (mkF m 8 #[.val (.ref aI), .val (.ref sx)] [(.ref sx)])) rfl (hb hby d8_8) (n := 24) (by decide) (by decide) (by decide) (by decide)
  have f409 : Exa Z h408 sx "java/lang/String" := (Es.ext E408)
  have f410 : Fld Z h408 sx "java/lang/String" "value" "[B" (.ref tx) := (Vs.ext E408)
  have f411 : Fld Z h408 sx "java/lang/String" "coder" "B" (.int (0 : Int32)) := (Cs.ext E408)
  have f412 : Arv Z h408 tx kx .byte Nx vx (.int (0 : Int32)) := (Arv.ext Ks E408)
  have O408 := O0.ext E408
  have K408 := (Keep.refl h0 []).ext E408
  refine own_goW st408 ?_
  show own_GoesW _ _ _ _ _ _ _ (T408.setTop (mkF m 10 #[.val (.ref aI), .val (.ref sx)] [(.ref a408), (.ref sx)]))
  obtain ⟨cq413, kq413, q413a, q413b, q413c⟩ := isOf hZ e408 f409
  obtain ⟨_, _, ⟨T413, L413, k413, n413⟩, -, X413, ⟨Lc413, hQ413, l413, y413, z413⟩, st413⟩ := X408.virtualBack hx (y := (⟨"java/lang/String", "equals", "(Ljava/lang/Object;)Z"⟩ : MethodName)) (z := (⟨"java/lang/String", "equals", "(Ljava/lang/Object;)Z"⟩ : MethodName)) hown (mvT hZ (hw _ (List.mem_of_getElem? (i := 86) rfl))) (mvT hZ (hw _ (List.mem_of_getElem? (i := 87) rfl))) (notFace_of_selects (args := #[]) (mvT hZ (hw _ (List.mem_of_getElem? (i := 89) rfl)))) (mvT hZ (hw _ (List.mem_of_getElem? (i := 89) rfl))) (mvT hZ (hw _ (List.mem_of_getElem? (i := 88) rfl))) (by decide) (StrChars.Road.eqW (W := 0) hZ (own_wordsEq hw) (kI := 4) (hw _ (List.mem_of_getElem? (i := 14) rfl)) f409 f410 f411 f412 hcs hbs hls EA408 VA408 CA408 KA408 own_codp (by decide) (by decide) (SC.ext O408.2) hzc (by decide) (by decide)) q413a q413c (g := (mkF m 10 #[.val (.ref aI), .val (.ref sx)] [(.ref a408), (.ref sx)])) rfl (by rw [hml]; rfl) (Steps.refl _) (argsL := [(.ref a408)]) (rest := []) (lenOf pd_2 rfl) rfl (by show 2 * 0 + _ ≤ _; exact Nat.le_of_eq rfl) (hb hby d8_10) (fun _ _ => ⟨rfl, e408, (by decide : 2 + 0 ≤ _), (by decide : 28 + 0 ≤ _)⟩)
  dsimp only [Pt.U, Pt.locs, Pt.cells, Pt.slots] at X413 l413 y413 z413 st413 hQ413
  subst l413 y413 z413
  obtain ⟨hd413, rfl, e413⟩ := hQ413
  have N413 := Fr.app N0 (Fr.nil n0)
  rcases hd413 with ⟨rfl, hc413⟩ | ⟨rfl, hc413⟩
  ·
    refine own_goW (fun _ ww => Steps.trans st413 ww) ?_
    show own_GoesW _ _ _ _ _ _ _ (T413.setTop (mkF m 13 #[.val (.ref aI), .val (.ref sx)] [(.int (1 : Int32))]))
    refine own_goW (fun _ ww => XS.ifYes X413.here hx rfl (pc0 := 13) (pc' := 20) rfl (hb hby d8_13) rfl (own_if .ne (feq (by decide : ¬ ((1 : Int32) = (0 : Int32)))).2) (by decide) (by decide) ww) ?_
    show own_GoesW _ _ _ _ _ _ _ (T413.setTop (mkF m 20 #[.val (.ref aI), .val (.ref sx)] []))
    refine own_goW (fun _ ww => XS.iconst X413.here hx rfl (hb hby d8_20) ww) ?_
    show own_GoesW _ _ _ _ _ _ _ (T413.setTop (mkF m 21 #[.val (.ref aI), .val (.ref sx)] [(.int (0 : Int32))]))
    exact own_outW X413 hS hk hlk (v := some (.int (0 : Int32))) (fun h => by rw [hret] at h; cases h) (fun fs hr => retOut X413 hx (t := .boolean) hret (by decide) (Or.inl ⟨rfl, by simp, _, rfl⟩) (hb hby d8_21) hr) e413 ⟨by rw [hr0 hc413], N413, K408⟩ (by decide) (by decide)
  ·
    refine own_goW (fun _ ww => Steps.trans st413 ww) ?_
    show own_GoesW _ _ _ _ _ _ _ (T413.setTop (mkF m 13 #[.val (.ref aI), .val (.ref sx)] [(.int (0 : Int32))]))
    refine own_goW (fun _ ww => XS.ifNo X413.here hx rfl (hb hby d8_13) rfl (own_if .ne (teq (by decide : (0 : Int32) = (0 : Int32))).2) ww) ?_
    show own_GoesW _ _ _ _ _ _ _ (T413.setTop (mkF m 16 #[.val (.ref aI), .val (.ref sx)] []))
    refine own_goW (fun _ ww => XS.iconst X413.here hx rfl (hb hby d8_16) ww) ?_
    show own_GoesW _ _ _ _ _ _ _ (T413.setTop (mkF m 17 #[.val (.ref aI), .val (.ref sx)] [(.int (1 : Int32))]))
    refine own_goW (fun _ ww => XS.goto X413.here hx rfl (pc0 := 17) (pc' := 21) rfl (hb hby d8_17) (by decide) (by decide) ww) ?_
    show own_GoesW _ _ _ _ _ _ _ (T413.setTop (mkF m 21 #[.val (.ref aI), .val (.ref sx)] [(.int (1 : Int32))]))
    exact own_outW X413 hS hk hlk (v := some (.int (1 : Int32))) (fun h => by rw [hret] at h; cases h) (fun fs hr => retOut X413 hx (t := .boolean) hret (by decide) (Or.inl ⟨rfl, by simp, _, rfl⟩) (hb hby d8_21) hr) e413 ⟨by rw [hr1 hc413], N413, K408⟩ (by decide) (by decide)
theorem ef_law (m : MethodId) (x0 : Int32) (x1 : Int32) (x2 : Int64) (x4 : Int32) (k0 : Addr) (k1 : Addr) (k2 : Addr) (k3 : Addr) (k4 : Addr) (k5 : Addr) (k6 : Addr) (zc : Int32) (fm : Value) : entryFrame m #[(.int x0), (.int x1), (.long x2), (.int x4)] maxLocals = mkF m 0 #[.val (.int x0), .val (.int x1), .val (.long x2), .second, .val (.int x4), .unset, .unset, .unset, .unset, .unset, .unset, .unset, .unset] [] := by
  first | (simp [entryFrame, mkF, argsToLocals, Value.category, maxLocals]; done) | rfl
def Q_law (Z : State) (x0 : Int32) (x1 : Int32) (x2 : Int64) (x4 : Int32) (k0 : Addr) (k1 : Addr) (k2 : Addr) (k3 : Addr) (k4 : Addr) (k5 : Addr) (k6 : Addr) (zc : Int32) (fm : Value) (h0 : Heap) (n0 : Nat) (v : Option Value) (h : Heap) (vm : Vm) (L : List Loc) : Prop := v = some (.int 1) ∧ Fr n0 L
set_option maxRecDepth 65536 in
set_option maxHeartbeats 40000000 in
theorem rm_law (l : Launch) (Z : State) (a0 : Array Value) (hw : ∀ d ∈ tables_1, d.before a0 Z = true) (ws : List Jvm.Cond) (x0 : Int32) (x1 : Int32) (x2 : Int64) (x4 : Int32) (k0 : Addr) (k1 : Addr) (k2 : Addr) (k3 : Addr) (k4 : Addr) (k5 : Addr) (k6 : Addr) (zc : Int32) (fm : Value) (h0 : Heap) (n0 : Nat) (O0 : Old Z n0 h0) (S0 : Sta Z Z.heap "com/example/izin/izin/Attribute" "KICK" "Lcom/example/izin/izin/Attribute;" (.ref k0)) (S1 : Sta Z Z.heap "com/example/izin/izin/Attribute" "BAN" "Lcom/example/izin/izin/Attribute;" (.ref k1)) (S2 : Sta Z Z.heap "com/example/izin/izin/Attribute" "REDACT" "Lcom/example/izin/izin/Attribute;" (.ref k2)) (S3 : Sta Z Z.heap "com/example/izin/izin/Attribute" "INVITE" "Lcom/example/izin/izin/Attribute;" (.ref k3)) (S4 : Sta Z Z.heap "com/example/izin/izin/Attribute" "ASSIGN" "Lcom/example/izin/izin/Attribute;" (.ref k4)) (S5 : Sta Z Z.heap "com/example/izin/izin/Attribute" "STATE" "Lcom/example/izin/izin/Attribute;" (.ref k5)) (S6 : Sta Z Z.heap "com/example/izin/izin/Attribute" "EVENTS" "Lcom/example/izin/izin/Attribute;" (.ref k6)) (E0 : Exa Z Z.heap k0 "com/example/izin/izin/Attribute") (E1 : Exa Z Z.heap k1 "com/example/izin/izin/Attribute") (E2 : Exa Z Z.heap k2 "com/example/izin/izin/Attribute") (E3 : Exa Z Z.heap k3 "com/example/izin/izin/Attribute") (E4 : Exa Z Z.heap k4 "com/example/izin/izin/Attribute") (E5 : Exa Z Z.heap k5 "com/example/izin/izin/Attribute") (E6 : Exa Z Z.heap k6 "com/example/izin/izin/Attribute") (F0 : Fld Z Z.heap k0 "java/lang/Enum" "ordinal" "I" (.int (0 : Int32))) (F1 : Fld Z Z.heap k1 "java/lang/Enum" "ordinal" "I" (.int (1 : Int32))) (F2 : Fld Z Z.heap k2 "java/lang/Enum" "ordinal" "I" (.int (2 : Int32))) (F3 : Fld Z Z.heap k3 "java/lang/Enum" "ordinal" "I" (.int (3 : Int32))) (F4 : Fld Z Z.heap k4 "java/lang/Enum" "ordinal" "I" (.int (4 : Int32))) (F5 : Fld Z Z.heap k5 "java/lang/Enum" "ordinal" "I" (.int (5 : Int32))) (F6 : Fld Z Z.heap k6 "java/lang/Enum" "ordinal" "I" (.int (6 : Int32))) (SC : Sta Z Z.heap "java/lang/String" "COMPACT_STRINGS" "Z" (.int zc)) (hzc : ¬ zc = 0) (SF : Sta Z Z.heap "jdk/internal/util/Preconditions" "SIOOBE_FORMATTER" "Ljava/util/function/BiFunction;" fm) (rfm : fm.isRef = true) (hh88 : Jvm.Lit.constHeld Z "com/example/izin/izin/Attribute" 88) (hh7 : Jvm.Lit.constHeld Z "java/lang/String" 7) (hcw : Jvm.Lit.compactW.before a0 Z = true) :
    MetFree l x (head1 (Jvm.Cond.code x code maxLocals ret :: ws) room_1) (fun av_ U => av_ = #[(.int x0), (.int x1), (.long x2), (.int x4)] ∧ Z.Warmed39 U.vm ∧ U.heap = h0 ∧ (fun vm_ : Vm => IB Z vm_ []) U.vm) (fun _ _ _ _ _ => True) (fun _ U o_ U' => ∃ v L, o_ = .returned v ∧ Q_law Z x0 x1 x2 x4 k0 k1 k2 k3 k4 k5 k6 zc fm h0 n0 v U'.heap U'.vm L ∧ ReturnedEndW U o_ U' L room_1.cells room_1.slots) := by
  refine MetFree.of_bodySF (plainFor_of_name pn_1) hisR ?_
  intro p e s m args below meth c s₁ Bd hml0 hP hK
  obtain ⟨rfl, hZ, hh, hVI⟩ := hP
  have hZ : Z.Warmed39 (s.setVm s.vm).vm := hZ
  have hx := Bd.exec
  have hby := Bd.bytes
  have hml : c.maxLocals = 13 := hml0
  have hown : (s.setVm s.vm).vm.findClass "com/example/izin/izin/AttributeDefaultFlagPinLaw" = some m.cls := findClass_of_methodNamed Bd.named
  have hnm := (name_of_methodNamed Bd.named Bd.method).1
  have hlk := own_lk Bd
  have hret := Bd.returns
  have X0 : Stand p l e room_1 (s.setVm s.vm) m #[(.int x0), (.int x1), (.long x2), (.int x4)] below meth c s₁ [] 0 0 := Stand.of_body Bd
  have e0 : s₁.heap = h0 := by rw [← hh, Bd.state]; rfl
  have N0 := Fr.nil n0
  have hS : s.Since s.vm h0.size := (State.WarmedH.refl s).since _
  have hk : h0.size ≤ h0.size := Nat.le_refl _
  show own_GoesW p e below s (Q_law Z x0 x1 x2 x4 k0 k1 k2 k3 k4 k5 k6 zc fm h0 n0) room_1.cells room_1.slots (s₁.setTop (entryFrame m #[(.int x0), (.int x1), (.long x2), (.int x4)] maxLocals))
  refine own_goW (fun _ ww => castTop (ef_law m x0 x1 x2 x4 k0 k1 k2 k3 k4 k5 k6 zc fm) ww) ?_
  have hI : IB Z s.vm [] := hVI
  show own_GoesW _ _ _ _ _ _ _ (s₁.setTop (mkF m 0 #[.val (.int x0), .val (.int x1), .val (.long x2), .second, .val (.int x4), .unset, .unset, .unset, .unset, .unset, .unset, .unset, .unset] []))
  have H97 : ∀ (T97 : State) (X97 : Stand p l e room_1 (s.setVm s.vm) m #[.int x0, .int x1, .long x2, .int x4] below meth c T97 [] 0 0) (e97 : T97.heap = h0) (at_ : Addr) (x5 : Int32) (Eat : Exa Z Z.heap at_ "com/example/izin/izin/Attribute") (hat : (x5 = 3 ∧ at_ = k3) ∨ (¬ x5 = 3 ∧ ¬ at_ = k3)), own_GoesW p e below s (Q_law Z x0 x1 x2 x4 k0 k1 k2 k3 k4 k5 k6 zc fm h0 n0) room_1.cells room_1.slots (T97.setTop (mkF m 97 #[.val (.int x0), .val (.int x1), .val (.long x2), .second, .val (.int x4), .val (.int x5), .val (.ref at_), .unset, .unset, .unset, .unset, .unset, .unset] [])) := by
    intro T97 X97 e97 at_ x5 Eat hat
    show own_GoesW _ _ _ _ _ _ _ (T97.setTop (mkF m 97 #[.val (.int x0), .val (.int x1), .val (.long x2), .second, .val (.int x4), .val (.int x5), .val (.ref at_), .unset, .unset, .unset, .unset, .unset, .unset] []))
    refine own_goW (fun _ ww => XS.bipush X97.here hx rfl (hb hby at_97) ww) ?_
    show own_GoesW _ _ _ _ _ _ _ (T97.setTop (mkF m 99 #[.val (.int x0), .val (.int x1), .val (.long x2), .second, .val (.int x4), .val (.int x5), .val (.ref at_), .unset, .unset, .unset, .unset, .unset, .unset] [(.int (8 : Int32))]))
    obtain ⟨T414, h414, k414, X414, e414, E414, A414, st414⟩ := newP X97 hx hZ (hw _ (List.mem_of_getElem? (i := 4) rfl)) e97 (g := (mkF m 99 #[.val (.int x0), .val (.int x1), .val (.long x2), .second, .val (.int x4), .val (.int x5), .val (.ref at_), .unset, .unset, .unset, .unset, .unset, .unset] [(.int (8 : Int32))])) rfl (hb hby at_99) rfl (by decide) (cap := 8) (by decide) (by decide) (by decide) (by decide)
    obtain ⟨b414, g414⟩ : ∃ z, z = h0.size := ⟨_, rfl⟩
    rw [← g414] at A414 st414
    have ne_at__b414 : at_ ≠ b414 := Nat.ne_of_lt (Nat.lt_of_lt_of_le (Eat.ext O0.2).lt (Nat.le_of_eq g414.symm))
    have g_b414 : n0 ≤ b414 := Nat.le_trans (O0.1 ▸ O0.2.1) (Nat.le_of_eq g414.symm)
    have O414 := O0.ext E414
    have hk := Nat.le_trans hk E414.1
    have V414 : Arv Z h414 b414 k414 .char (8 : Int32) [(.int (0 : Int32)), (.int (0 : Int32)), (.int (0 : Int32)), (.int (0 : Int32)), (.int (0 : Int32)), (.int (0 : Int32)), (.int (0 : Int32)), (.int (0 : Int32))] (.int (0 : Int32)) := (Arv.new A414 (by decide)).pad (pad_rep [] (.int (0 : Int32)) 8)
    refine own_goW st414 ?_
    show own_GoesW _ _ _ _ _ _ _ (T414.setTop (mkF m 101 #[.val (.int x0), .val (.int x1), .val (.long x2), .second, .val (.int x4), .val (.int x5), .val (.ref at_), .unset, .unset, .unset, .unset, .unset, .unset] [(.ref b414)]))
    refine own_goW (fun _ ww => XS.astore X414.here hx rfl (hb hby at_101) rfl rfl (l' := #[.val (.int x0), .val (.int x1), .val (.long x2), .second, .val (.int x4), .val (.int x5), .val (.ref at_), .val (.ref b414), .unset, .unset, .unset, .unset, .unset]) rfl ww) ?_
    show own_GoesW _ _ _ _ _ _ _ (T414.setTop (mkF m 103 #[.val (.int x0), .val (.int x1), .val (.long x2), .second, .val (.int x4), .val (.int x5), .val (.ref at_), .val (.ref b414), .unset, .unset, .unset, .unset, .unset] []))
    have H304 : ∀ (T304 : State) (h304 : Heap) (L304 : List Loc) (X304 : Stand p l e room_1 (s.setVm s.vm) m #[.int x0, .int x1, .long x2, .int x4] below meth c T304 L304 1 8) (e304 : T304.heap = h304) (N304 : Fr n0 L304) (O304 : Old Z n0 h304) (hk : h0.size ≤ h304.size) (c0 c1 c2 c3 c4 c5 c6 c7 x8 x9 : Int32) (bc0 : (¬ c0 < 0 ∧ ¬ (255 : Int32) < c0)) (bc1 : (¬ c1 < 0 ∧ ¬ (255 : Int32) < c1)) (bc2 : (¬ c2 < 0 ∧ ¬ (255 : Int32) < c2)) (bc3 : (¬ c3 < 0 ∧ ¬ (255 : Int32) < c3)) (bc4 : (¬ c4 < 0 ∧ ¬ (255 : Int32) < c4)) (bc5 : (¬ c5 < 0 ∧ ¬ (255 : Int32) < c5)) (bc6 : (¬ c6 < 0 ∧ ¬ (255 : Int32) < c6)) (bc7 : (¬ c7 < 0 ∧ ¬ (255 : Int32) < c7)) (V304 : Arv Z h304 b414 k414 .char (8 : Int32) [(.int c0), (.int c1), (.int c2), (.int c3), (.int c4), (.int c5), (.int c6), (.int c7)] (.int (0 : Int32))), own_GoesW p e below s (Q_law Z x0 x1 x2 x4 k0 k1 k2 k3 k4 k5 k6 zc fm h0 n0) room_1.cells room_1.slots (T304.setTop (mkF m 304 #[.val (.int x0), .val (.int x1), .val (.long x2), .second, .val (.int x4), .val (.int x5), .val (.ref at_), .val (.ref b414), .val (.int x8), .val (.int x9), .unset, .unset, .unset] [])) := by
      intro T304 h304 L304 X304 e304 N304 O304 hk c0 c1 c2 c3 c4 c5 c6 c7 x8 x9 bc0 bc1 bc2 bc3 bc4 bc5 bc6 bc7 V304
      show own_GoesW _ _ _ _ _ _ _ (T304.setTop (mkF m 304 #[.val (.int x0), .val (.int x1), .val (.long x2), .second, .val (.int x4), .val (.int x5), .val (.ref at_), .val (.ref b414), .val (.int x8), .val (.int x9), .unset, .unset, .unset] []))
      refine own_goW (fun _ ww => XS.aload X304.here hx rfl (hb hby at_304) rfl rfl ww) ?_
      show own_GoesW _ _ _ _ _ _ _ (T304.setTop (mkF m 306 #[.val (.int x0), .val (.int x1), .val (.long x2), .second, .val (.int x4), .val (.int x5), .val (.ref at_), .val (.ref b414), .val (.int x8), .val (.int x9), .unset, .unset, .unset] [(.ref b414)]))
      refine own_goW (fun _ ww => XS.iload X304.here hx rfl (hb hby at_306) rfl  ww) ?_
      show own_GoesW _ _ _ _ _ _ _ (T304.setTop (mkF m 308 #[.val (.int x0), .val (.int x1), .val (.long x2), .second, .val (.int x4), .val (.int x5), .val (.ref at_), .val (.ref b414), .val (.int x8), .val (.int x9), .unset, .unset, .unset] [(.int x9), (.ref b414)]))
      obtain ⟨_, _, ⟨T415, L415, k415, n415⟩, -, X415, hS415, hg415, ⟨Lc415, hQ415, l415, y415, z415⟩, st415⟩ := callSS X304 hx (y := (⟨"com/example/izin/izin/AttributeDefaultFlagPinLaw", "take", "([CI)Ljava/lang/String;"⟩ : MethodName)) hown (mvT hZ (hw _ (List.mem_of_getElem? (i := 10) rfl))) (mvT hZ (hw _ (List.mem_of_getElem? (i := 11) rfl))) (mvT hZ (hw _ (List.mem_of_getElem? (i := 7) rfl))) (mvT hZ (hw _ (List.mem_of_getElem? (i := 12) rfl))) (by decide) (own_backV (W := 0) (rm_take l Z a0 hw [] x9 b414 k414 c0 c1 c2 c3 c4 c5 c6 c7 zc h304 n0 O304 V304 bc0 bc1 bc2 bc3 bc4 bc5 bc6 bc7 hh7 hcw SC hzc) hZ (fun _ q => own_IBw q hI) (hw _ (List.mem_of_getElem? (i := 12) rfl)) (hw _ (List.mem_of_getElem? (i := 7) rfl)) (by decide) (by decide)) (g := (mkF m 308 #[.val (.int x0), .val (.int x1), .val (.long x2), .second, .val (.int x4), .val (.int x5), .val (.ref at_), .val (.ref b414), .val (.int x8), .val (.int x9), .unset, .unset, .unset] [(.int x9), (.ref b414)])) rfl (by rw [hml]; rfl) (argsL := [(.ref b414), (.int x9)]) (rest := []) (lenOf pd_3 rfl) rfl (by show 2 * 0 + _ ≤ _; exact Nat.le_of_eq rfl) (hb hby at_308) (fun _ _ => ⟨rfl, e304, (by decide : 1 + 4 ≤ _), (by decide : 8 + 20 ≤ _)⟩)
      dsimp only [Pt.U, Pt.locs, Pt.cells, Pt.slots] at X415 l415 y415 z415 st415 hQ415 hS415 hg415
      subst l415 y415 z415
      obtain ⟨X415, hS, hZ, hown⟩ := rebS hS (show _ ≤ T304.heap.size from (by rw [e304]; exact hk)) X415 hS415 hg415 hZ hown
      obtain ⟨r415, t415, kb415, cs415, Nx415, vx415, rfl, N415q, K415q, E415q, C415q, V415q, A415q, hcs415, hbs415, hls415, I415q⟩ := hQ415
      have N415 := Fr.app N304 N415q
      have hk : T415.heap.size ≤ T415.heap.size := Nat.le_refl _
      have f416 : Arv Z T415.heap b414 k414 .char (8 : Int32) [(.int c0), (.int c1), (.int c2), (.int c3), (.int c4), (.int c5), (.int c6), (.int c7)] (.int (0 : Int32)) := (V304.keep K415q nin0)
      have O415 := O304.keep K415q all0
      refine own_goW (fun _ ww => Steps.trans st415 ww) ?_
      show own_GoesW _ _ _ _ _ _ _ (T415.setTop (mkF m 311 #[.val (.int x0), .val (.int x1), .val (.long x2), .second, .val (.int x4), .val (.int x5), .val (.ref at_), .val (.ref b414), .val (.int x8), .val (.int x9), .unset, .unset, .unset] [(.ref r415)]))
      refine own_goW (fun _ ww => XS.astore X415.here hx rfl (hb hby at_311) rfl rfl (l' := #[.val (.int x0), .val (.int x1), .val (.long x2), .second, .val (.int x4), .val (.int x5), .val (.ref at_), .val (.ref b414), .val (.int x8), .val (.int x9), .val (.ref r415), .unset, .unset]) rfl ww) ?_
      show own_GoesW _ _ _ _ _ _ _ (T415.setTop (mkF m 313 #[.val (.int x0), .val (.int x1), .val (.long x2), .second, .val (.int x4), .val (.int x5), .val (.ref at_), .val (.ref b414), .val (.int x8), .val (.int x9), .val (.ref r415), .unset, .unset] []))
      rcases own_six cs415 hls415 with ⟨d0, d1, d2, d3, d4, d5, rfl⟩ | ⟨hn6, hnp⟩
      ·
        show own_GoesW _ _ _ _ _ _ _ (T415.setTop (mkF m 313 #[.val (.int x0), .val (.int x1), .val (.long x2), .second, .val (.int x4), .val (.int x5), .val (.ref at_), .val (.ref b414), .val (.int x8), .val (.int x9), .val (.ref r415), .unset, .unset] []))
        refine own_goW (fun _ ww => XS.aload X415.here hx rfl (hb hby at_313) rfl rfl ww) ?_
        show own_GoesW _ _ _ _ _ _ _ (T415.setTop (mkF m 315 #[.val (.int x0), .val (.int x1), .val (.long x2), .second, .val (.int x4), .val (.int x5), .val (.ref at_), .val (.ref b414), .val (.int x8), .val (.int x9), .val (.ref r415), .unset, .unset] [(.ref r415)]))
        obtain ⟨cq417, kq417, q417a, q417b, q417c⟩ := isOf hZ rfl E415q
        obtain ⟨_, _, ⟨T417, L417, k417, n417⟩, -, X417, ⟨Lc417, hQ417, l417, y417, z417⟩, st417⟩ := X415.virtualBack hx (y := (⟨"java/lang/String", "length", "()I"⟩ : MethodName)) (z := (⟨"java/lang/String", "length", "()I"⟩ : MethodName)) hown (mvT hZ (hw _ (List.mem_of_getElem? (i := 34) rfl))) (mvT hZ (hw _ (List.mem_of_getElem? (i := 35) rfl))) (notFace_of_selects (args := #[]) (mvT hZ (hw _ (List.mem_of_getElem? (i := 37) rfl)))) (mvT hZ (hw _ (List.mem_of_getElem? (i := 37) rfl))) (mvT hZ (hw _ (List.mem_of_getElem? (i := 36) rfl))) (by decide) (StrChars.Road.lenW (W := 0) hZ (own_wordsLen hw) (kI := 4) (hw _ (List.mem_of_getElem? (i := 14) rfl)) E415q V415q C415q A415q hcs415 hbs415 (SC.ext O415.2) hzc hls415 (by decide) (by decide)) q417a q417c (g := (mkF m 315 #[.val (.int x0), .val (.int x1), .val (.long x2), .second, .val (.int x4), .val (.int x5), .val (.ref at_), .val (.ref b414), .val (.int x8), .val (.int x9), .val (.ref r415), .unset, .unset] [(.ref r415)])) rfl (by rw [hml]; rfl) (Steps.refl _) (argsL := []) (rest := []) (lenOf pd_4 rfl) rfl (by show 2 * 0 + _ ≤ _; exact Nat.le_of_eq rfl) (hb hby at_315) (fun _ _ => ⟨rfl, rfl, (by decide : 5 + 0 ≤ _), (by decide : 28 + 0 ≤ _)⟩)
        dsimp only [Pt.U, Pt.locs, Pt.cells, Pt.slots] at X417 l417 y417 z417 st417 hQ417
        subst l417 y417 z417
        obtain ⟨rfl, rfl, e417⟩ := hQ417
        have N417 := Fr.app N415 (Fr.nil n0)
        refine own_goW (fun _ ww => Steps.trans st417 ww) ?_
        show own_GoesW _ _ _ _ _ _ _ (T417.setTop (mkF m 318 #[.val (.int x0), .val (.int x1), .val (.long x2), .second, .val (.int x4), .val (.int x5), .val (.ref at_), .val (.ref b414), .val (.int x8), .val (.int x9), .val (.ref r415), .unset, .unset] [(.int (6 : Int32))]))
        refine own_goW (fun _ ww => XS.bipush X417.here hx rfl (hb hby at_318) ww) ?_
        show own_GoesW _ _ _ _ _ _ _ (T417.setTop (mkF m 320 #[.val (.int x0), .val (.int x1), .val (.long x2), .second, .val (.int x4), .val (.int x5), .val (.ref at_), .val (.ref b414), .val (.int x8), .val (.int x9), .val (.ref r415), .unset, .unset] [(.int (6 : Int32)), (.int (6 : Int32))]))
        refine own_goW (fun _ ww => XS.icmpNo X417.here hx rfl (hb hby at_320) rfl (teq (by decide : (6 : Int32) = (6 : Int32))).2 ww) ?_
        show own_GoesW _ _ _ _ _ _ _ (T417.setTop (mkF m 323 #[.val (.int x0), .val (.int x1), .val (.long x2), .second, .val (.int x4), .val (.int x5), .val (.ref at_), .val (.ref b414), .val (.int x8), .val (.int x9), .val (.ref r415), .unset, .unset] []))
        refine own_goW (fun _ ww => XS.aload X417.here hx rfl (hb hby at_323) rfl rfl ww) ?_
        show own_GoesW _ _ _ _ _ _ _ (T417.setTop (mkF m 325 #[.val (.int x0), .val (.int x1), .val (.long x2), .second, .val (.int x4), .val (.int x5), .val (.ref at_), .val (.ref b414), .val (.int x8), .val (.int x9), .val (.ref r415), .unset, .unset] [(.ref r415)]))
        refine own_goW (fun _ ww => XS.iconst X417.here hx rfl (hb hby at_325) ww) ?_
        show own_GoesW _ _ _ _ _ _ _ (T417.setTop (mkF m 326 #[.val (.int x0), .val (.int x1), .val (.long x2), .second, .val (.int x4), .val (.int x5), .val (.ref at_), .val (.ref b414), .val (.int x8), .val (.int x9), .val (.ref r415), .unset, .unset] [(.int (0 : Int32)), (.ref r415)]))
        obtain ⟨cq418, kq418, q418a, q418b, q418c⟩ := isOf hZ e417 E415q
        obtain ⟨_, _, ⟨T418, L418, k418, n418⟩, -, X418, ⟨Lc418, hQ418, l418, y418, z418⟩, st418⟩ := X417.virtualBack hx (y := (⟨"java/lang/String", "charAt", "(I)C"⟩ : MethodName)) (z := (⟨"java/lang/String", "charAt", "(I)C"⟩ : MethodName)) hown (mvT hZ (hw _ (List.mem_of_getElem? (i := 63) rfl))) (mvT hZ (hw _ (List.mem_of_getElem? (i := 64) rfl))) (notFace_of_selects (args := #[]) (mvT hZ (hw _ (List.mem_of_getElem? (i := 66) rfl)))) (mvT hZ (hw _ (List.mem_of_getElem? (i := 66) rfl))) (mvT hZ (hw _ (List.mem_of_getElem? (i := 65) rfl))) (by decide) (StrChars.Road.chN (W := 0) hZ (own_wordsChN hw) (kI := 4) (hw _ (List.mem_of_getElem? (i := 14) rfl)) (i := 0) (j := (0 : Int32)) E415q V415q C415q A415q hcs415 hbs415 (SC.ext O415.2) hzc (SF.ext O415.2) rfm hls415 (Nat.le_of_ble_eq_true rfl) rfl (by decide) (by decide)) q418a q418c (g := (mkF m 326 #[.val (.int x0), .val (.int x1), .val (.long x2), .second, .val (.int x4), .val (.int x5), .val (.ref at_), .val (.ref b414), .val (.int x8), .val (.int x9), .val (.ref r415), .unset, .unset] [(.int (0 : Int32)), (.ref r415)])) rfl (by rw [hml]; rfl) (Steps.refl _) (argsL := [(.int (0 : Int32))]) (rest := []) (lenOf pd_5 rfl) rfl (by show 2 * 0 + _ ≤ _; exact Nat.le_of_eq rfl) (hb hby at_326) (fun _ _ => ⟨rfl, e417, (by decide : 5 + 0 ≤ _), (by decide : 28 + 0 ≤ _)⟩)
        dsimp only [Pt.U, Pt.locs, Pt.cells, Pt.slots] at X418 l418 y418 z418 st418 hQ418
        subst l418 y418 z418
        obtain ⟨rfl, rfl, e418⟩ := hQ418
        have N418 := Fr.app N417 (Fr.nil n0)
        refine own_goW (fun _ ww => Steps.trans st418 ww) ?_
        show own_GoesW _ _ _ _ _ _ _ (T418.setTop (mkF m 329 #[.val (.int x0), .val (.int x1), .val (.long x2), .second, .val (.int x4), .val (.int x5), .val (.ref at_), .val (.ref b414), .val (.int x8), .val (.int x9), .val (.ref r415), .unset, .unset] [(.int d0)]))
        refine own_goW (fun _ ww => XS.bipush X418.here hx rfl (hb hby at_329) ww) ?_
        show own_GoesW _ _ _ _ _ _ _ (T418.setTop (mkF m 331 #[.val (.int x0), .val (.int x1), .val (.long x2), .second, .val (.int x4), .val (.int x5), .val (.ref at_), .val (.ref b414), .val (.int x8), .val (.int x9), .val (.ref r415), .unset, .unset] [(.int (112 : Int32)), (.int d0)]))
        by_cases hc419 : d0 = (112 : Int32)
        ·
          refine own_goW (fun _ ww => XS.icmpNo X418.here hx rfl (hb hby at_331) rfl (teq hc419).2 ww) ?_
          show own_GoesW _ _ _ _ _ _ _ (T418.setTop (mkF m 334 #[.val (.int x0), .val (.int x1), .val (.long x2), .second, .val (.int x4), .val (.int x5), .val (.ref at_), .val (.ref b414), .val (.int x8), .val (.int x9), .val (.ref r415), .unset, .unset] []))
          refine own_goW (fun _ ww => XS.aload X418.here hx rfl (hb hby at_334) rfl rfl ww) ?_
          show own_GoesW _ _ _ _ _ _ _ (T418.setTop (mkF m 336 #[.val (.int x0), .val (.int x1), .val (.long x2), .second, .val (.int x4), .val (.int x5), .val (.ref at_), .val (.ref b414), .val (.int x8), .val (.int x9), .val (.ref r415), .unset, .unset] [(.ref r415)]))
          refine own_goW (fun _ ww => XS.iconst X418.here hx rfl (hb hby at_336) ww) ?_
          show own_GoesW _ _ _ _ _ _ _ (T418.setTop (mkF m 337 #[.val (.int x0), .val (.int x1), .val (.long x2), .second, .val (.int x4), .val (.int x5), .val (.ref at_), .val (.ref b414), .val (.int x8), .val (.int x9), .val (.ref r415), .unset, .unset] [(.int (1 : Int32)), (.ref r415)]))
          obtain ⟨cq420, kq420, q420a, q420b, q420c⟩ := isOf hZ e418 E415q
          obtain ⟨_, _, ⟨T420, L420, k420, n420⟩, -, X420, ⟨Lc420, hQ420, l420, y420, z420⟩, st420⟩ := X418.virtualBack hx (y := (⟨"java/lang/String", "charAt", "(I)C"⟩ : MethodName)) (z := (⟨"java/lang/String", "charAt", "(I)C"⟩ : MethodName)) hown (mvT hZ (hw _ (List.mem_of_getElem? (i := 63) rfl))) (mvT hZ (hw _ (List.mem_of_getElem? (i := 64) rfl))) (notFace_of_selects (args := #[]) (mvT hZ (hw _ (List.mem_of_getElem? (i := 66) rfl)))) (mvT hZ (hw _ (List.mem_of_getElem? (i := 66) rfl))) (mvT hZ (hw _ (List.mem_of_getElem? (i := 65) rfl))) (by decide) (StrChars.Road.chN (W := 0) hZ (own_wordsChN hw) (kI := 4) (hw _ (List.mem_of_getElem? (i := 14) rfl)) (i := 1) (j := (1 : Int32)) E415q V415q C415q A415q hcs415 hbs415 (SC.ext O415.2) hzc (SF.ext O415.2) rfm hls415 (Nat.le_of_ble_eq_true rfl) rfl (by decide) (by decide)) q420a q420c (g := (mkF m 337 #[.val (.int x0), .val (.int x1), .val (.long x2), .second, .val (.int x4), .val (.int x5), .val (.ref at_), .val (.ref b414), .val (.int x8), .val (.int x9), .val (.ref r415), .unset, .unset] [(.int (1 : Int32)), (.ref r415)])) rfl (by rw [hml]; rfl) (Steps.refl _) (argsL := [(.int (1 : Int32))]) (rest := []) (lenOf pd_5 rfl) rfl (by show 2 * 0 + _ ≤ _; exact Nat.le_of_eq rfl) (hb hby at_337) (fun _ _ => ⟨rfl, e418, (by decide : 5 + 0 ≤ _), (by decide : 28 + 0 ≤ _)⟩)
          dsimp only [Pt.U, Pt.locs, Pt.cells, Pt.slots] at X420 l420 y420 z420 st420 hQ420
          subst l420 y420 z420
          obtain ⟨rfl, rfl, e420⟩ := hQ420
          have N420 := Fr.app N418 (Fr.nil n0)
          refine own_goW (fun _ ww => Steps.trans st420 ww) ?_
          show own_GoesW _ _ _ _ _ _ _ (T420.setTop (mkF m 340 #[.val (.int x0), .val (.int x1), .val (.long x2), .second, .val (.int x4), .val (.int x5), .val (.ref at_), .val (.ref b414), .val (.int x8), .val (.int x9), .val (.ref r415), .unset, .unset] [(.int d1)]))
          refine own_goW (fun _ ww => XS.bipush X420.here hx rfl (hb hby at_340) ww) ?_
          show own_GoesW _ _ _ _ _ _ _ (T420.setTop (mkF m 342 #[.val (.int x0), .val (.int x1), .val (.long x2), .second, .val (.int x4), .val (.int x5), .val (.ref at_), .val (.ref b414), .val (.int x8), .val (.int x9), .val (.ref r415), .unset, .unset] [(.int (117 : Int32)), (.int d1)]))
          by_cases hc421 : d1 = (117 : Int32)
          ·
            refine own_goW (fun _ ww => XS.icmpNo X420.here hx rfl (hb hby at_342) rfl (teq hc421).2 ww) ?_
            show own_GoesW _ _ _ _ _ _ _ (T420.setTop (mkF m 345 #[.val (.int x0), .val (.int x1), .val (.long x2), .second, .val (.int x4), .val (.int x5), .val (.ref at_), .val (.ref b414), .val (.int x8), .val (.int x9), .val (.ref r415), .unset, .unset] []))
            refine own_goW (fun _ ww => XS.aload X420.here hx rfl (hb hby at_345) rfl rfl ww) ?_
            show own_GoesW _ _ _ _ _ _ _ (T420.setTop (mkF m 347 #[.val (.int x0), .val (.int x1), .val (.long x2), .second, .val (.int x4), .val (.int x5), .val (.ref at_), .val (.ref b414), .val (.int x8), .val (.int x9), .val (.ref r415), .unset, .unset] [(.ref r415)]))
            refine own_goW (fun _ ww => XS.iconst X420.here hx rfl (hb hby at_347) ww) ?_
            show own_GoesW _ _ _ _ _ _ _ (T420.setTop (mkF m 348 #[.val (.int x0), .val (.int x1), .val (.long x2), .second, .val (.int x4), .val (.int x5), .val (.ref at_), .val (.ref b414), .val (.int x8), .val (.int x9), .val (.ref r415), .unset, .unset] [(.int (2 : Int32)), (.ref r415)]))
            obtain ⟨cq422, kq422, q422a, q422b, q422c⟩ := isOf hZ e420 E415q
            obtain ⟨_, _, ⟨T422, L422, k422, n422⟩, -, X422, ⟨Lc422, hQ422, l422, y422, z422⟩, st422⟩ := X420.virtualBack hx (y := (⟨"java/lang/String", "charAt", "(I)C"⟩ : MethodName)) (z := (⟨"java/lang/String", "charAt", "(I)C"⟩ : MethodName)) hown (mvT hZ (hw _ (List.mem_of_getElem? (i := 63) rfl))) (mvT hZ (hw _ (List.mem_of_getElem? (i := 64) rfl))) (notFace_of_selects (args := #[]) (mvT hZ (hw _ (List.mem_of_getElem? (i := 66) rfl)))) (mvT hZ (hw _ (List.mem_of_getElem? (i := 66) rfl))) (mvT hZ (hw _ (List.mem_of_getElem? (i := 65) rfl))) (by decide) (StrChars.Road.chN (W := 0) hZ (own_wordsChN hw) (kI := 4) (hw _ (List.mem_of_getElem? (i := 14) rfl)) (i := 2) (j := (2 : Int32)) E415q V415q C415q A415q hcs415 hbs415 (SC.ext O415.2) hzc (SF.ext O415.2) rfm hls415 (Nat.le_of_ble_eq_true rfl) rfl (by decide) (by decide)) q422a q422c (g := (mkF m 348 #[.val (.int x0), .val (.int x1), .val (.long x2), .second, .val (.int x4), .val (.int x5), .val (.ref at_), .val (.ref b414), .val (.int x8), .val (.int x9), .val (.ref r415), .unset, .unset] [(.int (2 : Int32)), (.ref r415)])) rfl (by rw [hml]; rfl) (Steps.refl _) (argsL := [(.int (2 : Int32))]) (rest := []) (lenOf pd_5 rfl) rfl (by show 2 * 0 + _ ≤ _; exact Nat.le_of_eq rfl) (hb hby at_348) (fun _ _ => ⟨rfl, e420, (by decide : 5 + 0 ≤ _), (by decide : 28 + 0 ≤ _)⟩)
            dsimp only [Pt.U, Pt.locs, Pt.cells, Pt.slots] at X422 l422 y422 z422 st422 hQ422
            subst l422 y422 z422
            obtain ⟨rfl, rfl, e422⟩ := hQ422
            have N422 := Fr.app N420 (Fr.nil n0)
            refine own_goW (fun _ ww => Steps.trans st422 ww) ?_
            show own_GoesW _ _ _ _ _ _ _ (T422.setTop (mkF m 351 #[.val (.int x0), .val (.int x1), .val (.long x2), .second, .val (.int x4), .val (.int x5), .val (.ref at_), .val (.ref b414), .val (.int x8), .val (.int x9), .val (.ref r415), .unset, .unset] [(.int d2)]))
            refine own_goW (fun _ ww => XS.bipush X422.here hx rfl (hb hby at_351) ww) ?_
            show own_GoesW _ _ _ _ _ _ _ (T422.setTop (mkF m 353 #[.val (.int x0), .val (.int x1), .val (.long x2), .second, .val (.int x4), .val (.int x5), .val (.ref at_), .val (.ref b414), .val (.int x8), .val (.int x9), .val (.ref r415), .unset, .unset] [(.int (98 : Int32)), (.int d2)]))
            by_cases hc423 : d2 = (98 : Int32)
            ·
              refine own_goW (fun _ ww => XS.icmpNo X422.here hx rfl (hb hby at_353) rfl (teq hc423).2 ww) ?_
              show own_GoesW _ _ _ _ _ _ _ (T422.setTop (mkF m 356 #[.val (.int x0), .val (.int x1), .val (.long x2), .second, .val (.int x4), .val (.int x5), .val (.ref at_), .val (.ref b414), .val (.int x8), .val (.int x9), .val (.ref r415), .unset, .unset] []))
              refine own_goW (fun _ ww => XS.aload X422.here hx rfl (hb hby at_356) rfl rfl ww) ?_
              show own_GoesW _ _ _ _ _ _ _ (T422.setTop (mkF m 358 #[.val (.int x0), .val (.int x1), .val (.long x2), .second, .val (.int x4), .val (.int x5), .val (.ref at_), .val (.ref b414), .val (.int x8), .val (.int x9), .val (.ref r415), .unset, .unset] [(.ref r415)]))
              refine own_goW (fun _ ww => XS.iconst X422.here hx rfl (hb hby at_358) ww) ?_
              show own_GoesW _ _ _ _ _ _ _ (T422.setTop (mkF m 359 #[.val (.int x0), .val (.int x1), .val (.long x2), .second, .val (.int x4), .val (.int x5), .val (.ref at_), .val (.ref b414), .val (.int x8), .val (.int x9), .val (.ref r415), .unset, .unset] [(.int (3 : Int32)), (.ref r415)]))
              obtain ⟨cq424, kq424, q424a, q424b, q424c⟩ := isOf hZ e422 E415q
              obtain ⟨_, _, ⟨T424, L424, k424, n424⟩, -, X424, ⟨Lc424, hQ424, l424, y424, z424⟩, st424⟩ := X422.virtualBack hx (y := (⟨"java/lang/String", "charAt", "(I)C"⟩ : MethodName)) (z := (⟨"java/lang/String", "charAt", "(I)C"⟩ : MethodName)) hown (mvT hZ (hw _ (List.mem_of_getElem? (i := 63) rfl))) (mvT hZ (hw _ (List.mem_of_getElem? (i := 64) rfl))) (notFace_of_selects (args := #[]) (mvT hZ (hw _ (List.mem_of_getElem? (i := 66) rfl)))) (mvT hZ (hw _ (List.mem_of_getElem? (i := 66) rfl))) (mvT hZ (hw _ (List.mem_of_getElem? (i := 65) rfl))) (by decide) (StrChars.Road.chN (W := 0) hZ (own_wordsChN hw) (kI := 4) (hw _ (List.mem_of_getElem? (i := 14) rfl)) (i := 3) (j := (3 : Int32)) E415q V415q C415q A415q hcs415 hbs415 (SC.ext O415.2) hzc (SF.ext O415.2) rfm hls415 (Nat.le_of_ble_eq_true rfl) rfl (by decide) (by decide)) q424a q424c (g := (mkF m 359 #[.val (.int x0), .val (.int x1), .val (.long x2), .second, .val (.int x4), .val (.int x5), .val (.ref at_), .val (.ref b414), .val (.int x8), .val (.int x9), .val (.ref r415), .unset, .unset] [(.int (3 : Int32)), (.ref r415)])) rfl (by rw [hml]; rfl) (Steps.refl _) (argsL := [(.int (3 : Int32))]) (rest := []) (lenOf pd_5 rfl) rfl (by show 2 * 0 + _ ≤ _; exact Nat.le_of_eq rfl) (hb hby at_359) (fun _ _ => ⟨rfl, e422, (by decide : 5 + 0 ≤ _), (by decide : 28 + 0 ≤ _)⟩)
              dsimp only [Pt.U, Pt.locs, Pt.cells, Pt.slots] at X424 l424 y424 z424 st424 hQ424
              subst l424 y424 z424
              obtain ⟨rfl, rfl, e424⟩ := hQ424
              have N424 := Fr.app N422 (Fr.nil n0)
              refine own_goW (fun _ ww => Steps.trans st424 ww) ?_
              show own_GoesW _ _ _ _ _ _ _ (T424.setTop (mkF m 362 #[.val (.int x0), .val (.int x1), .val (.long x2), .second, .val (.int x4), .val (.int x5), .val (.ref at_), .val (.ref b414), .val (.int x8), .val (.int x9), .val (.ref r415), .unset, .unset] [(.int d3)]))
              refine own_goW (fun _ ww => XS.bipush X424.here hx rfl (hb hby at_362) ww) ?_
              show own_GoesW _ _ _ _ _ _ _ (T424.setTop (mkF m 364 #[.val (.int x0), .val (.int x1), .val (.long x2), .second, .val (.int x4), .val (.int x5), .val (.ref at_), .val (.ref b414), .val (.int x8), .val (.int x9), .val (.ref r415), .unset, .unset] [(.int (108 : Int32)), (.int d3)]))
              by_cases hc425 : d3 = (108 : Int32)
              ·
                refine own_goW (fun _ ww => XS.icmpNo X424.here hx rfl (hb hby at_364) rfl (teq hc425).2 ww) ?_
                show own_GoesW _ _ _ _ _ _ _ (T424.setTop (mkF m 367 #[.val (.int x0), .val (.int x1), .val (.long x2), .second, .val (.int x4), .val (.int x5), .val (.ref at_), .val (.ref b414), .val (.int x8), .val (.int x9), .val (.ref r415), .unset, .unset] []))
                refine own_goW (fun _ ww => XS.aload X424.here hx rfl (hb hby at_367) rfl rfl ww) ?_
                show own_GoesW _ _ _ _ _ _ _ (T424.setTop (mkF m 369 #[.val (.int x0), .val (.int x1), .val (.long x2), .second, .val (.int x4), .val (.int x5), .val (.ref at_), .val (.ref b414), .val (.int x8), .val (.int x9), .val (.ref r415), .unset, .unset] [(.ref r415)]))
                refine own_goW (fun _ ww => XS.iconst X424.here hx rfl (hb hby at_369) ww) ?_
                show own_GoesW _ _ _ _ _ _ _ (T424.setTop (mkF m 370 #[.val (.int x0), .val (.int x1), .val (.long x2), .second, .val (.int x4), .val (.int x5), .val (.ref at_), .val (.ref b414), .val (.int x8), .val (.int x9), .val (.ref r415), .unset, .unset] [(.int (4 : Int32)), (.ref r415)]))
                obtain ⟨cq426, kq426, q426a, q426b, q426c⟩ := isOf hZ e424 E415q
                obtain ⟨_, _, ⟨T426, L426, k426, n426⟩, -, X426, ⟨Lc426, hQ426, l426, y426, z426⟩, st426⟩ := X424.virtualBack hx (y := (⟨"java/lang/String", "charAt", "(I)C"⟩ : MethodName)) (z := (⟨"java/lang/String", "charAt", "(I)C"⟩ : MethodName)) hown (mvT hZ (hw _ (List.mem_of_getElem? (i := 63) rfl))) (mvT hZ (hw _ (List.mem_of_getElem? (i := 64) rfl))) (notFace_of_selects (args := #[]) (mvT hZ (hw _ (List.mem_of_getElem? (i := 66) rfl)))) (mvT hZ (hw _ (List.mem_of_getElem? (i := 66) rfl))) (mvT hZ (hw _ (List.mem_of_getElem? (i := 65) rfl))) (by decide) (StrChars.Road.chN (W := 0) hZ (own_wordsChN hw) (kI := 4) (hw _ (List.mem_of_getElem? (i := 14) rfl)) (i := 4) (j := (4 : Int32)) E415q V415q C415q A415q hcs415 hbs415 (SC.ext O415.2) hzc (SF.ext O415.2) rfm hls415 (Nat.le_of_ble_eq_true rfl) rfl (by decide) (by decide)) q426a q426c (g := (mkF m 370 #[.val (.int x0), .val (.int x1), .val (.long x2), .second, .val (.int x4), .val (.int x5), .val (.ref at_), .val (.ref b414), .val (.int x8), .val (.int x9), .val (.ref r415), .unset, .unset] [(.int (4 : Int32)), (.ref r415)])) rfl (by rw [hml]; rfl) (Steps.refl _) (argsL := [(.int (4 : Int32))]) (rest := []) (lenOf pd_5 rfl) rfl (by show 2 * 0 + _ ≤ _; exact Nat.le_of_eq rfl) (hb hby at_370) (fun _ _ => ⟨rfl, e424, (by decide : 5 + 0 ≤ _), (by decide : 28 + 0 ≤ _)⟩)
                dsimp only [Pt.U, Pt.locs, Pt.cells, Pt.slots] at X426 l426 y426 z426 st426 hQ426
                subst l426 y426 z426
                obtain ⟨rfl, rfl, e426⟩ := hQ426
                have N426 := Fr.app N424 (Fr.nil n0)
                refine own_goW (fun _ ww => Steps.trans st426 ww) ?_
                show own_GoesW _ _ _ _ _ _ _ (T426.setTop (mkF m 373 #[.val (.int x0), .val (.int x1), .val (.long x2), .second, .val (.int x4), .val (.int x5), .val (.ref at_), .val (.ref b414), .val (.int x8), .val (.int x9), .val (.ref r415), .unset, .unset] [(.int d4)]))
                refine own_goW (fun _ ww => XS.bipush X426.here hx rfl (hb hby at_373) ww) ?_
                show own_GoesW _ _ _ _ _ _ _ (T426.setTop (mkF m 375 #[.val (.int x0), .val (.int x1), .val (.long x2), .second, .val (.int x4), .val (.int x5), .val (.ref at_), .val (.ref b414), .val (.int x8), .val (.int x9), .val (.ref r415), .unset, .unset] [(.int (105 : Int32)), (.int d4)]))
                by_cases hc427 : d4 = (105 : Int32)
                ·
                  refine own_goW (fun _ ww => XS.icmpNo X426.here hx rfl (hb hby at_375) rfl (teq hc427).2 ww) ?_
                  show own_GoesW _ _ _ _ _ _ _ (T426.setTop (mkF m 378 #[.val (.int x0), .val (.int x1), .val (.long x2), .second, .val (.int x4), .val (.int x5), .val (.ref at_), .val (.ref b414), .val (.int x8), .val (.int x9), .val (.ref r415), .unset, .unset] []))
                  refine own_goW (fun _ ww => XS.aload X426.here hx rfl (hb hby at_378) rfl rfl ww) ?_
                  show own_GoesW _ _ _ _ _ _ _ (T426.setTop (mkF m 380 #[.val (.int x0), .val (.int x1), .val (.long x2), .second, .val (.int x4), .val (.int x5), .val (.ref at_), .val (.ref b414), .val (.int x8), .val (.int x9), .val (.ref r415), .unset, .unset] [(.ref r415)]))
                  refine own_goW (fun _ ww => XS.iconst X426.here hx rfl (hb hby at_380) ww) ?_
                  show own_GoesW _ _ _ _ _ _ _ (T426.setTop (mkF m 381 #[.val (.int x0), .val (.int x1), .val (.long x2), .second, .val (.int x4), .val (.int x5), .val (.ref at_), .val (.ref b414), .val (.int x8), .val (.int x9), .val (.ref r415), .unset, .unset] [(.int (5 : Int32)), (.ref r415)]))
                  obtain ⟨cq428, kq428, q428a, q428b, q428c⟩ := isOf hZ e426 E415q
                  obtain ⟨_, _, ⟨T428, L428, k428, n428⟩, -, X428, ⟨Lc428, hQ428, l428, y428, z428⟩, st428⟩ := X426.virtualBack hx (y := (⟨"java/lang/String", "charAt", "(I)C"⟩ : MethodName)) (z := (⟨"java/lang/String", "charAt", "(I)C"⟩ : MethodName)) hown (mvT hZ (hw _ (List.mem_of_getElem? (i := 63) rfl))) (mvT hZ (hw _ (List.mem_of_getElem? (i := 64) rfl))) (notFace_of_selects (args := #[]) (mvT hZ (hw _ (List.mem_of_getElem? (i := 66) rfl)))) (mvT hZ (hw _ (List.mem_of_getElem? (i := 66) rfl))) (mvT hZ (hw _ (List.mem_of_getElem? (i := 65) rfl))) (by decide) (StrChars.Road.chN (W := 0) hZ (own_wordsChN hw) (kI := 4) (hw _ (List.mem_of_getElem? (i := 14) rfl)) (i := 5) (j := (5 : Int32)) E415q V415q C415q A415q hcs415 hbs415 (SC.ext O415.2) hzc (SF.ext O415.2) rfm hls415 (Nat.le_of_ble_eq_true rfl) rfl (by decide) (by decide)) q428a q428c (g := (mkF m 381 #[.val (.int x0), .val (.int x1), .val (.long x2), .second, .val (.int x4), .val (.int x5), .val (.ref at_), .val (.ref b414), .val (.int x8), .val (.int x9), .val (.ref r415), .unset, .unset] [(.int (5 : Int32)), (.ref r415)])) rfl (by rw [hml]; rfl) (Steps.refl _) (argsL := [(.int (5 : Int32))]) (rest := []) (lenOf pd_5 rfl) rfl (by show 2 * 0 + _ ≤ _; exact Nat.le_of_eq rfl) (hb hby at_381) (fun _ _ => ⟨rfl, e426, (by decide : 5 + 0 ≤ _), (by decide : 28 + 0 ≤ _)⟩)
                  dsimp only [Pt.U, Pt.locs, Pt.cells, Pt.slots] at X428 l428 y428 z428 st428 hQ428
                  subst l428 y428 z428
                  obtain ⟨rfl, rfl, e428⟩ := hQ428
                  have N428 := Fr.app N426 (Fr.nil n0)
                  refine own_goW (fun _ ww => Steps.trans st428 ww) ?_
                  show own_GoesW _ _ _ _ _ _ _ (T428.setTop (mkF m 384 #[.val (.int x0), .val (.int x1), .val (.long x2), .second, .val (.int x4), .val (.int x5), .val (.ref at_), .val (.ref b414), .val (.int x8), .val (.int x9), .val (.ref r415), .unset, .unset] [(.int d5)]))
                  refine own_goW (fun _ ww => XS.bipush X428.here hx rfl (hb hby at_384) ww) ?_
                  show own_GoesW _ _ _ _ _ _ _ (T428.setTop (mkF m 386 #[.val (.int x0), .val (.int x1), .val (.long x2), .second, .val (.int x4), .val (.int x5), .val (.ref at_), .val (.ref b414), .val (.int x8), .val (.int x9), .val (.ref r415), .unset, .unset] [(.int (99 : Int32)), (.int d5)]))
                  by_cases hc429 : d5 = (99 : Int32)
                  ·
                    refine own_goW (fun _ ww => XS.icmpNo X428.here hx rfl (hb hby at_386) rfl (teq hc429).2 ww) ?_
                    show own_GoesW _ _ _ _ _ _ _ (T428.setTop (mkF m 389 #[.val (.int x0), .val (.int x1), .val (.long x2), .second, .val (.int x4), .val (.int x5), .val (.ref at_), .val (.ref b414), .val (.int x8), .val (.int x9), .val (.ref r415), .unset, .unset] []))
                    refine own_goW (fun _ ww => XS.iconst X428.here hx rfl (hb hby at_389) ww) ?_
                    show own_GoesW _ _ _ _ _ _ _ (T428.setTop (mkF m 390 #[.val (.int x0), .val (.int x1), .val (.long x2), .second, .val (.int x4), .val (.int x5), .val (.ref at_), .val (.ref b414), .val (.int x8), .val (.int x9), .val (.ref r415), .unset, .unset] [(.int (1 : Int32))]))
                    refine own_goW (fun _ ww => XS.goto X428.here hx rfl (pc0 := 390) (pc' := 394) rfl (hb hby at_390) (by decide) (by decide) ww) ?_
                    show own_GoesW _ _ _ _ _ _ _ (T428.setTop (mkF m 394 #[.val (.int x0), .val (.int x1), .val (.long x2), .second, .val (.int x4), .val (.int x5), .val (.ref at_), .val (.ref b414), .val (.int x8), .val (.int x9), .val (.ref r415), .unset, .unset] [(.int (1 : Int32))]))
                    refine own_goW (fun _ ww => XS.istore X428.here hx rfl (hb hby at_394) rfl (l' := #[.val (.int x0), .val (.int x1), .val (.long x2), .second, .val (.int x4), .val (.int x5), .val (.ref at_), .val (.ref b414), .val (.int x8), .val (.int x9), .val (.ref r415), .val (.int (1 : Int32)), .unset]) rfl ww) ?_
                    show own_GoesW _ _ _ _ _ _ _ (T428.setTop (mkF m 396 #[.val (.int x0), .val (.int x1), .val (.long x2), .second, .val (.int x4), .val (.int x5), .val (.ref at_), .val (.ref b414), .val (.int x8), .val (.int x9), .val (.ref r415), .val (.int (1 : Int32)), .unset] []))
                    rcases hat with ⟨h5, h6⟩ | ⟨h5, h6⟩
                    ·
                      subst h6
                      show own_GoesW _ _ _ _ _ _ _ (T428.setTop (mkF m 396 #[.val (.int x0), .val (.int x1), .val (.long x2), .second, .val (.int x4), .val (.int x5), .val (.ref at_), .val (.ref b414), .val (.int x8), .val (.int x9), .val (.ref r415), .val (.int (1 : Int32)), .unset] []))
                      refine own_goW (fun _ ww => XS.iload X428.here hx rfl (hb hby at_396) rfl  ww) ?_
                      show own_GoesW _ _ _ _ _ _ _ (T428.setTop (mkF m 398 #[.val (.int x0), .val (.int x1), .val (.long x2), .second, .val (.int x4), .val (.int x5), .val (.ref at_), .val (.ref b414), .val (.int x8), .val (.int x9), .val (.ref r415), .val (.int (1 : Int32)), .unset] [(.int x5)]))
                      refine own_goW (fun _ ww => XS.iconst X428.here hx rfl (hb hby at_398) ww) ?_
                      show own_GoesW _ _ _ _ _ _ _ (T428.setTop (mkF m 399 #[.val (.int x0), .val (.int x1), .val (.long x2), .second, .val (.int x4), .val (.int x5), .val (.ref at_), .val (.ref b414), .val (.int x8), .val (.int x9), .val (.ref r415), .val (.int (1 : Int32)), .unset] [(.int (3 : Int32)), (.int x5)]))
                      refine own_goW (fun _ ww => XS.icmpNo X428.here hx rfl (hb hby at_399) rfl (teq h5).2 ww) ?_
                      show own_GoesW _ _ _ _ _ _ _ (T428.setTop (mkF m 402 #[.val (.int x0), .val (.int x1), .val (.long x2), .second, .val (.int x4), .val (.int x5), .val (.ref at_), .val (.ref b414), .val (.int x8), .val (.int x9), .val (.ref r415), .val (.int (1 : Int32)), .unset] []))
                      refine own_goW (fun _ ww => XS.iload X428.here hx rfl (hb hby at_402) rfl  ww) ?_
                      show own_GoesW _ _ _ _ _ _ _ (T428.setTop (mkF m 404 #[.val (.int x0), .val (.int x1), .val (.long x2), .second, .val (.int x4), .val (.int x5), .val (.ref at_), .val (.ref b414), .val (.int x8), .val (.int x9), .val (.ref r415), .val (.int (1 : Int32)), .unset] [(.int (1 : Int32))]))
                      refine own_goW (fun _ ww => XS.ifYes X428.here hx rfl (pc0 := 404) (pc' := 411) rfl (hb hby at_404) rfl (own_if .ne (feq (by decide : ¬ ((1 : Int32) = (0 : Int32)))).2) (by decide) (by decide) ww) ?_
                      show own_GoesW _ _ _ _ _ _ _ (T428.setTop (mkF m 411 #[.val (.int x0), .val (.int x1), .val (.long x2), .second, .val (.int x4), .val (.int x5), .val (.ref at_), .val (.ref b414), .val (.int x8), .val (.int x9), .val (.ref r415), .val (.int (1 : Int32)), .unset] []))
                      refine own_goW (fun _ ww => XS.iconst X428.here hx rfl (hb hby at_411) ww) ?_
                      show own_GoesW _ _ _ _ _ _ _ (T428.setTop (mkF m 412 #[.val (.int x0), .val (.int x1), .val (.long x2), .second, .val (.int x4), .val (.int x5), .val (.ref at_), .val (.ref b414), .val (.int x8), .val (.int x9), .val (.ref r415), .val (.int (1 : Int32)), .unset] [(.int (0 : Int32))]))
                      refine own_goW (fun _ ww => XS.istore X428.here hx rfl (hb hby at_412) rfl (l' := #[.val (.int x0), .val (.int x1), .val (.long x2), .second, .val (.int x4), .val (.int x5), .val (.ref at_), .val (.ref b414), .val (.int x8), .val (.int x9), .val (.ref r415), .val (.int (1 : Int32)), .val (.int (0 : Int32))]) rfl ww) ?_
                      show own_GoesW _ _ _ _ _ _ _ (T428.setTop (mkF m 414 #[.val (.int x0), .val (.int x1), .val (.long x2), .second, .val (.int x4), .val (.int x5), .val (.ref at_), .val (.ref b414), .val (.int x8), .val (.int x9), .val (.ref r415), .val (.int (1 : Int32)), .val (.int (0 : Int32))] []))
                      refine own_goW (fun _ ww => XS.aload X428.here hx rfl (hb hby at_414) rfl rfl ww) ?_
                      show own_GoesW _ _ _ _ _ _ _ (T428.setTop (mkF m 416 #[.val (.int x0), .val (.int x1), .val (.long x2), .second, .val (.int x4), .val (.int x5), .val (.ref at_), .val (.ref b414), .val (.int x8), .val (.int x9), .val (.ref r415), .val (.int (1 : Int32)), .val (.int (0 : Int32))] [(.ref at_)]))
                      refine own_goW (fun _ ww => XS.aload X428.here hx rfl (hb hby at_416) rfl rfl ww) ?_
                      show own_GoesW _ _ _ _ _ _ _ (T428.setTop (mkF m 418 #[.val (.int x0), .val (.int x1), .val (.long x2), .second, .val (.int x4), .val (.int x5), .val (.ref at_), .val (.ref b414), .val (.int x8), .val (.int x9), .val (.ref r415), .val (.int (1 : Int32)), .val (.int (0 : Int32))] [(.ref r415), (.ref at_)]))
                      obtain ⟨cq430, kq430, q430a, q430b, q430c⟩ := isOf hZ e428 (Eat.ext O415.2)
                      obtain ⟨_, _, ⟨T430, L430, k430, n430⟩, -, X430, hS430, hg430, ⟨Lc430, hQ430, l430, y430, z430⟩, st430⟩ := X428.virtualBackS hx (y := (⟨"com/example/izin/izin/Attribute", "defaultFlag", "(Ljava/lang/String;)Z"⟩ : MethodName)) (z := (⟨"com/example/izin/izin/Attribute", "defaultFlag", "(Ljava/lang/String;)Z"⟩ : MethodName)) hown (mvT hZ (hw _ (List.mem_of_getElem? (i := 45) rfl))) (mvT hZ (hw _ (List.mem_of_getElem? (i := 46) rfl))) (notFace_of_selects (args := #[]) (mvT hZ (hw _ (List.mem_of_getElem? (i := 48) rfl)))) (mvT hZ (hw _ (List.mem_of_getElem? (i := 48) rfl))) (mvT hZ (hw _ (List.mem_of_getElem? (i := 47) rfl))) (by decide) (own_backV (W := 0) (rm_dfi l Z a0 hw [] at_ (0 : Int32) zc r415 t415 kb415 ([d0, d1, d2, d3, d4, d5] : List Int32) Nx415 vx415 T415.heap n0 O415 S3 (fun _ => rfl) (by intro h; simp_all) hh88 hcw SC hzc E415q V415q C415q A415q hcs415 hbs415 hls415) hZ (fun _ q => own_IBw q I415q) (hw _ (List.mem_of_getElem? (i := 49) rfl)) (hw _ (List.mem_of_getElem? (i := 2) rfl)) (by decide) (by decide)) q430a q430c (g := (mkF m 418 #[.val (.int x0), .val (.int x1), .val (.long x2), .second, .val (.int x4), .val (.int x5), .val (.ref at_), .val (.ref b414), .val (.int x8), .val (.int x9), .val (.ref r415), .val (.int (1 : Int32)), .val (.int (0 : Int32))] [(.ref r415), (.ref at_)])) rfl (by rw [hml]; rfl) (Steps.refl _) (argsL := [(.ref r415)]) (rest := []) (lenOf pd_6 rfl) rfl (by show 2 * 0 + _ ≤ _; exact Nat.le_of_eq rfl) (hb hby at_418) (fun _ _ => ⟨rfl, e428, (by decide : 5 + 2 ≤ _), (by decide : 28 + 28 ≤ _)⟩)
                      dsimp only [Pt.U, Pt.locs, Pt.cells, Pt.slots] at X430 l430 y430 z430 st430 hQ430 hS430 hg430
                      subst l430 y430 z430
                      obtain ⟨X430, hS, hZ, hown⟩ := rebS hS (show _ ≤ T428.heap.size from (by rw [e428]; exact hk)) X430 hS430 hg430 hZ hown
                      obtain ⟨rfl, N430q, K430q⟩ := hQ430
                      have N430 := Fr.app N428 N430q
                      have hk : T430.heap.size ≤ T430.heap.size := Nat.le_refl _
                      have f431 : Arv Z T430.heap b414 k414 .char (8 : Int32) [(.int c0), (.int c1), (.int c2), (.int c3), (.int c4), (.int c5), (.int c6), (.int c7)] (.int (0 : Int32)) := (f416.keep K430q nin0)
                      have f432 : Exa Z T430.heap r415 "java/lang/String" := (E415q.keep K430q)
                      have f433 : Fld Z T430.heap r415 "java/lang/String" "coder" "B" (.int (0 : Int32)) := (C415q.keep K430q nin0)
                      have f434 : Fld Z T430.heap r415 "java/lang/String" "value" "[B" (.ref t415) := (V415q.keep K430q nin0)
                      have f435 : Arv Z T430.heap t415 kb415 .byte Nx415 vx415 (.int (0 : Int32)) := (A415q.keep K430q nin0)
                      have O430 := O415.keep K430q all0
                      refine own_goW (fun _ ww => Steps.trans st430 ww) ?_
                      show own_GoesW _ _ _ _ _ _ _ (T430.setTop (mkF m 421 #[.val (.int x0), .val (.int x1), .val (.long x2), .second, .val (.int x4), .val (.int x5), .val (.ref at_), .val (.ref b414), .val (.int x8), .val (.int x9), .val (.ref r415), .val (.int (1 : Int32)), .val (.int (0 : Int32))] [(.int (0 : Int32))]))
                      refine own_goW (fun _ ww => XS.iload X430.here hx rfl (hb hby at_421) rfl  ww) ?_
                      show own_GoesW _ _ _ _ _ _ _ (T430.setTop (mkF m 423 #[.val (.int x0), .val (.int x1), .val (.long x2), .second, .val (.int x4), .val (.int x5), .val (.ref at_), .val (.ref b414), .val (.int x8), .val (.int x9), .val (.ref r415), .val (.int (1 : Int32)), .val (.int (0 : Int32))] [(.int (0 : Int32)), (.int (0 : Int32))]))
                      refine own_goW (fun _ ww => XS.icmpNo X430.here hx rfl (hb hby at_423) rfl (teq (by decide : (0 : Int32) = (0 : Int32))).2 ww) ?_
                      show own_GoesW _ _ _ _ _ _ _ (T430.setTop (mkF m 426 #[.val (.int x0), .val (.int x1), .val (.long x2), .second, .val (.int x4), .val (.int x5), .val (.ref at_), .val (.ref b414), .val (.int x8), .val (.int x9), .val (.ref r415), .val (.int (1 : Int32)), .val (.int (0 : Int32))] []))
                      refine own_goW (fun _ ww => XS.iconst X430.here hx rfl (hb hby at_426) ww) ?_
                      show own_GoesW _ _ _ _ _ _ _ (T430.setTop (mkF m 427 #[.val (.int x0), .val (.int x1), .val (.long x2), .second, .val (.int x4), .val (.int x5), .val (.ref at_), .val (.ref b414), .val (.int x8), .val (.int x9), .val (.ref r415), .val (.int (1 : Int32)), .val (.int (0 : Int32))] [(.int (1 : Int32))]))
                      refine own_goW (fun _ ww => XS.goto X430.here hx rfl (pc0 := 427) (pc' := 431) rfl (hb hby at_427) (by decide) (by decide) ww) ?_
                      show own_GoesW _ _ _ _ _ _ _ (T430.setTop (mkF m 431 #[.val (.int x0), .val (.int x1), .val (.long x2), .second, .val (.int x4), .val (.int x5), .val (.ref at_), .val (.ref b414), .val (.int x8), .val (.int x9), .val (.ref r415), .val (.int (1 : Int32)), .val (.int (0 : Int32))] [(.int (1 : Int32))]))
                      exact own_outW X430 hS hk hlk (v := some (.int (1 : Int32))) (fun h => by rw [hret] at h; cases h) (fun fs hr => retOut X430 hx (t := .boolean) hret (by decide) (Or.inl ⟨rfl, by simp, _, rfl⟩) (hb hby at_431) hr) rfl ⟨rfl, N430⟩ (by decide) (by decide)
                    ·
                      show own_GoesW _ _ _ _ _ _ _ (T428.setTop (mkF m 396 #[.val (.int x0), .val (.int x1), .val (.long x2), .second, .val (.int x4), .val (.int x5), .val (.ref at_), .val (.ref b414), .val (.int x8), .val (.int x9), .val (.ref r415), .val (.int (1 : Int32)), .unset] []))
                      refine own_goW (fun _ ww => XS.iload X428.here hx rfl (hb hby at_396) rfl  ww) ?_
                      show own_GoesW _ _ _ _ _ _ _ (T428.setTop (mkF m 398 #[.val (.int x0), .val (.int x1), .val (.long x2), .second, .val (.int x4), .val (.int x5), .val (.ref at_), .val (.ref b414), .val (.int x8), .val (.int x9), .val (.ref r415), .val (.int (1 : Int32)), .unset] [(.int x5)]))
                      refine own_goW (fun _ ww => XS.iconst X428.here hx rfl (hb hby at_398) ww) ?_
                      show own_GoesW _ _ _ _ _ _ _ (T428.setTop (mkF m 399 #[.val (.int x0), .val (.int x1), .val (.long x2), .second, .val (.int x4), .val (.int x5), .val (.ref at_), .val (.ref b414), .val (.int x8), .val (.int x9), .val (.ref r415), .val (.int (1 : Int32)), .unset] [(.int (3 : Int32)), (.int x5)]))
                      refine own_goW (fun _ ww => XS.icmpYes X428.here hx rfl (pc0 := 399) (pc' := 411) rfl (hb hby at_399) rfl (feq h5).2 (by decide) (by decide) ww) ?_
                      show own_GoesW _ _ _ _ _ _ _ (T428.setTop (mkF m 411 #[.val (.int x0), .val (.int x1), .val (.long x2), .second, .val (.int x4), .val (.int x5), .val (.ref at_), .val (.ref b414), .val (.int x8), .val (.int x9), .val (.ref r415), .val (.int (1 : Int32)), .unset] []))
                      refine own_goW (fun _ ww => XS.iconst X428.here hx rfl (hb hby at_411) ww) ?_
                      show own_GoesW _ _ _ _ _ _ _ (T428.setTop (mkF m 412 #[.val (.int x0), .val (.int x1), .val (.long x2), .second, .val (.int x4), .val (.int x5), .val (.ref at_), .val (.ref b414), .val (.int x8), .val (.int x9), .val (.ref r415), .val (.int (1 : Int32)), .unset] [(.int (0 : Int32))]))
                      refine own_goW (fun _ ww => XS.istore X428.here hx rfl (hb hby at_412) rfl (l' := #[.val (.int x0), .val (.int x1), .val (.long x2), .second, .val (.int x4), .val (.int x5), .val (.ref at_), .val (.ref b414), .val (.int x8), .val (.int x9), .val (.ref r415), .val (.int (1 : Int32)), .val (.int (0 : Int32))]) rfl ww) ?_
                      show own_GoesW _ _ _ _ _ _ _ (T428.setTop (mkF m 414 #[.val (.int x0), .val (.int x1), .val (.long x2), .second, .val (.int x4), .val (.int x5), .val (.ref at_), .val (.ref b414), .val (.int x8), .val (.int x9), .val (.ref r415), .val (.int (1 : Int32)), .val (.int (0 : Int32))] []))
                      refine own_goW (fun _ ww => XS.aload X428.here hx rfl (hb hby at_414) rfl rfl ww) ?_
                      show own_GoesW _ _ _ _ _ _ _ (T428.setTop (mkF m 416 #[.val (.int x0), .val (.int x1), .val (.long x2), .second, .val (.int x4), .val (.int x5), .val (.ref at_), .val (.ref b414), .val (.int x8), .val (.int x9), .val (.ref r415), .val (.int (1 : Int32)), .val (.int (0 : Int32))] [(.ref at_)]))
                      refine own_goW (fun _ ww => XS.aload X428.here hx rfl (hb hby at_416) rfl rfl ww) ?_
                      show own_GoesW _ _ _ _ _ _ _ (T428.setTop (mkF m 418 #[.val (.int x0), .val (.int x1), .val (.long x2), .second, .val (.int x4), .val (.int x5), .val (.ref at_), .val (.ref b414), .val (.int x8), .val (.int x9), .val (.ref r415), .val (.int (1 : Int32)), .val (.int (0 : Int32))] [(.ref r415), (.ref at_)]))
                      obtain ⟨cq436, kq436, q436a, q436b, q436c⟩ := isOf hZ e428 (Eat.ext O415.2)
                      obtain ⟨_, _, ⟨T436, L436, k436, n436⟩, -, X436, ⟨Lc436, hQ436, l436, y436, z436⟩, st436⟩ := X428.virtualBack hx (y := (⟨"com/example/izin/izin/Attribute", "defaultFlag", "(Ljava/lang/String;)Z"⟩ : MethodName)) (z := (⟨"com/example/izin/izin/Attribute", "defaultFlag", "(Ljava/lang/String;)Z"⟩ : MethodName)) hown (mvT hZ (hw _ (List.mem_of_getElem? (i := 45) rfl))) (mvT hZ (hw _ (List.mem_of_getElem? (i := 46) rfl))) (notFace_of_selects (args := #[]) (mvT hZ (hw _ (List.mem_of_getElem? (i := 48) rfl)))) (mvT hZ (hw _ (List.mem_of_getElem? (i := 48) rfl))) (mvT hZ (hw _ (List.mem_of_getElem? (i := 47) rfl))) (by decide) (backOf (W := 0) (rm_dfn l Z a0 hw [] at_ k3 r415 T415.heap n0 O415 S3 h6) hZ (hw _ (List.mem_of_getElem? (i := 49) rfl)) (hw _ (List.mem_of_getElem? (i := 2) rfl)) (by decide) (by decide)) q436a q436c (g := (mkF m 418 #[.val (.int x0), .val (.int x1), .val (.long x2), .second, .val (.int x4), .val (.int x5), .val (.ref at_), .val (.ref b414), .val (.int x8), .val (.int x9), .val (.ref r415), .val (.int (1 : Int32)), .val (.int (0 : Int32))] [(.ref r415), (.ref at_)])) rfl (by rw [hml]; rfl) (Steps.refl _) (argsL := [(.ref r415)]) (rest := []) (lenOf pd_6 rfl) rfl (by show 2 * 0 + _ ≤ _; exact Nat.le_of_eq rfl) (hb hby at_418) (fun _ _ => ⟨rfl, e428, (by decide : 5 + 0 ≤ _), (by decide : 28 + 0 ≤ _)⟩)
                      dsimp only [Pt.U, Pt.locs, Pt.cells, Pt.slots] at X436 l436 y436 z436 st436 hQ436
                      subst l436 y436 z436
                      obtain ⟨rfl, N436q, e436⟩ := hQ436
                      have N436 := Fr.app N428 N436q
                      refine own_goW (fun _ ww => Steps.trans st436 ww) ?_
                      show own_GoesW _ _ _ _ _ _ _ (T436.setTop (mkF m 421 #[.val (.int x0), .val (.int x1), .val (.long x2), .second, .val (.int x4), .val (.int x5), .val (.ref at_), .val (.ref b414), .val (.int x8), .val (.int x9), .val (.ref r415), .val (.int (1 : Int32)), .val (.int (0 : Int32))] [(.int (0 : Int32))]))
                      refine own_goW (fun _ ww => XS.iload X436.here hx rfl (hb hby at_421) rfl  ww) ?_
                      show own_GoesW _ _ _ _ _ _ _ (T436.setTop (mkF m 423 #[.val (.int x0), .val (.int x1), .val (.long x2), .second, .val (.int x4), .val (.int x5), .val (.ref at_), .val (.ref b414), .val (.int x8), .val (.int x9), .val (.ref r415), .val (.int (1 : Int32)), .val (.int (0 : Int32))] [(.int (0 : Int32)), (.int (0 : Int32))]))
                      refine own_goW (fun _ ww => XS.icmpNo X436.here hx rfl (hb hby at_423) rfl (teq (by decide : (0 : Int32) = (0 : Int32))).2 ww) ?_
                      show own_GoesW _ _ _ _ _ _ _ (T436.setTop (mkF m 426 #[.val (.int x0), .val (.int x1), .val (.long x2), .second, .val (.int x4), .val (.int x5), .val (.ref at_), .val (.ref b414), .val (.int x8), .val (.int x9), .val (.ref r415), .val (.int (1 : Int32)), .val (.int (0 : Int32))] []))
                      refine own_goW (fun _ ww => XS.iconst X436.here hx rfl (hb hby at_426) ww) ?_
                      show own_GoesW _ _ _ _ _ _ _ (T436.setTop (mkF m 427 #[.val (.int x0), .val (.int x1), .val (.long x2), .second, .val (.int x4), .val (.int x5), .val (.ref at_), .val (.ref b414), .val (.int x8), .val (.int x9), .val (.ref r415), .val (.int (1 : Int32)), .val (.int (0 : Int32))] [(.int (1 : Int32))]))
                      refine own_goW (fun _ ww => XS.goto X436.here hx rfl (pc0 := 427) (pc' := 431) rfl (hb hby at_427) (by decide) (by decide) ww) ?_
                      show own_GoesW _ _ _ _ _ _ _ (T436.setTop (mkF m 431 #[.val (.int x0), .val (.int x1), .val (.long x2), .second, .val (.int x4), .val (.int x5), .val (.ref at_), .val (.ref b414), .val (.int x8), .val (.int x9), .val (.ref r415), .val (.int (1 : Int32)), .val (.int (0 : Int32))] [(.int (1 : Int32))]))
                      exact own_outW X436 hS hk hlk (v := some (.int (1 : Int32))) (fun h => by rw [hret] at h; cases h) (fun fs hr => retOut X436 hx (t := .boolean) hret (by decide) (Or.inl ⟨rfl, by simp, _, rfl⟩) (hb hby at_431) hr) e436 ⟨rfl, N436⟩ (by decide) (by decide)
                  ·
                    refine own_goW (fun _ ww => XS.icmpYes X428.here hx rfl (pc0 := 386) (pc' := 393) rfl (hb hby at_386) rfl (feq hc429).2 (by decide) (by decide) ww) ?_
                    show own_GoesW _ _ _ _ _ _ _ (T428.setTop (mkF m 393 #[.val (.int x0), .val (.int x1), .val (.long x2), .second, .val (.int x4), .val (.int x5), .val (.ref at_), .val (.ref b414), .val (.int x8), .val (.int x9), .val (.ref r415), .unset, .unset] []))
                    refine own_goW (fun _ ww => XS.iconst X428.here hx rfl (hb hby at_393) ww) ?_
                    show own_GoesW _ _ _ _ _ _ _ (T428.setTop (mkF m 394 #[.val (.int x0), .val (.int x1), .val (.long x2), .second, .val (.int x4), .val (.int x5), .val (.ref at_), .val (.ref b414), .val (.int x8), .val (.int x9), .val (.ref r415), .unset, .unset] [(.int (0 : Int32))]))
                    refine own_goW (fun _ ww => XS.istore X428.here hx rfl (hb hby at_394) rfl (l' := #[.val (.int x0), .val (.int x1), .val (.long x2), .second, .val (.int x4), .val (.int x5), .val (.ref at_), .val (.ref b414), .val (.int x8), .val (.int x9), .val (.ref r415), .val (.int (0 : Int32)), .unset]) rfl ww) ?_
                    show own_GoesW _ _ _ _ _ _ _ (T428.setTop (mkF m 396 #[.val (.int x0), .val (.int x1), .val (.long x2), .second, .val (.int x4), .val (.int x5), .val (.ref at_), .val (.ref b414), .val (.int x8), .val (.int x9), .val (.ref r415), .val (.int (0 : Int32)), .unset] []))
                    rcases hat with ⟨h5, h6⟩ | ⟨h5, h6⟩
                    ·
                      subst h6
                      show own_GoesW _ _ _ _ _ _ _ (T428.setTop (mkF m 396 #[.val (.int x0), .val (.int x1), .val (.long x2), .second, .val (.int x4), .val (.int x5), .val (.ref at_), .val (.ref b414), .val (.int x8), .val (.int x9), .val (.ref r415), .val (.int (0 : Int32)), .unset] []))
                      refine own_goW (fun _ ww => XS.iload X428.here hx rfl (hb hby at_396) rfl  ww) ?_
                      show own_GoesW _ _ _ _ _ _ _ (T428.setTop (mkF m 398 #[.val (.int x0), .val (.int x1), .val (.long x2), .second, .val (.int x4), .val (.int x5), .val (.ref at_), .val (.ref b414), .val (.int x8), .val (.int x9), .val (.ref r415), .val (.int (0 : Int32)), .unset] [(.int x5)]))
                      refine own_goW (fun _ ww => XS.iconst X428.here hx rfl (hb hby at_398) ww) ?_
                      show own_GoesW _ _ _ _ _ _ _ (T428.setTop (mkF m 399 #[.val (.int x0), .val (.int x1), .val (.long x2), .second, .val (.int x4), .val (.int x5), .val (.ref at_), .val (.ref b414), .val (.int x8), .val (.int x9), .val (.ref r415), .val (.int (0 : Int32)), .unset] [(.int (3 : Int32)), (.int x5)]))
                      refine own_goW (fun _ ww => XS.icmpNo X428.here hx rfl (hb hby at_399) rfl (teq h5).2 ww) ?_
                      show own_GoesW _ _ _ _ _ _ _ (T428.setTop (mkF m 402 #[.val (.int x0), .val (.int x1), .val (.long x2), .second, .val (.int x4), .val (.int x5), .val (.ref at_), .val (.ref b414), .val (.int x8), .val (.int x9), .val (.ref r415), .val (.int (0 : Int32)), .unset] []))
                      refine own_goW (fun _ ww => XS.iload X428.here hx rfl (hb hby at_402) rfl  ww) ?_
                      show own_GoesW _ _ _ _ _ _ _ (T428.setTop (mkF m 404 #[.val (.int x0), .val (.int x1), .val (.long x2), .second, .val (.int x4), .val (.int x5), .val (.ref at_), .val (.ref b414), .val (.int x8), .val (.int x9), .val (.ref r415), .val (.int (0 : Int32)), .unset] [(.int (0 : Int32))]))
                      refine own_goW (fun _ ww => XS.ifNo X428.here hx rfl (hb hby at_404) rfl (own_if .ne (teq (by decide : (0 : Int32) = (0 : Int32))).2) ww) ?_
                      show own_GoesW _ _ _ _ _ _ _ (T428.setTop (mkF m 407 #[.val (.int x0), .val (.int x1), .val (.long x2), .second, .val (.int x4), .val (.int x5), .val (.ref at_), .val (.ref b414), .val (.int x8), .val (.int x9), .val (.ref r415), .val (.int (0 : Int32)), .unset] []))
                      refine own_goW (fun _ ww => XS.iconst X428.here hx rfl (hb hby at_407) ww) ?_
                      show own_GoesW _ _ _ _ _ _ _ (T428.setTop (mkF m 408 #[.val (.int x0), .val (.int x1), .val (.long x2), .second, .val (.int x4), .val (.int x5), .val (.ref at_), .val (.ref b414), .val (.int x8), .val (.int x9), .val (.ref r415), .val (.int (0 : Int32)), .unset] [(.int (1 : Int32))]))
                      refine own_goW (fun _ ww => XS.goto X428.here hx rfl (pc0 := 408) (pc' := 412) rfl (hb hby at_408) (by decide) (by decide) ww) ?_
                      show own_GoesW _ _ _ _ _ _ _ (T428.setTop (mkF m 412 #[.val (.int x0), .val (.int x1), .val (.long x2), .second, .val (.int x4), .val (.int x5), .val (.ref at_), .val (.ref b414), .val (.int x8), .val (.int x9), .val (.ref r415), .val (.int (0 : Int32)), .unset] [(.int (1 : Int32))]))
                      refine own_goW (fun _ ww => XS.istore X428.here hx rfl (hb hby at_412) rfl (l' := #[.val (.int x0), .val (.int x1), .val (.long x2), .second, .val (.int x4), .val (.int x5), .val (.ref at_), .val (.ref b414), .val (.int x8), .val (.int x9), .val (.ref r415), .val (.int (0 : Int32)), .val (.int (1 : Int32))]) rfl ww) ?_
                      show own_GoesW _ _ _ _ _ _ _ (T428.setTop (mkF m 414 #[.val (.int x0), .val (.int x1), .val (.long x2), .second, .val (.int x4), .val (.int x5), .val (.ref at_), .val (.ref b414), .val (.int x8), .val (.int x9), .val (.ref r415), .val (.int (0 : Int32)), .val (.int (1 : Int32))] []))
                      refine own_goW (fun _ ww => XS.aload X428.here hx rfl (hb hby at_414) rfl rfl ww) ?_
                      show own_GoesW _ _ _ _ _ _ _ (T428.setTop (mkF m 416 #[.val (.int x0), .val (.int x1), .val (.long x2), .second, .val (.int x4), .val (.int x5), .val (.ref at_), .val (.ref b414), .val (.int x8), .val (.int x9), .val (.ref r415), .val (.int (0 : Int32)), .val (.int (1 : Int32))] [(.ref at_)]))
                      refine own_goW (fun _ ww => XS.aload X428.here hx rfl (hb hby at_416) rfl rfl ww) ?_
                      show own_GoesW _ _ _ _ _ _ _ (T428.setTop (mkF m 418 #[.val (.int x0), .val (.int x1), .val (.long x2), .second, .val (.int x4), .val (.int x5), .val (.ref at_), .val (.ref b414), .val (.int x8), .val (.int x9), .val (.ref r415), .val (.int (0 : Int32)), .val (.int (1 : Int32))] [(.ref r415), (.ref at_)]))
                      obtain ⟨cq437, kq437, q437a, q437b, q437c⟩ := isOf hZ e428 (Eat.ext O415.2)
                      obtain ⟨_, _, ⟨T437, L437, k437, n437⟩, -, X437, hS437, hg437, ⟨Lc437, hQ437, l437, y437, z437⟩, st437⟩ := X428.virtualBackS hx (y := (⟨"com/example/izin/izin/Attribute", "defaultFlag", "(Ljava/lang/String;)Z"⟩ : MethodName)) (z := (⟨"com/example/izin/izin/Attribute", "defaultFlag", "(Ljava/lang/String;)Z"⟩ : MethodName)) hown (mvT hZ (hw _ (List.mem_of_getElem? (i := 45) rfl))) (mvT hZ (hw _ (List.mem_of_getElem? (i := 46) rfl))) (notFace_of_selects (args := #[]) (mvT hZ (hw _ (List.mem_of_getElem? (i := 48) rfl)))) (mvT hZ (hw _ (List.mem_of_getElem? (i := 48) rfl))) (mvT hZ (hw _ (List.mem_of_getElem? (i := 47) rfl))) (by decide) (own_backV (W := 0) (rm_dfi l Z a0 hw [] at_ (1 : Int32) zc r415 t415 kb415 ([d0, d1, d2, d3, d4, d5] : List Int32) Nx415 vx415 T415.heap n0 O415 S3 (by intro h; simp_all) (fun _ => rfl) hh88 hcw SC hzc E415q V415q C415q A415q hcs415 hbs415 hls415) hZ (fun _ q => own_IBw q I415q) (hw _ (List.mem_of_getElem? (i := 49) rfl)) (hw _ (List.mem_of_getElem? (i := 2) rfl)) (by decide) (by decide)) q437a q437c (g := (mkF m 418 #[.val (.int x0), .val (.int x1), .val (.long x2), .second, .val (.int x4), .val (.int x5), .val (.ref at_), .val (.ref b414), .val (.int x8), .val (.int x9), .val (.ref r415), .val (.int (0 : Int32)), .val (.int (1 : Int32))] [(.ref r415), (.ref at_)])) rfl (by rw [hml]; rfl) (Steps.refl _) (argsL := [(.ref r415)]) (rest := []) (lenOf pd_6 rfl) rfl (by show 2 * 0 + _ ≤ _; exact Nat.le_of_eq rfl) (hb hby at_418) (fun _ _ => ⟨rfl, e428, (by decide : 5 + 2 ≤ _), (by decide : 28 + 28 ≤ _)⟩)
                      dsimp only [Pt.U, Pt.locs, Pt.cells, Pt.slots] at X437 l437 y437 z437 st437 hQ437 hS437 hg437
                      subst l437 y437 z437
                      obtain ⟨X437, hS, hZ, hown⟩ := rebS hS (show _ ≤ T428.heap.size from (by rw [e428]; exact hk)) X437 hS437 hg437 hZ hown
                      obtain ⟨rfl, N437q, K437q⟩ := hQ437
                      have N437 := Fr.app N428 N437q
                      have hk : T437.heap.size ≤ T437.heap.size := Nat.le_refl _
                      have f438 : Arv Z T437.heap b414 k414 .char (8 : Int32) [(.int c0), (.int c1), (.int c2), (.int c3), (.int c4), (.int c5), (.int c6), (.int c7)] (.int (0 : Int32)) := (f416.keep K437q nin0)
                      have f439 : Exa Z T437.heap r415 "java/lang/String" := (E415q.keep K437q)
                      have f440 : Fld Z T437.heap r415 "java/lang/String" "coder" "B" (.int (0 : Int32)) := (C415q.keep K437q nin0)
                      have f441 : Fld Z T437.heap r415 "java/lang/String" "value" "[B" (.ref t415) := (V415q.keep K437q nin0)
                      have f442 : Arv Z T437.heap t415 kb415 .byte Nx415 vx415 (.int (0 : Int32)) := (A415q.keep K437q nin0)
                      have O437 := O415.keep K437q all0
                      refine own_goW (fun _ ww => Steps.trans st437 ww) ?_
                      show own_GoesW _ _ _ _ _ _ _ (T437.setTop (mkF m 421 #[.val (.int x0), .val (.int x1), .val (.long x2), .second, .val (.int x4), .val (.int x5), .val (.ref at_), .val (.ref b414), .val (.int x8), .val (.int x9), .val (.ref r415), .val (.int (0 : Int32)), .val (.int (1 : Int32))] [(.int (1 : Int32))]))
                      refine own_goW (fun _ ww => XS.iload X437.here hx rfl (hb hby at_421) rfl  ww) ?_
                      show own_GoesW _ _ _ _ _ _ _ (T437.setTop (mkF m 423 #[.val (.int x0), .val (.int x1), .val (.long x2), .second, .val (.int x4), .val (.int x5), .val (.ref at_), .val (.ref b414), .val (.int x8), .val (.int x9), .val (.ref r415), .val (.int (0 : Int32)), .val (.int (1 : Int32))] [(.int (1 : Int32)), (.int (1 : Int32))]))
                      refine own_goW (fun _ ww => XS.icmpNo X437.here hx rfl (hb hby at_423) rfl (teq (by decide : (1 : Int32) = (1 : Int32))).2 ww) ?_
                      show own_GoesW _ _ _ _ _ _ _ (T437.setTop (mkF m 426 #[.val (.int x0), .val (.int x1), .val (.long x2), .second, .val (.int x4), .val (.int x5), .val (.ref at_), .val (.ref b414), .val (.int x8), .val (.int x9), .val (.ref r415), .val (.int (0 : Int32)), .val (.int (1 : Int32))] []))
                      refine own_goW (fun _ ww => XS.iconst X437.here hx rfl (hb hby at_426) ww) ?_
                      show own_GoesW _ _ _ _ _ _ _ (T437.setTop (mkF m 427 #[.val (.int x0), .val (.int x1), .val (.long x2), .second, .val (.int x4), .val (.int x5), .val (.ref at_), .val (.ref b414), .val (.int x8), .val (.int x9), .val (.ref r415), .val (.int (0 : Int32)), .val (.int (1 : Int32))] [(.int (1 : Int32))]))
                      refine own_goW (fun _ ww => XS.goto X437.here hx rfl (pc0 := 427) (pc' := 431) rfl (hb hby at_427) (by decide) (by decide) ww) ?_
                      show own_GoesW _ _ _ _ _ _ _ (T437.setTop (mkF m 431 #[.val (.int x0), .val (.int x1), .val (.long x2), .second, .val (.int x4), .val (.int x5), .val (.ref at_), .val (.ref b414), .val (.int x8), .val (.int x9), .val (.ref r415), .val (.int (0 : Int32)), .val (.int (1 : Int32))] [(.int (1 : Int32))]))
                      exact own_outW X437 hS hk hlk (v := some (.int (1 : Int32))) (fun h => by rw [hret] at h; cases h) (fun fs hr => retOut X437 hx (t := .boolean) hret (by decide) (Or.inl ⟨rfl, by simp, _, rfl⟩) (hb hby at_431) hr) rfl ⟨rfl, N437⟩ (by decide) (by decide)
                    ·
                      show own_GoesW _ _ _ _ _ _ _ (T428.setTop (mkF m 396 #[.val (.int x0), .val (.int x1), .val (.long x2), .second, .val (.int x4), .val (.int x5), .val (.ref at_), .val (.ref b414), .val (.int x8), .val (.int x9), .val (.ref r415), .val (.int (0 : Int32)), .unset] []))
                      refine own_goW (fun _ ww => XS.iload X428.here hx rfl (hb hby at_396) rfl  ww) ?_
                      show own_GoesW _ _ _ _ _ _ _ (T428.setTop (mkF m 398 #[.val (.int x0), .val (.int x1), .val (.long x2), .second, .val (.int x4), .val (.int x5), .val (.ref at_), .val (.ref b414), .val (.int x8), .val (.int x9), .val (.ref r415), .val (.int (0 : Int32)), .unset] [(.int x5)]))
                      refine own_goW (fun _ ww => XS.iconst X428.here hx rfl (hb hby at_398) ww) ?_
                      show own_GoesW _ _ _ _ _ _ _ (T428.setTop (mkF m 399 #[.val (.int x0), .val (.int x1), .val (.long x2), .second, .val (.int x4), .val (.int x5), .val (.ref at_), .val (.ref b414), .val (.int x8), .val (.int x9), .val (.ref r415), .val (.int (0 : Int32)), .unset] [(.int (3 : Int32)), (.int x5)]))
                      refine own_goW (fun _ ww => XS.icmpYes X428.here hx rfl (pc0 := 399) (pc' := 411) rfl (hb hby at_399) rfl (feq h5).2 (by decide) (by decide) ww) ?_
                      show own_GoesW _ _ _ _ _ _ _ (T428.setTop (mkF m 411 #[.val (.int x0), .val (.int x1), .val (.long x2), .second, .val (.int x4), .val (.int x5), .val (.ref at_), .val (.ref b414), .val (.int x8), .val (.int x9), .val (.ref r415), .val (.int (0 : Int32)), .unset] []))
                      refine own_goW (fun _ ww => XS.iconst X428.here hx rfl (hb hby at_411) ww) ?_
                      show own_GoesW _ _ _ _ _ _ _ (T428.setTop (mkF m 412 #[.val (.int x0), .val (.int x1), .val (.long x2), .second, .val (.int x4), .val (.int x5), .val (.ref at_), .val (.ref b414), .val (.int x8), .val (.int x9), .val (.ref r415), .val (.int (0 : Int32)), .unset] [(.int (0 : Int32))]))
                      refine own_goW (fun _ ww => XS.istore X428.here hx rfl (hb hby at_412) rfl (l' := #[.val (.int x0), .val (.int x1), .val (.long x2), .second, .val (.int x4), .val (.int x5), .val (.ref at_), .val (.ref b414), .val (.int x8), .val (.int x9), .val (.ref r415), .val (.int (0 : Int32)), .val (.int (0 : Int32))]) rfl ww) ?_
                      show own_GoesW _ _ _ _ _ _ _ (T428.setTop (mkF m 414 #[.val (.int x0), .val (.int x1), .val (.long x2), .second, .val (.int x4), .val (.int x5), .val (.ref at_), .val (.ref b414), .val (.int x8), .val (.int x9), .val (.ref r415), .val (.int (0 : Int32)), .val (.int (0 : Int32))] []))
                      refine own_goW (fun _ ww => XS.aload X428.here hx rfl (hb hby at_414) rfl rfl ww) ?_
                      show own_GoesW _ _ _ _ _ _ _ (T428.setTop (mkF m 416 #[.val (.int x0), .val (.int x1), .val (.long x2), .second, .val (.int x4), .val (.int x5), .val (.ref at_), .val (.ref b414), .val (.int x8), .val (.int x9), .val (.ref r415), .val (.int (0 : Int32)), .val (.int (0 : Int32))] [(.ref at_)]))
                      refine own_goW (fun _ ww => XS.aload X428.here hx rfl (hb hby at_416) rfl rfl ww) ?_
                      show own_GoesW _ _ _ _ _ _ _ (T428.setTop (mkF m 418 #[.val (.int x0), .val (.int x1), .val (.long x2), .second, .val (.int x4), .val (.int x5), .val (.ref at_), .val (.ref b414), .val (.int x8), .val (.int x9), .val (.ref r415), .val (.int (0 : Int32)), .val (.int (0 : Int32))] [(.ref r415), (.ref at_)]))
                      obtain ⟨cq443, kq443, q443a, q443b, q443c⟩ := isOf hZ e428 (Eat.ext O415.2)
                      obtain ⟨_, _, ⟨T443, L443, k443, n443⟩, -, X443, ⟨Lc443, hQ443, l443, y443, z443⟩, st443⟩ := X428.virtualBack hx (y := (⟨"com/example/izin/izin/Attribute", "defaultFlag", "(Ljava/lang/String;)Z"⟩ : MethodName)) (z := (⟨"com/example/izin/izin/Attribute", "defaultFlag", "(Ljava/lang/String;)Z"⟩ : MethodName)) hown (mvT hZ (hw _ (List.mem_of_getElem? (i := 45) rfl))) (mvT hZ (hw _ (List.mem_of_getElem? (i := 46) rfl))) (notFace_of_selects (args := #[]) (mvT hZ (hw _ (List.mem_of_getElem? (i := 48) rfl)))) (mvT hZ (hw _ (List.mem_of_getElem? (i := 48) rfl))) (mvT hZ (hw _ (List.mem_of_getElem? (i := 47) rfl))) (by decide) (backOf (W := 0) (rm_dfn l Z a0 hw [] at_ k3 r415 T415.heap n0 O415 S3 h6) hZ (hw _ (List.mem_of_getElem? (i := 49) rfl)) (hw _ (List.mem_of_getElem? (i := 2) rfl)) (by decide) (by decide)) q443a q443c (g := (mkF m 418 #[.val (.int x0), .val (.int x1), .val (.long x2), .second, .val (.int x4), .val (.int x5), .val (.ref at_), .val (.ref b414), .val (.int x8), .val (.int x9), .val (.ref r415), .val (.int (0 : Int32)), .val (.int (0 : Int32))] [(.ref r415), (.ref at_)])) rfl (by rw [hml]; rfl) (Steps.refl _) (argsL := [(.ref r415)]) (rest := []) (lenOf pd_6 rfl) rfl (by show 2 * 0 + _ ≤ _; exact Nat.le_of_eq rfl) (hb hby at_418) (fun _ _ => ⟨rfl, e428, (by decide : 5 + 0 ≤ _), (by decide : 28 + 0 ≤ _)⟩)
                      dsimp only [Pt.U, Pt.locs, Pt.cells, Pt.slots] at X443 l443 y443 z443 st443 hQ443
                      subst l443 y443 z443
                      obtain ⟨rfl, N443q, e443⟩ := hQ443
                      have N443 := Fr.app N428 N443q
                      refine own_goW (fun _ ww => Steps.trans st443 ww) ?_
                      show own_GoesW _ _ _ _ _ _ _ (T443.setTop (mkF m 421 #[.val (.int x0), .val (.int x1), .val (.long x2), .second, .val (.int x4), .val (.int x5), .val (.ref at_), .val (.ref b414), .val (.int x8), .val (.int x9), .val (.ref r415), .val (.int (0 : Int32)), .val (.int (0 : Int32))] [(.int (0 : Int32))]))
                      refine own_goW (fun _ ww => XS.iload X443.here hx rfl (hb hby at_421) rfl  ww) ?_
                      show own_GoesW _ _ _ _ _ _ _ (T443.setTop (mkF m 423 #[.val (.int x0), .val (.int x1), .val (.long x2), .second, .val (.int x4), .val (.int x5), .val (.ref at_), .val (.ref b414), .val (.int x8), .val (.int x9), .val (.ref r415), .val (.int (0 : Int32)), .val (.int (0 : Int32))] [(.int (0 : Int32)), (.int (0 : Int32))]))
                      refine own_goW (fun _ ww => XS.icmpNo X443.here hx rfl (hb hby at_423) rfl (teq (by decide : (0 : Int32) = (0 : Int32))).2 ww) ?_
                      show own_GoesW _ _ _ _ _ _ _ (T443.setTop (mkF m 426 #[.val (.int x0), .val (.int x1), .val (.long x2), .second, .val (.int x4), .val (.int x5), .val (.ref at_), .val (.ref b414), .val (.int x8), .val (.int x9), .val (.ref r415), .val (.int (0 : Int32)), .val (.int (0 : Int32))] []))
                      refine own_goW (fun _ ww => XS.iconst X443.here hx rfl (hb hby at_426) ww) ?_
                      show own_GoesW _ _ _ _ _ _ _ (T443.setTop (mkF m 427 #[.val (.int x0), .val (.int x1), .val (.long x2), .second, .val (.int x4), .val (.int x5), .val (.ref at_), .val (.ref b414), .val (.int x8), .val (.int x9), .val (.ref r415), .val (.int (0 : Int32)), .val (.int (0 : Int32))] [(.int (1 : Int32))]))
                      refine own_goW (fun _ ww => XS.goto X443.here hx rfl (pc0 := 427) (pc' := 431) rfl (hb hby at_427) (by decide) (by decide) ww) ?_
                      show own_GoesW _ _ _ _ _ _ _ (T443.setTop (mkF m 431 #[.val (.int x0), .val (.int x1), .val (.long x2), .second, .val (.int x4), .val (.int x5), .val (.ref at_), .val (.ref b414), .val (.int x8), .val (.int x9), .val (.ref r415), .val (.int (0 : Int32)), .val (.int (0 : Int32))] [(.int (1 : Int32))]))
                      exact own_outW X443 hS hk hlk (v := some (.int (1 : Int32))) (fun h => by rw [hret] at h; cases h) (fun fs hr => retOut X443 hx (t := .boolean) hret (by decide) (Or.inl ⟨rfl, by simp, _, rfl⟩) (hb hby at_431) hr) e443 ⟨rfl, N443⟩ (by decide) (by decide)
                ·
                  refine own_goW (fun _ ww => XS.icmpYes X426.here hx rfl (pc0 := 375) (pc' := 393) rfl (hb hby at_375) rfl (feq hc427).2 (by decide) (by decide) ww) ?_
                  show own_GoesW _ _ _ _ _ _ _ (T426.setTop (mkF m 393 #[.val (.int x0), .val (.int x1), .val (.long x2), .second, .val (.int x4), .val (.int x5), .val (.ref at_), .val (.ref b414), .val (.int x8), .val (.int x9), .val (.ref r415), .unset, .unset] []))
                  refine own_goW (fun _ ww => XS.iconst X426.here hx rfl (hb hby at_393) ww) ?_
                  show own_GoesW _ _ _ _ _ _ _ (T426.setTop (mkF m 394 #[.val (.int x0), .val (.int x1), .val (.long x2), .second, .val (.int x4), .val (.int x5), .val (.ref at_), .val (.ref b414), .val (.int x8), .val (.int x9), .val (.ref r415), .unset, .unset] [(.int (0 : Int32))]))
                  refine own_goW (fun _ ww => XS.istore X426.here hx rfl (hb hby at_394) rfl (l' := #[.val (.int x0), .val (.int x1), .val (.long x2), .second, .val (.int x4), .val (.int x5), .val (.ref at_), .val (.ref b414), .val (.int x8), .val (.int x9), .val (.ref r415), .val (.int (0 : Int32)), .unset]) rfl ww) ?_
                  show own_GoesW _ _ _ _ _ _ _ (T426.setTop (mkF m 396 #[.val (.int x0), .val (.int x1), .val (.long x2), .second, .val (.int x4), .val (.int x5), .val (.ref at_), .val (.ref b414), .val (.int x8), .val (.int x9), .val (.ref r415), .val (.int (0 : Int32)), .unset] []))
                  rcases hat with ⟨h5, h6⟩ | ⟨h5, h6⟩
                  ·
                    subst h6
                    show own_GoesW _ _ _ _ _ _ _ (T426.setTop (mkF m 396 #[.val (.int x0), .val (.int x1), .val (.long x2), .second, .val (.int x4), .val (.int x5), .val (.ref at_), .val (.ref b414), .val (.int x8), .val (.int x9), .val (.ref r415), .val (.int (0 : Int32)), .unset] []))
                    refine own_goW (fun _ ww => XS.iload X426.here hx rfl (hb hby at_396) rfl  ww) ?_
                    show own_GoesW _ _ _ _ _ _ _ (T426.setTop (mkF m 398 #[.val (.int x0), .val (.int x1), .val (.long x2), .second, .val (.int x4), .val (.int x5), .val (.ref at_), .val (.ref b414), .val (.int x8), .val (.int x9), .val (.ref r415), .val (.int (0 : Int32)), .unset] [(.int x5)]))
                    refine own_goW (fun _ ww => XS.iconst X426.here hx rfl (hb hby at_398) ww) ?_
                    show own_GoesW _ _ _ _ _ _ _ (T426.setTop (mkF m 399 #[.val (.int x0), .val (.int x1), .val (.long x2), .second, .val (.int x4), .val (.int x5), .val (.ref at_), .val (.ref b414), .val (.int x8), .val (.int x9), .val (.ref r415), .val (.int (0 : Int32)), .unset] [(.int (3 : Int32)), (.int x5)]))
                    refine own_goW (fun _ ww => XS.icmpNo X426.here hx rfl (hb hby at_399) rfl (teq h5).2 ww) ?_
                    show own_GoesW _ _ _ _ _ _ _ (T426.setTop (mkF m 402 #[.val (.int x0), .val (.int x1), .val (.long x2), .second, .val (.int x4), .val (.int x5), .val (.ref at_), .val (.ref b414), .val (.int x8), .val (.int x9), .val (.ref r415), .val (.int (0 : Int32)), .unset] []))
                    refine own_goW (fun _ ww => XS.iload X426.here hx rfl (hb hby at_402) rfl  ww) ?_
                    show own_GoesW _ _ _ _ _ _ _ (T426.setTop (mkF m 404 #[.val (.int x0), .val (.int x1), .val (.long x2), .second, .val (.int x4), .val (.int x5), .val (.ref at_), .val (.ref b414), .val (.int x8), .val (.int x9), .val (.ref r415), .val (.int (0 : Int32)), .unset] [(.int (0 : Int32))]))
                    refine own_goW (fun _ ww => XS.ifNo X426.here hx rfl (hb hby at_404) rfl (own_if .ne (teq (by decide : (0 : Int32) = (0 : Int32))).2) ww) ?_
                    show own_GoesW _ _ _ _ _ _ _ (T426.setTop (mkF m 407 #[.val (.int x0), .val (.int x1), .val (.long x2), .second, .val (.int x4), .val (.int x5), .val (.ref at_), .val (.ref b414), .val (.int x8), .val (.int x9), .val (.ref r415), .val (.int (0 : Int32)), .unset] []))
                    refine own_goW (fun _ ww => XS.iconst X426.here hx rfl (hb hby at_407) ww) ?_
                    show own_GoesW _ _ _ _ _ _ _ (T426.setTop (mkF m 408 #[.val (.int x0), .val (.int x1), .val (.long x2), .second, .val (.int x4), .val (.int x5), .val (.ref at_), .val (.ref b414), .val (.int x8), .val (.int x9), .val (.ref r415), .val (.int (0 : Int32)), .unset] [(.int (1 : Int32))]))
                    refine own_goW (fun _ ww => XS.goto X426.here hx rfl (pc0 := 408) (pc' := 412) rfl (hb hby at_408) (by decide) (by decide) ww) ?_
                    show own_GoesW _ _ _ _ _ _ _ (T426.setTop (mkF m 412 #[.val (.int x0), .val (.int x1), .val (.long x2), .second, .val (.int x4), .val (.int x5), .val (.ref at_), .val (.ref b414), .val (.int x8), .val (.int x9), .val (.ref r415), .val (.int (0 : Int32)), .unset] [(.int (1 : Int32))]))
                    refine own_goW (fun _ ww => XS.istore X426.here hx rfl (hb hby at_412) rfl (l' := #[.val (.int x0), .val (.int x1), .val (.long x2), .second, .val (.int x4), .val (.int x5), .val (.ref at_), .val (.ref b414), .val (.int x8), .val (.int x9), .val (.ref r415), .val (.int (0 : Int32)), .val (.int (1 : Int32))]) rfl ww) ?_
                    show own_GoesW _ _ _ _ _ _ _ (T426.setTop (mkF m 414 #[.val (.int x0), .val (.int x1), .val (.long x2), .second, .val (.int x4), .val (.int x5), .val (.ref at_), .val (.ref b414), .val (.int x8), .val (.int x9), .val (.ref r415), .val (.int (0 : Int32)), .val (.int (1 : Int32))] []))
                    refine own_goW (fun _ ww => XS.aload X426.here hx rfl (hb hby at_414) rfl rfl ww) ?_
                    show own_GoesW _ _ _ _ _ _ _ (T426.setTop (mkF m 416 #[.val (.int x0), .val (.int x1), .val (.long x2), .second, .val (.int x4), .val (.int x5), .val (.ref at_), .val (.ref b414), .val (.int x8), .val (.int x9), .val (.ref r415), .val (.int (0 : Int32)), .val (.int (1 : Int32))] [(.ref at_)]))
                    refine own_goW (fun _ ww => XS.aload X426.here hx rfl (hb hby at_416) rfl rfl ww) ?_
                    show own_GoesW _ _ _ _ _ _ _ (T426.setTop (mkF m 418 #[.val (.int x0), .val (.int x1), .val (.long x2), .second, .val (.int x4), .val (.int x5), .val (.ref at_), .val (.ref b414), .val (.int x8), .val (.int x9), .val (.ref r415), .val (.int (0 : Int32)), .val (.int (1 : Int32))] [(.ref r415), (.ref at_)]))
                    obtain ⟨cq444, kq444, q444a, q444b, q444c⟩ := isOf hZ e426 (Eat.ext O415.2)
                    obtain ⟨_, _, ⟨T444, L444, k444, n444⟩, -, X444, hS444, hg444, ⟨Lc444, hQ444, l444, y444, z444⟩, st444⟩ := X426.virtualBackS hx (y := (⟨"com/example/izin/izin/Attribute", "defaultFlag", "(Ljava/lang/String;)Z"⟩ : MethodName)) (z := (⟨"com/example/izin/izin/Attribute", "defaultFlag", "(Ljava/lang/String;)Z"⟩ : MethodName)) hown (mvT hZ (hw _ (List.mem_of_getElem? (i := 45) rfl))) (mvT hZ (hw _ (List.mem_of_getElem? (i := 46) rfl))) (notFace_of_selects (args := #[]) (mvT hZ (hw _ (List.mem_of_getElem? (i := 48) rfl)))) (mvT hZ (hw _ (List.mem_of_getElem? (i := 48) rfl))) (mvT hZ (hw _ (List.mem_of_getElem? (i := 47) rfl))) (by decide) (own_backV (W := 0) (rm_dfi l Z a0 hw [] at_ (1 : Int32) zc r415 t415 kb415 ([d0, d1, d2, d3, d4, d5] : List Int32) Nx415 vx415 T415.heap n0 O415 S3 (by intro h; simp_all) (fun _ => rfl) hh88 hcw SC hzc E415q V415q C415q A415q hcs415 hbs415 hls415) hZ (fun _ q => own_IBw q I415q) (hw _ (List.mem_of_getElem? (i := 49) rfl)) (hw _ (List.mem_of_getElem? (i := 2) rfl)) (by decide) (by decide)) q444a q444c (g := (mkF m 418 #[.val (.int x0), .val (.int x1), .val (.long x2), .second, .val (.int x4), .val (.int x5), .val (.ref at_), .val (.ref b414), .val (.int x8), .val (.int x9), .val (.ref r415), .val (.int (0 : Int32)), .val (.int (1 : Int32))] [(.ref r415), (.ref at_)])) rfl (by rw [hml]; rfl) (Steps.refl _) (argsL := [(.ref r415)]) (rest := []) (lenOf pd_6 rfl) rfl (by show 2 * 0 + _ ≤ _; exact Nat.le_of_eq rfl) (hb hby at_418) (fun _ _ => ⟨rfl, e426, (by decide : 5 + 2 ≤ _), (by decide : 28 + 28 ≤ _)⟩)
                    dsimp only [Pt.U, Pt.locs, Pt.cells, Pt.slots] at X444 l444 y444 z444 st444 hQ444 hS444 hg444
                    subst l444 y444 z444
                    obtain ⟨X444, hS, hZ, hown⟩ := rebS hS (show _ ≤ T426.heap.size from (by rw [e426]; exact hk)) X444 hS444 hg444 hZ hown
                    obtain ⟨rfl, N444q, K444q⟩ := hQ444
                    have N444 := Fr.app N426 N444q
                    have hk : T444.heap.size ≤ T444.heap.size := Nat.le_refl _
                    have f445 : Arv Z T444.heap b414 k414 .char (8 : Int32) [(.int c0), (.int c1), (.int c2), (.int c3), (.int c4), (.int c5), (.int c6), (.int c7)] (.int (0 : Int32)) := (f416.keep K444q nin0)
                    have f446 : Exa Z T444.heap r415 "java/lang/String" := (E415q.keep K444q)
                    have f447 : Fld Z T444.heap r415 "java/lang/String" "coder" "B" (.int (0 : Int32)) := (C415q.keep K444q nin0)
                    have f448 : Fld Z T444.heap r415 "java/lang/String" "value" "[B" (.ref t415) := (V415q.keep K444q nin0)
                    have f449 : Arv Z T444.heap t415 kb415 .byte Nx415 vx415 (.int (0 : Int32)) := (A415q.keep K444q nin0)
                    have O444 := O415.keep K444q all0
                    refine own_goW (fun _ ww => Steps.trans st444 ww) ?_
                    show own_GoesW _ _ _ _ _ _ _ (T444.setTop (mkF m 421 #[.val (.int x0), .val (.int x1), .val (.long x2), .second, .val (.int x4), .val (.int x5), .val (.ref at_), .val (.ref b414), .val (.int x8), .val (.int x9), .val (.ref r415), .val (.int (0 : Int32)), .val (.int (1 : Int32))] [(.int (1 : Int32))]))
                    refine own_goW (fun _ ww => XS.iload X444.here hx rfl (hb hby at_421) rfl  ww) ?_
                    show own_GoesW _ _ _ _ _ _ _ (T444.setTop (mkF m 423 #[.val (.int x0), .val (.int x1), .val (.long x2), .second, .val (.int x4), .val (.int x5), .val (.ref at_), .val (.ref b414), .val (.int x8), .val (.int x9), .val (.ref r415), .val (.int (0 : Int32)), .val (.int (1 : Int32))] [(.int (1 : Int32)), (.int (1 : Int32))]))
                    refine own_goW (fun _ ww => XS.icmpNo X444.here hx rfl (hb hby at_423) rfl (teq (by decide : (1 : Int32) = (1 : Int32))).2 ww) ?_
                    show own_GoesW _ _ _ _ _ _ _ (T444.setTop (mkF m 426 #[.val (.int x0), .val (.int x1), .val (.long x2), .second, .val (.int x4), .val (.int x5), .val (.ref at_), .val (.ref b414), .val (.int x8), .val (.int x9), .val (.ref r415), .val (.int (0 : Int32)), .val (.int (1 : Int32))] []))
                    refine own_goW (fun _ ww => XS.iconst X444.here hx rfl (hb hby at_426) ww) ?_
                    show own_GoesW _ _ _ _ _ _ _ (T444.setTop (mkF m 427 #[.val (.int x0), .val (.int x1), .val (.long x2), .second, .val (.int x4), .val (.int x5), .val (.ref at_), .val (.ref b414), .val (.int x8), .val (.int x9), .val (.ref r415), .val (.int (0 : Int32)), .val (.int (1 : Int32))] [(.int (1 : Int32))]))
                    refine own_goW (fun _ ww => XS.goto X444.here hx rfl (pc0 := 427) (pc' := 431) rfl (hb hby at_427) (by decide) (by decide) ww) ?_
                    show own_GoesW _ _ _ _ _ _ _ (T444.setTop (mkF m 431 #[.val (.int x0), .val (.int x1), .val (.long x2), .second, .val (.int x4), .val (.int x5), .val (.ref at_), .val (.ref b414), .val (.int x8), .val (.int x9), .val (.ref r415), .val (.int (0 : Int32)), .val (.int (1 : Int32))] [(.int (1 : Int32))]))
                    exact own_outW X444 hS hk hlk (v := some (.int (1 : Int32))) (fun h => by rw [hret] at h; cases h) (fun fs hr => retOut X444 hx (t := .boolean) hret (by decide) (Or.inl ⟨rfl, by simp, _, rfl⟩) (hb hby at_431) hr) rfl ⟨rfl, N444⟩ (by decide) (by decide)
                  ·
                    show own_GoesW _ _ _ _ _ _ _ (T426.setTop (mkF m 396 #[.val (.int x0), .val (.int x1), .val (.long x2), .second, .val (.int x4), .val (.int x5), .val (.ref at_), .val (.ref b414), .val (.int x8), .val (.int x9), .val (.ref r415), .val (.int (0 : Int32)), .unset] []))
                    refine own_goW (fun _ ww => XS.iload X426.here hx rfl (hb hby at_396) rfl  ww) ?_
                    show own_GoesW _ _ _ _ _ _ _ (T426.setTop (mkF m 398 #[.val (.int x0), .val (.int x1), .val (.long x2), .second, .val (.int x4), .val (.int x5), .val (.ref at_), .val (.ref b414), .val (.int x8), .val (.int x9), .val (.ref r415), .val (.int (0 : Int32)), .unset] [(.int x5)]))
                    refine own_goW (fun _ ww => XS.iconst X426.here hx rfl (hb hby at_398) ww) ?_
                    show own_GoesW _ _ _ _ _ _ _ (T426.setTop (mkF m 399 #[.val (.int x0), .val (.int x1), .val (.long x2), .second, .val (.int x4), .val (.int x5), .val (.ref at_), .val (.ref b414), .val (.int x8), .val (.int x9), .val (.ref r415), .val (.int (0 : Int32)), .unset] [(.int (3 : Int32)), (.int x5)]))
                    refine own_goW (fun _ ww => XS.icmpYes X426.here hx rfl (pc0 := 399) (pc' := 411) rfl (hb hby at_399) rfl (feq h5).2 (by decide) (by decide) ww) ?_
                    show own_GoesW _ _ _ _ _ _ _ (T426.setTop (mkF m 411 #[.val (.int x0), .val (.int x1), .val (.long x2), .second, .val (.int x4), .val (.int x5), .val (.ref at_), .val (.ref b414), .val (.int x8), .val (.int x9), .val (.ref r415), .val (.int (0 : Int32)), .unset] []))
                    refine own_goW (fun _ ww => XS.iconst X426.here hx rfl (hb hby at_411) ww) ?_
                    show own_GoesW _ _ _ _ _ _ _ (T426.setTop (mkF m 412 #[.val (.int x0), .val (.int x1), .val (.long x2), .second, .val (.int x4), .val (.int x5), .val (.ref at_), .val (.ref b414), .val (.int x8), .val (.int x9), .val (.ref r415), .val (.int (0 : Int32)), .unset] [(.int (0 : Int32))]))
                    refine own_goW (fun _ ww => XS.istore X426.here hx rfl (hb hby at_412) rfl (l' := #[.val (.int x0), .val (.int x1), .val (.long x2), .second, .val (.int x4), .val (.int x5), .val (.ref at_), .val (.ref b414), .val (.int x8), .val (.int x9), .val (.ref r415), .val (.int (0 : Int32)), .val (.int (0 : Int32))]) rfl ww) ?_
                    show own_GoesW _ _ _ _ _ _ _ (T426.setTop (mkF m 414 #[.val (.int x0), .val (.int x1), .val (.long x2), .second, .val (.int x4), .val (.int x5), .val (.ref at_), .val (.ref b414), .val (.int x8), .val (.int x9), .val (.ref r415), .val (.int (0 : Int32)), .val (.int (0 : Int32))] []))
                    refine own_goW (fun _ ww => XS.aload X426.here hx rfl (hb hby at_414) rfl rfl ww) ?_
                    show own_GoesW _ _ _ _ _ _ _ (T426.setTop (mkF m 416 #[.val (.int x0), .val (.int x1), .val (.long x2), .second, .val (.int x4), .val (.int x5), .val (.ref at_), .val (.ref b414), .val (.int x8), .val (.int x9), .val (.ref r415), .val (.int (0 : Int32)), .val (.int (0 : Int32))] [(.ref at_)]))
                    refine own_goW (fun _ ww => XS.aload X426.here hx rfl (hb hby at_416) rfl rfl ww) ?_
                    show own_GoesW _ _ _ _ _ _ _ (T426.setTop (mkF m 418 #[.val (.int x0), .val (.int x1), .val (.long x2), .second, .val (.int x4), .val (.int x5), .val (.ref at_), .val (.ref b414), .val (.int x8), .val (.int x9), .val (.ref r415), .val (.int (0 : Int32)), .val (.int (0 : Int32))] [(.ref r415), (.ref at_)]))
                    obtain ⟨cq450, kq450, q450a, q450b, q450c⟩ := isOf hZ e426 (Eat.ext O415.2)
                    obtain ⟨_, _, ⟨T450, L450, k450, n450⟩, -, X450, ⟨Lc450, hQ450, l450, y450, z450⟩, st450⟩ := X426.virtualBack hx (y := (⟨"com/example/izin/izin/Attribute", "defaultFlag", "(Ljava/lang/String;)Z"⟩ : MethodName)) (z := (⟨"com/example/izin/izin/Attribute", "defaultFlag", "(Ljava/lang/String;)Z"⟩ : MethodName)) hown (mvT hZ (hw _ (List.mem_of_getElem? (i := 45) rfl))) (mvT hZ (hw _ (List.mem_of_getElem? (i := 46) rfl))) (notFace_of_selects (args := #[]) (mvT hZ (hw _ (List.mem_of_getElem? (i := 48) rfl)))) (mvT hZ (hw _ (List.mem_of_getElem? (i := 48) rfl))) (mvT hZ (hw _ (List.mem_of_getElem? (i := 47) rfl))) (by decide) (backOf (W := 0) (rm_dfn l Z a0 hw [] at_ k3 r415 T415.heap n0 O415 S3 h6) hZ (hw _ (List.mem_of_getElem? (i := 49) rfl)) (hw _ (List.mem_of_getElem? (i := 2) rfl)) (by decide) (by decide)) q450a q450c (g := (mkF m 418 #[.val (.int x0), .val (.int x1), .val (.long x2), .second, .val (.int x4), .val (.int x5), .val (.ref at_), .val (.ref b414), .val (.int x8), .val (.int x9), .val (.ref r415), .val (.int (0 : Int32)), .val (.int (0 : Int32))] [(.ref r415), (.ref at_)])) rfl (by rw [hml]; rfl) (Steps.refl _) (argsL := [(.ref r415)]) (rest := []) (lenOf pd_6 rfl) rfl (by show 2 * 0 + _ ≤ _; exact Nat.le_of_eq rfl) (hb hby at_418) (fun _ _ => ⟨rfl, e426, (by decide : 5 + 0 ≤ _), (by decide : 28 + 0 ≤ _)⟩)
                    dsimp only [Pt.U, Pt.locs, Pt.cells, Pt.slots] at X450 l450 y450 z450 st450 hQ450
                    subst l450 y450 z450
                    obtain ⟨rfl, N450q, e450⟩ := hQ450
                    have N450 := Fr.app N426 N450q
                    refine own_goW (fun _ ww => Steps.trans st450 ww) ?_
                    show own_GoesW _ _ _ _ _ _ _ (T450.setTop (mkF m 421 #[.val (.int x0), .val (.int x1), .val (.long x2), .second, .val (.int x4), .val (.int x5), .val (.ref at_), .val (.ref b414), .val (.int x8), .val (.int x9), .val (.ref r415), .val (.int (0 : Int32)), .val (.int (0 : Int32))] [(.int (0 : Int32))]))
                    refine own_goW (fun _ ww => XS.iload X450.here hx rfl (hb hby at_421) rfl  ww) ?_
                    show own_GoesW _ _ _ _ _ _ _ (T450.setTop (mkF m 423 #[.val (.int x0), .val (.int x1), .val (.long x2), .second, .val (.int x4), .val (.int x5), .val (.ref at_), .val (.ref b414), .val (.int x8), .val (.int x9), .val (.ref r415), .val (.int (0 : Int32)), .val (.int (0 : Int32))] [(.int (0 : Int32)), (.int (0 : Int32))]))
                    refine own_goW (fun _ ww => XS.icmpNo X450.here hx rfl (hb hby at_423) rfl (teq (by decide : (0 : Int32) = (0 : Int32))).2 ww) ?_
                    show own_GoesW _ _ _ _ _ _ _ (T450.setTop (mkF m 426 #[.val (.int x0), .val (.int x1), .val (.long x2), .second, .val (.int x4), .val (.int x5), .val (.ref at_), .val (.ref b414), .val (.int x8), .val (.int x9), .val (.ref r415), .val (.int (0 : Int32)), .val (.int (0 : Int32))] []))
                    refine own_goW (fun _ ww => XS.iconst X450.here hx rfl (hb hby at_426) ww) ?_
                    show own_GoesW _ _ _ _ _ _ _ (T450.setTop (mkF m 427 #[.val (.int x0), .val (.int x1), .val (.long x2), .second, .val (.int x4), .val (.int x5), .val (.ref at_), .val (.ref b414), .val (.int x8), .val (.int x9), .val (.ref r415), .val (.int (0 : Int32)), .val (.int (0 : Int32))] [(.int (1 : Int32))]))
                    refine own_goW (fun _ ww => XS.goto X450.here hx rfl (pc0 := 427) (pc' := 431) rfl (hb hby at_427) (by decide) (by decide) ww) ?_
                    show own_GoesW _ _ _ _ _ _ _ (T450.setTop (mkF m 431 #[.val (.int x0), .val (.int x1), .val (.long x2), .second, .val (.int x4), .val (.int x5), .val (.ref at_), .val (.ref b414), .val (.int x8), .val (.int x9), .val (.ref r415), .val (.int (0 : Int32)), .val (.int (0 : Int32))] [(.int (1 : Int32))]))
                    exact own_outW X450 hS hk hlk (v := some (.int (1 : Int32))) (fun h => by rw [hret] at h; cases h) (fun fs hr => retOut X450 hx (t := .boolean) hret (by decide) (Or.inl ⟨rfl, by simp, _, rfl⟩) (hb hby at_431) hr) e450 ⟨rfl, N450⟩ (by decide) (by decide)
              ·
                refine own_goW (fun _ ww => XS.icmpYes X424.here hx rfl (pc0 := 364) (pc' := 393) rfl (hb hby at_364) rfl (feq hc425).2 (by decide) (by decide) ww) ?_
                show own_GoesW _ _ _ _ _ _ _ (T424.setTop (mkF m 393 #[.val (.int x0), .val (.int x1), .val (.long x2), .second, .val (.int x4), .val (.int x5), .val (.ref at_), .val (.ref b414), .val (.int x8), .val (.int x9), .val (.ref r415), .unset, .unset] []))
                refine own_goW (fun _ ww => XS.iconst X424.here hx rfl (hb hby at_393) ww) ?_
                show own_GoesW _ _ _ _ _ _ _ (T424.setTop (mkF m 394 #[.val (.int x0), .val (.int x1), .val (.long x2), .second, .val (.int x4), .val (.int x5), .val (.ref at_), .val (.ref b414), .val (.int x8), .val (.int x9), .val (.ref r415), .unset, .unset] [(.int (0 : Int32))]))
                refine own_goW (fun _ ww => XS.istore X424.here hx rfl (hb hby at_394) rfl (l' := #[.val (.int x0), .val (.int x1), .val (.long x2), .second, .val (.int x4), .val (.int x5), .val (.ref at_), .val (.ref b414), .val (.int x8), .val (.int x9), .val (.ref r415), .val (.int (0 : Int32)), .unset]) rfl ww) ?_
                show own_GoesW _ _ _ _ _ _ _ (T424.setTop (mkF m 396 #[.val (.int x0), .val (.int x1), .val (.long x2), .second, .val (.int x4), .val (.int x5), .val (.ref at_), .val (.ref b414), .val (.int x8), .val (.int x9), .val (.ref r415), .val (.int (0 : Int32)), .unset] []))
                rcases hat with ⟨h5, h6⟩ | ⟨h5, h6⟩
                ·
                  subst h6
                  show own_GoesW _ _ _ _ _ _ _ (T424.setTop (mkF m 396 #[.val (.int x0), .val (.int x1), .val (.long x2), .second, .val (.int x4), .val (.int x5), .val (.ref at_), .val (.ref b414), .val (.int x8), .val (.int x9), .val (.ref r415), .val (.int (0 : Int32)), .unset] []))
                  refine own_goW (fun _ ww => XS.iload X424.here hx rfl (hb hby at_396) rfl  ww) ?_
                  show own_GoesW _ _ _ _ _ _ _ (T424.setTop (mkF m 398 #[.val (.int x0), .val (.int x1), .val (.long x2), .second, .val (.int x4), .val (.int x5), .val (.ref at_), .val (.ref b414), .val (.int x8), .val (.int x9), .val (.ref r415), .val (.int (0 : Int32)), .unset] [(.int x5)]))
                  refine own_goW (fun _ ww => XS.iconst X424.here hx rfl (hb hby at_398) ww) ?_
                  show own_GoesW _ _ _ _ _ _ _ (T424.setTop (mkF m 399 #[.val (.int x0), .val (.int x1), .val (.long x2), .second, .val (.int x4), .val (.int x5), .val (.ref at_), .val (.ref b414), .val (.int x8), .val (.int x9), .val (.ref r415), .val (.int (0 : Int32)), .unset] [(.int (3 : Int32)), (.int x5)]))
                  refine own_goW (fun _ ww => XS.icmpNo X424.here hx rfl (hb hby at_399) rfl (teq h5).2 ww) ?_
                  show own_GoesW _ _ _ _ _ _ _ (T424.setTop (mkF m 402 #[.val (.int x0), .val (.int x1), .val (.long x2), .second, .val (.int x4), .val (.int x5), .val (.ref at_), .val (.ref b414), .val (.int x8), .val (.int x9), .val (.ref r415), .val (.int (0 : Int32)), .unset] []))
                  refine own_goW (fun _ ww => XS.iload X424.here hx rfl (hb hby at_402) rfl  ww) ?_
                  show own_GoesW _ _ _ _ _ _ _ (T424.setTop (mkF m 404 #[.val (.int x0), .val (.int x1), .val (.long x2), .second, .val (.int x4), .val (.int x5), .val (.ref at_), .val (.ref b414), .val (.int x8), .val (.int x9), .val (.ref r415), .val (.int (0 : Int32)), .unset] [(.int (0 : Int32))]))
                  refine own_goW (fun _ ww => XS.ifNo X424.here hx rfl (hb hby at_404) rfl (own_if .ne (teq (by decide : (0 : Int32) = (0 : Int32))).2) ww) ?_
                  show own_GoesW _ _ _ _ _ _ _ (T424.setTop (mkF m 407 #[.val (.int x0), .val (.int x1), .val (.long x2), .second, .val (.int x4), .val (.int x5), .val (.ref at_), .val (.ref b414), .val (.int x8), .val (.int x9), .val (.ref r415), .val (.int (0 : Int32)), .unset] []))
                  refine own_goW (fun _ ww => XS.iconst X424.here hx rfl (hb hby at_407) ww) ?_
                  show own_GoesW _ _ _ _ _ _ _ (T424.setTop (mkF m 408 #[.val (.int x0), .val (.int x1), .val (.long x2), .second, .val (.int x4), .val (.int x5), .val (.ref at_), .val (.ref b414), .val (.int x8), .val (.int x9), .val (.ref r415), .val (.int (0 : Int32)), .unset] [(.int (1 : Int32))]))
                  refine own_goW (fun _ ww => XS.goto X424.here hx rfl (pc0 := 408) (pc' := 412) rfl (hb hby at_408) (by decide) (by decide) ww) ?_
                  show own_GoesW _ _ _ _ _ _ _ (T424.setTop (mkF m 412 #[.val (.int x0), .val (.int x1), .val (.long x2), .second, .val (.int x4), .val (.int x5), .val (.ref at_), .val (.ref b414), .val (.int x8), .val (.int x9), .val (.ref r415), .val (.int (0 : Int32)), .unset] [(.int (1 : Int32))]))
                  refine own_goW (fun _ ww => XS.istore X424.here hx rfl (hb hby at_412) rfl (l' := #[.val (.int x0), .val (.int x1), .val (.long x2), .second, .val (.int x4), .val (.int x5), .val (.ref at_), .val (.ref b414), .val (.int x8), .val (.int x9), .val (.ref r415), .val (.int (0 : Int32)), .val (.int (1 : Int32))]) rfl ww) ?_
                  show own_GoesW _ _ _ _ _ _ _ (T424.setTop (mkF m 414 #[.val (.int x0), .val (.int x1), .val (.long x2), .second, .val (.int x4), .val (.int x5), .val (.ref at_), .val (.ref b414), .val (.int x8), .val (.int x9), .val (.ref r415), .val (.int (0 : Int32)), .val (.int (1 : Int32))] []))
                  refine own_goW (fun _ ww => XS.aload X424.here hx rfl (hb hby at_414) rfl rfl ww) ?_
                  show own_GoesW _ _ _ _ _ _ _ (T424.setTop (mkF m 416 #[.val (.int x0), .val (.int x1), .val (.long x2), .second, .val (.int x4), .val (.int x5), .val (.ref at_), .val (.ref b414), .val (.int x8), .val (.int x9), .val (.ref r415), .val (.int (0 : Int32)), .val (.int (1 : Int32))] [(.ref at_)]))
                  refine own_goW (fun _ ww => XS.aload X424.here hx rfl (hb hby at_416) rfl rfl ww) ?_
                  show own_GoesW _ _ _ _ _ _ _ (T424.setTop (mkF m 418 #[.val (.int x0), .val (.int x1), .val (.long x2), .second, .val (.int x4), .val (.int x5), .val (.ref at_), .val (.ref b414), .val (.int x8), .val (.int x9), .val (.ref r415), .val (.int (0 : Int32)), .val (.int (1 : Int32))] [(.ref r415), (.ref at_)]))
                  obtain ⟨cq451, kq451, q451a, q451b, q451c⟩ := isOf hZ e424 (Eat.ext O415.2)
                  obtain ⟨_, _, ⟨T451, L451, k451, n451⟩, -, X451, hS451, hg451, ⟨Lc451, hQ451, l451, y451, z451⟩, st451⟩ := X424.virtualBackS hx (y := (⟨"com/example/izin/izin/Attribute", "defaultFlag", "(Ljava/lang/String;)Z"⟩ : MethodName)) (z := (⟨"com/example/izin/izin/Attribute", "defaultFlag", "(Ljava/lang/String;)Z"⟩ : MethodName)) hown (mvT hZ (hw _ (List.mem_of_getElem? (i := 45) rfl))) (mvT hZ (hw _ (List.mem_of_getElem? (i := 46) rfl))) (notFace_of_selects (args := #[]) (mvT hZ (hw _ (List.mem_of_getElem? (i := 48) rfl)))) (mvT hZ (hw _ (List.mem_of_getElem? (i := 48) rfl))) (mvT hZ (hw _ (List.mem_of_getElem? (i := 47) rfl))) (by decide) (own_backV (W := 0) (rm_dfi l Z a0 hw [] at_ (1 : Int32) zc r415 t415 kb415 ([d0, d1, d2, d3, d4, d5] : List Int32) Nx415 vx415 T415.heap n0 O415 S3 (by intro h; simp_all) (fun _ => rfl) hh88 hcw SC hzc E415q V415q C415q A415q hcs415 hbs415 hls415) hZ (fun _ q => own_IBw q I415q) (hw _ (List.mem_of_getElem? (i := 49) rfl)) (hw _ (List.mem_of_getElem? (i := 2) rfl)) (by decide) (by decide)) q451a q451c (g := (mkF m 418 #[.val (.int x0), .val (.int x1), .val (.long x2), .second, .val (.int x4), .val (.int x5), .val (.ref at_), .val (.ref b414), .val (.int x8), .val (.int x9), .val (.ref r415), .val (.int (0 : Int32)), .val (.int (1 : Int32))] [(.ref r415), (.ref at_)])) rfl (by rw [hml]; rfl) (Steps.refl _) (argsL := [(.ref r415)]) (rest := []) (lenOf pd_6 rfl) rfl (by show 2 * 0 + _ ≤ _; exact Nat.le_of_eq rfl) (hb hby at_418) (fun _ _ => ⟨rfl, e424, (by decide : 5 + 2 ≤ _), (by decide : 28 + 28 ≤ _)⟩)
                  dsimp only [Pt.U, Pt.locs, Pt.cells, Pt.slots] at X451 l451 y451 z451 st451 hQ451 hS451 hg451
                  subst l451 y451 z451
                  obtain ⟨X451, hS, hZ, hown⟩ := rebS hS (show _ ≤ T424.heap.size from (by rw [e424]; exact hk)) X451 hS451 hg451 hZ hown
                  obtain ⟨rfl, N451q, K451q⟩ := hQ451
                  have N451 := Fr.app N424 N451q
                  have hk : T451.heap.size ≤ T451.heap.size := Nat.le_refl _
                  have f452 : Arv Z T451.heap b414 k414 .char (8 : Int32) [(.int c0), (.int c1), (.int c2), (.int c3), (.int c4), (.int c5), (.int c6), (.int c7)] (.int (0 : Int32)) := (f416.keep K451q nin0)
                  have f453 : Exa Z T451.heap r415 "java/lang/String" := (E415q.keep K451q)
                  have f454 : Fld Z T451.heap r415 "java/lang/String" "coder" "B" (.int (0 : Int32)) := (C415q.keep K451q nin0)
                  have f455 : Fld Z T451.heap r415 "java/lang/String" "value" "[B" (.ref t415) := (V415q.keep K451q nin0)
                  have f456 : Arv Z T451.heap t415 kb415 .byte Nx415 vx415 (.int (0 : Int32)) := (A415q.keep K451q nin0)
                  have O451 := O415.keep K451q all0
                  refine own_goW (fun _ ww => Steps.trans st451 ww) ?_
                  show own_GoesW _ _ _ _ _ _ _ (T451.setTop (mkF m 421 #[.val (.int x0), .val (.int x1), .val (.long x2), .second, .val (.int x4), .val (.int x5), .val (.ref at_), .val (.ref b414), .val (.int x8), .val (.int x9), .val (.ref r415), .val (.int (0 : Int32)), .val (.int (1 : Int32))] [(.int (1 : Int32))]))
                  refine own_goW (fun _ ww => XS.iload X451.here hx rfl (hb hby at_421) rfl  ww) ?_
                  show own_GoesW _ _ _ _ _ _ _ (T451.setTop (mkF m 423 #[.val (.int x0), .val (.int x1), .val (.long x2), .second, .val (.int x4), .val (.int x5), .val (.ref at_), .val (.ref b414), .val (.int x8), .val (.int x9), .val (.ref r415), .val (.int (0 : Int32)), .val (.int (1 : Int32))] [(.int (1 : Int32)), (.int (1 : Int32))]))
                  refine own_goW (fun _ ww => XS.icmpNo X451.here hx rfl (hb hby at_423) rfl (teq (by decide : (1 : Int32) = (1 : Int32))).2 ww) ?_
                  show own_GoesW _ _ _ _ _ _ _ (T451.setTop (mkF m 426 #[.val (.int x0), .val (.int x1), .val (.long x2), .second, .val (.int x4), .val (.int x5), .val (.ref at_), .val (.ref b414), .val (.int x8), .val (.int x9), .val (.ref r415), .val (.int (0 : Int32)), .val (.int (1 : Int32))] []))
                  refine own_goW (fun _ ww => XS.iconst X451.here hx rfl (hb hby at_426) ww) ?_
                  show own_GoesW _ _ _ _ _ _ _ (T451.setTop (mkF m 427 #[.val (.int x0), .val (.int x1), .val (.long x2), .second, .val (.int x4), .val (.int x5), .val (.ref at_), .val (.ref b414), .val (.int x8), .val (.int x9), .val (.ref r415), .val (.int (0 : Int32)), .val (.int (1 : Int32))] [(.int (1 : Int32))]))
                  refine own_goW (fun _ ww => XS.goto X451.here hx rfl (pc0 := 427) (pc' := 431) rfl (hb hby at_427) (by decide) (by decide) ww) ?_
                  show own_GoesW _ _ _ _ _ _ _ (T451.setTop (mkF m 431 #[.val (.int x0), .val (.int x1), .val (.long x2), .second, .val (.int x4), .val (.int x5), .val (.ref at_), .val (.ref b414), .val (.int x8), .val (.int x9), .val (.ref r415), .val (.int (0 : Int32)), .val (.int (1 : Int32))] [(.int (1 : Int32))]))
                  exact own_outW X451 hS hk hlk (v := some (.int (1 : Int32))) (fun h => by rw [hret] at h; cases h) (fun fs hr => retOut X451 hx (t := .boolean) hret (by decide) (Or.inl ⟨rfl, by simp, _, rfl⟩) (hb hby at_431) hr) rfl ⟨rfl, N451⟩ (by decide) (by decide)
                ·
                  show own_GoesW _ _ _ _ _ _ _ (T424.setTop (mkF m 396 #[.val (.int x0), .val (.int x1), .val (.long x2), .second, .val (.int x4), .val (.int x5), .val (.ref at_), .val (.ref b414), .val (.int x8), .val (.int x9), .val (.ref r415), .val (.int (0 : Int32)), .unset] []))
                  refine own_goW (fun _ ww => XS.iload X424.here hx rfl (hb hby at_396) rfl  ww) ?_
                  show own_GoesW _ _ _ _ _ _ _ (T424.setTop (mkF m 398 #[.val (.int x0), .val (.int x1), .val (.long x2), .second, .val (.int x4), .val (.int x5), .val (.ref at_), .val (.ref b414), .val (.int x8), .val (.int x9), .val (.ref r415), .val (.int (0 : Int32)), .unset] [(.int x5)]))
                  refine own_goW (fun _ ww => XS.iconst X424.here hx rfl (hb hby at_398) ww) ?_
                  show own_GoesW _ _ _ _ _ _ _ (T424.setTop (mkF m 399 #[.val (.int x0), .val (.int x1), .val (.long x2), .second, .val (.int x4), .val (.int x5), .val (.ref at_), .val (.ref b414), .val (.int x8), .val (.int x9), .val (.ref r415), .val (.int (0 : Int32)), .unset] [(.int (3 : Int32)), (.int x5)]))
                  refine own_goW (fun _ ww => XS.icmpYes X424.here hx rfl (pc0 := 399) (pc' := 411) rfl (hb hby at_399) rfl (feq h5).2 (by decide) (by decide) ww) ?_
                  show own_GoesW _ _ _ _ _ _ _ (T424.setTop (mkF m 411 #[.val (.int x0), .val (.int x1), .val (.long x2), .second, .val (.int x4), .val (.int x5), .val (.ref at_), .val (.ref b414), .val (.int x8), .val (.int x9), .val (.ref r415), .val (.int (0 : Int32)), .unset] []))
                  refine own_goW (fun _ ww => XS.iconst X424.here hx rfl (hb hby at_411) ww) ?_
                  show own_GoesW _ _ _ _ _ _ _ (T424.setTop (mkF m 412 #[.val (.int x0), .val (.int x1), .val (.long x2), .second, .val (.int x4), .val (.int x5), .val (.ref at_), .val (.ref b414), .val (.int x8), .val (.int x9), .val (.ref r415), .val (.int (0 : Int32)), .unset] [(.int (0 : Int32))]))
                  refine own_goW (fun _ ww => XS.istore X424.here hx rfl (hb hby at_412) rfl (l' := #[.val (.int x0), .val (.int x1), .val (.long x2), .second, .val (.int x4), .val (.int x5), .val (.ref at_), .val (.ref b414), .val (.int x8), .val (.int x9), .val (.ref r415), .val (.int (0 : Int32)), .val (.int (0 : Int32))]) rfl ww) ?_
                  show own_GoesW _ _ _ _ _ _ _ (T424.setTop (mkF m 414 #[.val (.int x0), .val (.int x1), .val (.long x2), .second, .val (.int x4), .val (.int x5), .val (.ref at_), .val (.ref b414), .val (.int x8), .val (.int x9), .val (.ref r415), .val (.int (0 : Int32)), .val (.int (0 : Int32))] []))
                  refine own_goW (fun _ ww => XS.aload X424.here hx rfl (hb hby at_414) rfl rfl ww) ?_
                  show own_GoesW _ _ _ _ _ _ _ (T424.setTop (mkF m 416 #[.val (.int x0), .val (.int x1), .val (.long x2), .second, .val (.int x4), .val (.int x5), .val (.ref at_), .val (.ref b414), .val (.int x8), .val (.int x9), .val (.ref r415), .val (.int (0 : Int32)), .val (.int (0 : Int32))] [(.ref at_)]))
                  refine own_goW (fun _ ww => XS.aload X424.here hx rfl (hb hby at_416) rfl rfl ww) ?_
                  show own_GoesW _ _ _ _ _ _ _ (T424.setTop (mkF m 418 #[.val (.int x0), .val (.int x1), .val (.long x2), .second, .val (.int x4), .val (.int x5), .val (.ref at_), .val (.ref b414), .val (.int x8), .val (.int x9), .val (.ref r415), .val (.int (0 : Int32)), .val (.int (0 : Int32))] [(.ref r415), (.ref at_)]))
                  obtain ⟨cq457, kq457, q457a, q457b, q457c⟩ := isOf hZ e424 (Eat.ext O415.2)
                  obtain ⟨_, _, ⟨T457, L457, k457, n457⟩, -, X457, ⟨Lc457, hQ457, l457, y457, z457⟩, st457⟩ := X424.virtualBack hx (y := (⟨"com/example/izin/izin/Attribute", "defaultFlag", "(Ljava/lang/String;)Z"⟩ : MethodName)) (z := (⟨"com/example/izin/izin/Attribute", "defaultFlag", "(Ljava/lang/String;)Z"⟩ : MethodName)) hown (mvT hZ (hw _ (List.mem_of_getElem? (i := 45) rfl))) (mvT hZ (hw _ (List.mem_of_getElem? (i := 46) rfl))) (notFace_of_selects (args := #[]) (mvT hZ (hw _ (List.mem_of_getElem? (i := 48) rfl)))) (mvT hZ (hw _ (List.mem_of_getElem? (i := 48) rfl))) (mvT hZ (hw _ (List.mem_of_getElem? (i := 47) rfl))) (by decide) (backOf (W := 0) (rm_dfn l Z a0 hw [] at_ k3 r415 T415.heap n0 O415 S3 h6) hZ (hw _ (List.mem_of_getElem? (i := 49) rfl)) (hw _ (List.mem_of_getElem? (i := 2) rfl)) (by decide) (by decide)) q457a q457c (g := (mkF m 418 #[.val (.int x0), .val (.int x1), .val (.long x2), .second, .val (.int x4), .val (.int x5), .val (.ref at_), .val (.ref b414), .val (.int x8), .val (.int x9), .val (.ref r415), .val (.int (0 : Int32)), .val (.int (0 : Int32))] [(.ref r415), (.ref at_)])) rfl (by rw [hml]; rfl) (Steps.refl _) (argsL := [(.ref r415)]) (rest := []) (lenOf pd_6 rfl) rfl (by show 2 * 0 + _ ≤ _; exact Nat.le_of_eq rfl) (hb hby at_418) (fun _ _ => ⟨rfl, e424, (by decide : 5 + 0 ≤ _), (by decide : 28 + 0 ≤ _)⟩)
                  dsimp only [Pt.U, Pt.locs, Pt.cells, Pt.slots] at X457 l457 y457 z457 st457 hQ457
                  subst l457 y457 z457
                  obtain ⟨rfl, N457q, e457⟩ := hQ457
                  have N457 := Fr.app N424 N457q
                  refine own_goW (fun _ ww => Steps.trans st457 ww) ?_
                  show own_GoesW _ _ _ _ _ _ _ (T457.setTop (mkF m 421 #[.val (.int x0), .val (.int x1), .val (.long x2), .second, .val (.int x4), .val (.int x5), .val (.ref at_), .val (.ref b414), .val (.int x8), .val (.int x9), .val (.ref r415), .val (.int (0 : Int32)), .val (.int (0 : Int32))] [(.int (0 : Int32))]))
                  refine own_goW (fun _ ww => XS.iload X457.here hx rfl (hb hby at_421) rfl  ww) ?_
                  show own_GoesW _ _ _ _ _ _ _ (T457.setTop (mkF m 423 #[.val (.int x0), .val (.int x1), .val (.long x2), .second, .val (.int x4), .val (.int x5), .val (.ref at_), .val (.ref b414), .val (.int x8), .val (.int x9), .val (.ref r415), .val (.int (0 : Int32)), .val (.int (0 : Int32))] [(.int (0 : Int32)), (.int (0 : Int32))]))
                  refine own_goW (fun _ ww => XS.icmpNo X457.here hx rfl (hb hby at_423) rfl (teq (by decide : (0 : Int32) = (0 : Int32))).2 ww) ?_
                  show own_GoesW _ _ _ _ _ _ _ (T457.setTop (mkF m 426 #[.val (.int x0), .val (.int x1), .val (.long x2), .second, .val (.int x4), .val (.int x5), .val (.ref at_), .val (.ref b414), .val (.int x8), .val (.int x9), .val (.ref r415), .val (.int (0 : Int32)), .val (.int (0 : Int32))] []))
                  refine own_goW (fun _ ww => XS.iconst X457.here hx rfl (hb hby at_426) ww) ?_
                  show own_GoesW _ _ _ _ _ _ _ (T457.setTop (mkF m 427 #[.val (.int x0), .val (.int x1), .val (.long x2), .second, .val (.int x4), .val (.int x5), .val (.ref at_), .val (.ref b414), .val (.int x8), .val (.int x9), .val (.ref r415), .val (.int (0 : Int32)), .val (.int (0 : Int32))] [(.int (1 : Int32))]))
                  refine own_goW (fun _ ww => XS.goto X457.here hx rfl (pc0 := 427) (pc' := 431) rfl (hb hby at_427) (by decide) (by decide) ww) ?_
                  show own_GoesW _ _ _ _ _ _ _ (T457.setTop (mkF m 431 #[.val (.int x0), .val (.int x1), .val (.long x2), .second, .val (.int x4), .val (.int x5), .val (.ref at_), .val (.ref b414), .val (.int x8), .val (.int x9), .val (.ref r415), .val (.int (0 : Int32)), .val (.int (0 : Int32))] [(.int (1 : Int32))]))
                  exact own_outW X457 hS hk hlk (v := some (.int (1 : Int32))) (fun h => by rw [hret] at h; cases h) (fun fs hr => retOut X457 hx (t := .boolean) hret (by decide) (Or.inl ⟨rfl, by simp, _, rfl⟩) (hb hby at_431) hr) e457 ⟨rfl, N457⟩ (by decide) (by decide)
            ·
              refine own_goW (fun _ ww => XS.icmpYes X422.here hx rfl (pc0 := 353) (pc' := 393) rfl (hb hby at_353) rfl (feq hc423).2 (by decide) (by decide) ww) ?_
              show own_GoesW _ _ _ _ _ _ _ (T422.setTop (mkF m 393 #[.val (.int x0), .val (.int x1), .val (.long x2), .second, .val (.int x4), .val (.int x5), .val (.ref at_), .val (.ref b414), .val (.int x8), .val (.int x9), .val (.ref r415), .unset, .unset] []))
              refine own_goW (fun _ ww => XS.iconst X422.here hx rfl (hb hby at_393) ww) ?_
              show own_GoesW _ _ _ _ _ _ _ (T422.setTop (mkF m 394 #[.val (.int x0), .val (.int x1), .val (.long x2), .second, .val (.int x4), .val (.int x5), .val (.ref at_), .val (.ref b414), .val (.int x8), .val (.int x9), .val (.ref r415), .unset, .unset] [(.int (0 : Int32))]))
              refine own_goW (fun _ ww => XS.istore X422.here hx rfl (hb hby at_394) rfl (l' := #[.val (.int x0), .val (.int x1), .val (.long x2), .second, .val (.int x4), .val (.int x5), .val (.ref at_), .val (.ref b414), .val (.int x8), .val (.int x9), .val (.ref r415), .val (.int (0 : Int32)), .unset]) rfl ww) ?_
              show own_GoesW _ _ _ _ _ _ _ (T422.setTop (mkF m 396 #[.val (.int x0), .val (.int x1), .val (.long x2), .second, .val (.int x4), .val (.int x5), .val (.ref at_), .val (.ref b414), .val (.int x8), .val (.int x9), .val (.ref r415), .val (.int (0 : Int32)), .unset] []))
              rcases hat with ⟨h5, h6⟩ | ⟨h5, h6⟩
              ·
                subst h6
                show own_GoesW _ _ _ _ _ _ _ (T422.setTop (mkF m 396 #[.val (.int x0), .val (.int x1), .val (.long x2), .second, .val (.int x4), .val (.int x5), .val (.ref at_), .val (.ref b414), .val (.int x8), .val (.int x9), .val (.ref r415), .val (.int (0 : Int32)), .unset] []))
                refine own_goW (fun _ ww => XS.iload X422.here hx rfl (hb hby at_396) rfl  ww) ?_
                show own_GoesW _ _ _ _ _ _ _ (T422.setTop (mkF m 398 #[.val (.int x0), .val (.int x1), .val (.long x2), .second, .val (.int x4), .val (.int x5), .val (.ref at_), .val (.ref b414), .val (.int x8), .val (.int x9), .val (.ref r415), .val (.int (0 : Int32)), .unset] [(.int x5)]))
                refine own_goW (fun _ ww => XS.iconst X422.here hx rfl (hb hby at_398) ww) ?_
                show own_GoesW _ _ _ _ _ _ _ (T422.setTop (mkF m 399 #[.val (.int x0), .val (.int x1), .val (.long x2), .second, .val (.int x4), .val (.int x5), .val (.ref at_), .val (.ref b414), .val (.int x8), .val (.int x9), .val (.ref r415), .val (.int (0 : Int32)), .unset] [(.int (3 : Int32)), (.int x5)]))
                refine own_goW (fun _ ww => XS.icmpNo X422.here hx rfl (hb hby at_399) rfl (teq h5).2 ww) ?_
                show own_GoesW _ _ _ _ _ _ _ (T422.setTop (mkF m 402 #[.val (.int x0), .val (.int x1), .val (.long x2), .second, .val (.int x4), .val (.int x5), .val (.ref at_), .val (.ref b414), .val (.int x8), .val (.int x9), .val (.ref r415), .val (.int (0 : Int32)), .unset] []))
                refine own_goW (fun _ ww => XS.iload X422.here hx rfl (hb hby at_402) rfl  ww) ?_
                show own_GoesW _ _ _ _ _ _ _ (T422.setTop (mkF m 404 #[.val (.int x0), .val (.int x1), .val (.long x2), .second, .val (.int x4), .val (.int x5), .val (.ref at_), .val (.ref b414), .val (.int x8), .val (.int x9), .val (.ref r415), .val (.int (0 : Int32)), .unset] [(.int (0 : Int32))]))
                refine own_goW (fun _ ww => XS.ifNo X422.here hx rfl (hb hby at_404) rfl (own_if .ne (teq (by decide : (0 : Int32) = (0 : Int32))).2) ww) ?_
                show own_GoesW _ _ _ _ _ _ _ (T422.setTop (mkF m 407 #[.val (.int x0), .val (.int x1), .val (.long x2), .second, .val (.int x4), .val (.int x5), .val (.ref at_), .val (.ref b414), .val (.int x8), .val (.int x9), .val (.ref r415), .val (.int (0 : Int32)), .unset] []))
                refine own_goW (fun _ ww => XS.iconst X422.here hx rfl (hb hby at_407) ww) ?_
                show own_GoesW _ _ _ _ _ _ _ (T422.setTop (mkF m 408 #[.val (.int x0), .val (.int x1), .val (.long x2), .second, .val (.int x4), .val (.int x5), .val (.ref at_), .val (.ref b414), .val (.int x8), .val (.int x9), .val (.ref r415), .val (.int (0 : Int32)), .unset] [(.int (1 : Int32))]))
                refine own_goW (fun _ ww => XS.goto X422.here hx rfl (pc0 := 408) (pc' := 412) rfl (hb hby at_408) (by decide) (by decide) ww) ?_
                show own_GoesW _ _ _ _ _ _ _ (T422.setTop (mkF m 412 #[.val (.int x0), .val (.int x1), .val (.long x2), .second, .val (.int x4), .val (.int x5), .val (.ref at_), .val (.ref b414), .val (.int x8), .val (.int x9), .val (.ref r415), .val (.int (0 : Int32)), .unset] [(.int (1 : Int32))]))
                refine own_goW (fun _ ww => XS.istore X422.here hx rfl (hb hby at_412) rfl (l' := #[.val (.int x0), .val (.int x1), .val (.long x2), .second, .val (.int x4), .val (.int x5), .val (.ref at_), .val (.ref b414), .val (.int x8), .val (.int x9), .val (.ref r415), .val (.int (0 : Int32)), .val (.int (1 : Int32))]) rfl ww) ?_
                show own_GoesW _ _ _ _ _ _ _ (T422.setTop (mkF m 414 #[.val (.int x0), .val (.int x1), .val (.long x2), .second, .val (.int x4), .val (.int x5), .val (.ref at_), .val (.ref b414), .val (.int x8), .val (.int x9), .val (.ref r415), .val (.int (0 : Int32)), .val (.int (1 : Int32))] []))
                refine own_goW (fun _ ww => XS.aload X422.here hx rfl (hb hby at_414) rfl rfl ww) ?_
                show own_GoesW _ _ _ _ _ _ _ (T422.setTop (mkF m 416 #[.val (.int x0), .val (.int x1), .val (.long x2), .second, .val (.int x4), .val (.int x5), .val (.ref at_), .val (.ref b414), .val (.int x8), .val (.int x9), .val (.ref r415), .val (.int (0 : Int32)), .val (.int (1 : Int32))] [(.ref at_)]))
                refine own_goW (fun _ ww => XS.aload X422.here hx rfl (hb hby at_416) rfl rfl ww) ?_
                show own_GoesW _ _ _ _ _ _ _ (T422.setTop (mkF m 418 #[.val (.int x0), .val (.int x1), .val (.long x2), .second, .val (.int x4), .val (.int x5), .val (.ref at_), .val (.ref b414), .val (.int x8), .val (.int x9), .val (.ref r415), .val (.int (0 : Int32)), .val (.int (1 : Int32))] [(.ref r415), (.ref at_)]))
                obtain ⟨cq458, kq458, q458a, q458b, q458c⟩ := isOf hZ e422 (Eat.ext O415.2)
                obtain ⟨_, _, ⟨T458, L458, k458, n458⟩, -, X458, hS458, hg458, ⟨Lc458, hQ458, l458, y458, z458⟩, st458⟩ := X422.virtualBackS hx (y := (⟨"com/example/izin/izin/Attribute", "defaultFlag", "(Ljava/lang/String;)Z"⟩ : MethodName)) (z := (⟨"com/example/izin/izin/Attribute", "defaultFlag", "(Ljava/lang/String;)Z"⟩ : MethodName)) hown (mvT hZ (hw _ (List.mem_of_getElem? (i := 45) rfl))) (mvT hZ (hw _ (List.mem_of_getElem? (i := 46) rfl))) (notFace_of_selects (args := #[]) (mvT hZ (hw _ (List.mem_of_getElem? (i := 48) rfl)))) (mvT hZ (hw _ (List.mem_of_getElem? (i := 48) rfl))) (mvT hZ (hw _ (List.mem_of_getElem? (i := 47) rfl))) (by decide) (own_backV (W := 0) (rm_dfi l Z a0 hw [] at_ (1 : Int32) zc r415 t415 kb415 ([d0, d1, d2, d3, d4, d5] : List Int32) Nx415 vx415 T415.heap n0 O415 S3 (by intro h; simp_all) (fun _ => rfl) hh88 hcw SC hzc E415q V415q C415q A415q hcs415 hbs415 hls415) hZ (fun _ q => own_IBw q I415q) (hw _ (List.mem_of_getElem? (i := 49) rfl)) (hw _ (List.mem_of_getElem? (i := 2) rfl)) (by decide) (by decide)) q458a q458c (g := (mkF m 418 #[.val (.int x0), .val (.int x1), .val (.long x2), .second, .val (.int x4), .val (.int x5), .val (.ref at_), .val (.ref b414), .val (.int x8), .val (.int x9), .val (.ref r415), .val (.int (0 : Int32)), .val (.int (1 : Int32))] [(.ref r415), (.ref at_)])) rfl (by rw [hml]; rfl) (Steps.refl _) (argsL := [(.ref r415)]) (rest := []) (lenOf pd_6 rfl) rfl (by show 2 * 0 + _ ≤ _; exact Nat.le_of_eq rfl) (hb hby at_418) (fun _ _ => ⟨rfl, e422, (by decide : 5 + 2 ≤ _), (by decide : 28 + 28 ≤ _)⟩)
                dsimp only [Pt.U, Pt.locs, Pt.cells, Pt.slots] at X458 l458 y458 z458 st458 hQ458 hS458 hg458
                subst l458 y458 z458
                obtain ⟨X458, hS, hZ, hown⟩ := rebS hS (show _ ≤ T422.heap.size from (by rw [e422]; exact hk)) X458 hS458 hg458 hZ hown
                obtain ⟨rfl, N458q, K458q⟩ := hQ458
                have N458 := Fr.app N422 N458q
                have hk : T458.heap.size ≤ T458.heap.size := Nat.le_refl _
                have f459 : Arv Z T458.heap b414 k414 .char (8 : Int32) [(.int c0), (.int c1), (.int c2), (.int c3), (.int c4), (.int c5), (.int c6), (.int c7)] (.int (0 : Int32)) := (f416.keep K458q nin0)
                have f460 : Exa Z T458.heap r415 "java/lang/String" := (E415q.keep K458q)
                have f461 : Fld Z T458.heap r415 "java/lang/String" "coder" "B" (.int (0 : Int32)) := (C415q.keep K458q nin0)
                have f462 : Fld Z T458.heap r415 "java/lang/String" "value" "[B" (.ref t415) := (V415q.keep K458q nin0)
                have f463 : Arv Z T458.heap t415 kb415 .byte Nx415 vx415 (.int (0 : Int32)) := (A415q.keep K458q nin0)
                have O458 := O415.keep K458q all0
                refine own_goW (fun _ ww => Steps.trans st458 ww) ?_
                show own_GoesW _ _ _ _ _ _ _ (T458.setTop (mkF m 421 #[.val (.int x0), .val (.int x1), .val (.long x2), .second, .val (.int x4), .val (.int x5), .val (.ref at_), .val (.ref b414), .val (.int x8), .val (.int x9), .val (.ref r415), .val (.int (0 : Int32)), .val (.int (1 : Int32))] [(.int (1 : Int32))]))
                refine own_goW (fun _ ww => XS.iload X458.here hx rfl (hb hby at_421) rfl  ww) ?_
                show own_GoesW _ _ _ _ _ _ _ (T458.setTop (mkF m 423 #[.val (.int x0), .val (.int x1), .val (.long x2), .second, .val (.int x4), .val (.int x5), .val (.ref at_), .val (.ref b414), .val (.int x8), .val (.int x9), .val (.ref r415), .val (.int (0 : Int32)), .val (.int (1 : Int32))] [(.int (1 : Int32)), (.int (1 : Int32))]))
                refine own_goW (fun _ ww => XS.icmpNo X458.here hx rfl (hb hby at_423) rfl (teq (by decide : (1 : Int32) = (1 : Int32))).2 ww) ?_
                show own_GoesW _ _ _ _ _ _ _ (T458.setTop (mkF m 426 #[.val (.int x0), .val (.int x1), .val (.long x2), .second, .val (.int x4), .val (.int x5), .val (.ref at_), .val (.ref b414), .val (.int x8), .val (.int x9), .val (.ref r415), .val (.int (0 : Int32)), .val (.int (1 : Int32))] []))
                refine own_goW (fun _ ww => XS.iconst X458.here hx rfl (hb hby at_426) ww) ?_
                show own_GoesW _ _ _ _ _ _ _ (T458.setTop (mkF m 427 #[.val (.int x0), .val (.int x1), .val (.long x2), .second, .val (.int x4), .val (.int x5), .val (.ref at_), .val (.ref b414), .val (.int x8), .val (.int x9), .val (.ref r415), .val (.int (0 : Int32)), .val (.int (1 : Int32))] [(.int (1 : Int32))]))
                refine own_goW (fun _ ww => XS.goto X458.here hx rfl (pc0 := 427) (pc' := 431) rfl (hb hby at_427) (by decide) (by decide) ww) ?_
                show own_GoesW _ _ _ _ _ _ _ (T458.setTop (mkF m 431 #[.val (.int x0), .val (.int x1), .val (.long x2), .second, .val (.int x4), .val (.int x5), .val (.ref at_), .val (.ref b414), .val (.int x8), .val (.int x9), .val (.ref r415), .val (.int (0 : Int32)), .val (.int (1 : Int32))] [(.int (1 : Int32))]))
                exact own_outW X458 hS hk hlk (v := some (.int (1 : Int32))) (fun h => by rw [hret] at h; cases h) (fun fs hr => retOut X458 hx (t := .boolean) hret (by decide) (Or.inl ⟨rfl, by simp, _, rfl⟩) (hb hby at_431) hr) rfl ⟨rfl, N458⟩ (by decide) (by decide)
              ·
                show own_GoesW _ _ _ _ _ _ _ (T422.setTop (mkF m 396 #[.val (.int x0), .val (.int x1), .val (.long x2), .second, .val (.int x4), .val (.int x5), .val (.ref at_), .val (.ref b414), .val (.int x8), .val (.int x9), .val (.ref r415), .val (.int (0 : Int32)), .unset] []))
                refine own_goW (fun _ ww => XS.iload X422.here hx rfl (hb hby at_396) rfl  ww) ?_
                show own_GoesW _ _ _ _ _ _ _ (T422.setTop (mkF m 398 #[.val (.int x0), .val (.int x1), .val (.long x2), .second, .val (.int x4), .val (.int x5), .val (.ref at_), .val (.ref b414), .val (.int x8), .val (.int x9), .val (.ref r415), .val (.int (0 : Int32)), .unset] [(.int x5)]))
                refine own_goW (fun _ ww => XS.iconst X422.here hx rfl (hb hby at_398) ww) ?_
                show own_GoesW _ _ _ _ _ _ _ (T422.setTop (mkF m 399 #[.val (.int x0), .val (.int x1), .val (.long x2), .second, .val (.int x4), .val (.int x5), .val (.ref at_), .val (.ref b414), .val (.int x8), .val (.int x9), .val (.ref r415), .val (.int (0 : Int32)), .unset] [(.int (3 : Int32)), (.int x5)]))
                refine own_goW (fun _ ww => XS.icmpYes X422.here hx rfl (pc0 := 399) (pc' := 411) rfl (hb hby at_399) rfl (feq h5).2 (by decide) (by decide) ww) ?_
                show own_GoesW _ _ _ _ _ _ _ (T422.setTop (mkF m 411 #[.val (.int x0), .val (.int x1), .val (.long x2), .second, .val (.int x4), .val (.int x5), .val (.ref at_), .val (.ref b414), .val (.int x8), .val (.int x9), .val (.ref r415), .val (.int (0 : Int32)), .unset] []))
                refine own_goW (fun _ ww => XS.iconst X422.here hx rfl (hb hby at_411) ww) ?_
                show own_GoesW _ _ _ _ _ _ _ (T422.setTop (mkF m 412 #[.val (.int x0), .val (.int x1), .val (.long x2), .second, .val (.int x4), .val (.int x5), .val (.ref at_), .val (.ref b414), .val (.int x8), .val (.int x9), .val (.ref r415), .val (.int (0 : Int32)), .unset] [(.int (0 : Int32))]))
                refine own_goW (fun _ ww => XS.istore X422.here hx rfl (hb hby at_412) rfl (l' := #[.val (.int x0), .val (.int x1), .val (.long x2), .second, .val (.int x4), .val (.int x5), .val (.ref at_), .val (.ref b414), .val (.int x8), .val (.int x9), .val (.ref r415), .val (.int (0 : Int32)), .val (.int (0 : Int32))]) rfl ww) ?_
                show own_GoesW _ _ _ _ _ _ _ (T422.setTop (mkF m 414 #[.val (.int x0), .val (.int x1), .val (.long x2), .second, .val (.int x4), .val (.int x5), .val (.ref at_), .val (.ref b414), .val (.int x8), .val (.int x9), .val (.ref r415), .val (.int (0 : Int32)), .val (.int (0 : Int32))] []))
                refine own_goW (fun _ ww => XS.aload X422.here hx rfl (hb hby at_414) rfl rfl ww) ?_
                show own_GoesW _ _ _ _ _ _ _ (T422.setTop (mkF m 416 #[.val (.int x0), .val (.int x1), .val (.long x2), .second, .val (.int x4), .val (.int x5), .val (.ref at_), .val (.ref b414), .val (.int x8), .val (.int x9), .val (.ref r415), .val (.int (0 : Int32)), .val (.int (0 : Int32))] [(.ref at_)]))
                refine own_goW (fun _ ww => XS.aload X422.here hx rfl (hb hby at_416) rfl rfl ww) ?_
                show own_GoesW _ _ _ _ _ _ _ (T422.setTop (mkF m 418 #[.val (.int x0), .val (.int x1), .val (.long x2), .second, .val (.int x4), .val (.int x5), .val (.ref at_), .val (.ref b414), .val (.int x8), .val (.int x9), .val (.ref r415), .val (.int (0 : Int32)), .val (.int (0 : Int32))] [(.ref r415), (.ref at_)]))
                obtain ⟨cq464, kq464, q464a, q464b, q464c⟩ := isOf hZ e422 (Eat.ext O415.2)
                obtain ⟨_, _, ⟨T464, L464, k464, n464⟩, -, X464, ⟨Lc464, hQ464, l464, y464, z464⟩, st464⟩ := X422.virtualBack hx (y := (⟨"com/example/izin/izin/Attribute", "defaultFlag", "(Ljava/lang/String;)Z"⟩ : MethodName)) (z := (⟨"com/example/izin/izin/Attribute", "defaultFlag", "(Ljava/lang/String;)Z"⟩ : MethodName)) hown (mvT hZ (hw _ (List.mem_of_getElem? (i := 45) rfl))) (mvT hZ (hw _ (List.mem_of_getElem? (i := 46) rfl))) (notFace_of_selects (args := #[]) (mvT hZ (hw _ (List.mem_of_getElem? (i := 48) rfl)))) (mvT hZ (hw _ (List.mem_of_getElem? (i := 48) rfl))) (mvT hZ (hw _ (List.mem_of_getElem? (i := 47) rfl))) (by decide) (backOf (W := 0) (rm_dfn l Z a0 hw [] at_ k3 r415 T415.heap n0 O415 S3 h6) hZ (hw _ (List.mem_of_getElem? (i := 49) rfl)) (hw _ (List.mem_of_getElem? (i := 2) rfl)) (by decide) (by decide)) q464a q464c (g := (mkF m 418 #[.val (.int x0), .val (.int x1), .val (.long x2), .second, .val (.int x4), .val (.int x5), .val (.ref at_), .val (.ref b414), .val (.int x8), .val (.int x9), .val (.ref r415), .val (.int (0 : Int32)), .val (.int (0 : Int32))] [(.ref r415), (.ref at_)])) rfl (by rw [hml]; rfl) (Steps.refl _) (argsL := [(.ref r415)]) (rest := []) (lenOf pd_6 rfl) rfl (by show 2 * 0 + _ ≤ _; exact Nat.le_of_eq rfl) (hb hby at_418) (fun _ _ => ⟨rfl, e422, (by decide : 5 + 0 ≤ _), (by decide : 28 + 0 ≤ _)⟩)
                dsimp only [Pt.U, Pt.locs, Pt.cells, Pt.slots] at X464 l464 y464 z464 st464 hQ464
                subst l464 y464 z464
                obtain ⟨rfl, N464q, e464⟩ := hQ464
                have N464 := Fr.app N422 N464q
                refine own_goW (fun _ ww => Steps.trans st464 ww) ?_
                show own_GoesW _ _ _ _ _ _ _ (T464.setTop (mkF m 421 #[.val (.int x0), .val (.int x1), .val (.long x2), .second, .val (.int x4), .val (.int x5), .val (.ref at_), .val (.ref b414), .val (.int x8), .val (.int x9), .val (.ref r415), .val (.int (0 : Int32)), .val (.int (0 : Int32))] [(.int (0 : Int32))]))
                refine own_goW (fun _ ww => XS.iload X464.here hx rfl (hb hby at_421) rfl  ww) ?_
                show own_GoesW _ _ _ _ _ _ _ (T464.setTop (mkF m 423 #[.val (.int x0), .val (.int x1), .val (.long x2), .second, .val (.int x4), .val (.int x5), .val (.ref at_), .val (.ref b414), .val (.int x8), .val (.int x9), .val (.ref r415), .val (.int (0 : Int32)), .val (.int (0 : Int32))] [(.int (0 : Int32)), (.int (0 : Int32))]))
                refine own_goW (fun _ ww => XS.icmpNo X464.here hx rfl (hb hby at_423) rfl (teq (by decide : (0 : Int32) = (0 : Int32))).2 ww) ?_
                show own_GoesW _ _ _ _ _ _ _ (T464.setTop (mkF m 426 #[.val (.int x0), .val (.int x1), .val (.long x2), .second, .val (.int x4), .val (.int x5), .val (.ref at_), .val (.ref b414), .val (.int x8), .val (.int x9), .val (.ref r415), .val (.int (0 : Int32)), .val (.int (0 : Int32))] []))
                refine own_goW (fun _ ww => XS.iconst X464.here hx rfl (hb hby at_426) ww) ?_
                show own_GoesW _ _ _ _ _ _ _ (T464.setTop (mkF m 427 #[.val (.int x0), .val (.int x1), .val (.long x2), .second, .val (.int x4), .val (.int x5), .val (.ref at_), .val (.ref b414), .val (.int x8), .val (.int x9), .val (.ref r415), .val (.int (0 : Int32)), .val (.int (0 : Int32))] [(.int (1 : Int32))]))
                refine own_goW (fun _ ww => XS.goto X464.here hx rfl (pc0 := 427) (pc' := 431) rfl (hb hby at_427) (by decide) (by decide) ww) ?_
                show own_GoesW _ _ _ _ _ _ _ (T464.setTop (mkF m 431 #[.val (.int x0), .val (.int x1), .val (.long x2), .second, .val (.int x4), .val (.int x5), .val (.ref at_), .val (.ref b414), .val (.int x8), .val (.int x9), .val (.ref r415), .val (.int (0 : Int32)), .val (.int (0 : Int32))] [(.int (1 : Int32))]))
                exact own_outW X464 hS hk hlk (v := some (.int (1 : Int32))) (fun h => by rw [hret] at h; cases h) (fun fs hr => retOut X464 hx (t := .boolean) hret (by decide) (Or.inl ⟨rfl, by simp, _, rfl⟩) (hb hby at_431) hr) e464 ⟨rfl, N464⟩ (by decide) (by decide)
          ·
            refine own_goW (fun _ ww => XS.icmpYes X420.here hx rfl (pc0 := 342) (pc' := 393) rfl (hb hby at_342) rfl (feq hc421).2 (by decide) (by decide) ww) ?_
            show own_GoesW _ _ _ _ _ _ _ (T420.setTop (mkF m 393 #[.val (.int x0), .val (.int x1), .val (.long x2), .second, .val (.int x4), .val (.int x5), .val (.ref at_), .val (.ref b414), .val (.int x8), .val (.int x9), .val (.ref r415), .unset, .unset] []))
            refine own_goW (fun _ ww => XS.iconst X420.here hx rfl (hb hby at_393) ww) ?_
            show own_GoesW _ _ _ _ _ _ _ (T420.setTop (mkF m 394 #[.val (.int x0), .val (.int x1), .val (.long x2), .second, .val (.int x4), .val (.int x5), .val (.ref at_), .val (.ref b414), .val (.int x8), .val (.int x9), .val (.ref r415), .unset, .unset] [(.int (0 : Int32))]))
            refine own_goW (fun _ ww => XS.istore X420.here hx rfl (hb hby at_394) rfl (l' := #[.val (.int x0), .val (.int x1), .val (.long x2), .second, .val (.int x4), .val (.int x5), .val (.ref at_), .val (.ref b414), .val (.int x8), .val (.int x9), .val (.ref r415), .val (.int (0 : Int32)), .unset]) rfl ww) ?_
            show own_GoesW _ _ _ _ _ _ _ (T420.setTop (mkF m 396 #[.val (.int x0), .val (.int x1), .val (.long x2), .second, .val (.int x4), .val (.int x5), .val (.ref at_), .val (.ref b414), .val (.int x8), .val (.int x9), .val (.ref r415), .val (.int (0 : Int32)), .unset] []))
            rcases hat with ⟨h5, h6⟩ | ⟨h5, h6⟩
            ·
              subst h6
              show own_GoesW _ _ _ _ _ _ _ (T420.setTop (mkF m 396 #[.val (.int x0), .val (.int x1), .val (.long x2), .second, .val (.int x4), .val (.int x5), .val (.ref at_), .val (.ref b414), .val (.int x8), .val (.int x9), .val (.ref r415), .val (.int (0 : Int32)), .unset] []))
              refine own_goW (fun _ ww => XS.iload X420.here hx rfl (hb hby at_396) rfl  ww) ?_
              show own_GoesW _ _ _ _ _ _ _ (T420.setTop (mkF m 398 #[.val (.int x0), .val (.int x1), .val (.long x2), .second, .val (.int x4), .val (.int x5), .val (.ref at_), .val (.ref b414), .val (.int x8), .val (.int x9), .val (.ref r415), .val (.int (0 : Int32)), .unset] [(.int x5)]))
              refine own_goW (fun _ ww => XS.iconst X420.here hx rfl (hb hby at_398) ww) ?_
              show own_GoesW _ _ _ _ _ _ _ (T420.setTop (mkF m 399 #[.val (.int x0), .val (.int x1), .val (.long x2), .second, .val (.int x4), .val (.int x5), .val (.ref at_), .val (.ref b414), .val (.int x8), .val (.int x9), .val (.ref r415), .val (.int (0 : Int32)), .unset] [(.int (3 : Int32)), (.int x5)]))
              refine own_goW (fun _ ww => XS.icmpNo X420.here hx rfl (hb hby at_399) rfl (teq h5).2 ww) ?_
              show own_GoesW _ _ _ _ _ _ _ (T420.setTop (mkF m 402 #[.val (.int x0), .val (.int x1), .val (.long x2), .second, .val (.int x4), .val (.int x5), .val (.ref at_), .val (.ref b414), .val (.int x8), .val (.int x9), .val (.ref r415), .val (.int (0 : Int32)), .unset] []))
              refine own_goW (fun _ ww => XS.iload X420.here hx rfl (hb hby at_402) rfl  ww) ?_
              show own_GoesW _ _ _ _ _ _ _ (T420.setTop (mkF m 404 #[.val (.int x0), .val (.int x1), .val (.long x2), .second, .val (.int x4), .val (.int x5), .val (.ref at_), .val (.ref b414), .val (.int x8), .val (.int x9), .val (.ref r415), .val (.int (0 : Int32)), .unset] [(.int (0 : Int32))]))
              refine own_goW (fun _ ww => XS.ifNo X420.here hx rfl (hb hby at_404) rfl (own_if .ne (teq (by decide : (0 : Int32) = (0 : Int32))).2) ww) ?_
              show own_GoesW _ _ _ _ _ _ _ (T420.setTop (mkF m 407 #[.val (.int x0), .val (.int x1), .val (.long x2), .second, .val (.int x4), .val (.int x5), .val (.ref at_), .val (.ref b414), .val (.int x8), .val (.int x9), .val (.ref r415), .val (.int (0 : Int32)), .unset] []))
              refine own_goW (fun _ ww => XS.iconst X420.here hx rfl (hb hby at_407) ww) ?_
              show own_GoesW _ _ _ _ _ _ _ (T420.setTop (mkF m 408 #[.val (.int x0), .val (.int x1), .val (.long x2), .second, .val (.int x4), .val (.int x5), .val (.ref at_), .val (.ref b414), .val (.int x8), .val (.int x9), .val (.ref r415), .val (.int (0 : Int32)), .unset] [(.int (1 : Int32))]))
              refine own_goW (fun _ ww => XS.goto X420.here hx rfl (pc0 := 408) (pc' := 412) rfl (hb hby at_408) (by decide) (by decide) ww) ?_
              show own_GoesW _ _ _ _ _ _ _ (T420.setTop (mkF m 412 #[.val (.int x0), .val (.int x1), .val (.long x2), .second, .val (.int x4), .val (.int x5), .val (.ref at_), .val (.ref b414), .val (.int x8), .val (.int x9), .val (.ref r415), .val (.int (0 : Int32)), .unset] [(.int (1 : Int32))]))
              refine own_goW (fun _ ww => XS.istore X420.here hx rfl (hb hby at_412) rfl (l' := #[.val (.int x0), .val (.int x1), .val (.long x2), .second, .val (.int x4), .val (.int x5), .val (.ref at_), .val (.ref b414), .val (.int x8), .val (.int x9), .val (.ref r415), .val (.int (0 : Int32)), .val (.int (1 : Int32))]) rfl ww) ?_
              show own_GoesW _ _ _ _ _ _ _ (T420.setTop (mkF m 414 #[.val (.int x0), .val (.int x1), .val (.long x2), .second, .val (.int x4), .val (.int x5), .val (.ref at_), .val (.ref b414), .val (.int x8), .val (.int x9), .val (.ref r415), .val (.int (0 : Int32)), .val (.int (1 : Int32))] []))
              refine own_goW (fun _ ww => XS.aload X420.here hx rfl (hb hby at_414) rfl rfl ww) ?_
              show own_GoesW _ _ _ _ _ _ _ (T420.setTop (mkF m 416 #[.val (.int x0), .val (.int x1), .val (.long x2), .second, .val (.int x4), .val (.int x5), .val (.ref at_), .val (.ref b414), .val (.int x8), .val (.int x9), .val (.ref r415), .val (.int (0 : Int32)), .val (.int (1 : Int32))] [(.ref at_)]))
              refine own_goW (fun _ ww => XS.aload X420.here hx rfl (hb hby at_416) rfl rfl ww) ?_
              show own_GoesW _ _ _ _ _ _ _ (T420.setTop (mkF m 418 #[.val (.int x0), .val (.int x1), .val (.long x2), .second, .val (.int x4), .val (.int x5), .val (.ref at_), .val (.ref b414), .val (.int x8), .val (.int x9), .val (.ref r415), .val (.int (0 : Int32)), .val (.int (1 : Int32))] [(.ref r415), (.ref at_)]))
              obtain ⟨cq465, kq465, q465a, q465b, q465c⟩ := isOf hZ e420 (Eat.ext O415.2)
              obtain ⟨_, _, ⟨T465, L465, k465, n465⟩, -, X465, hS465, hg465, ⟨Lc465, hQ465, l465, y465, z465⟩, st465⟩ := X420.virtualBackS hx (y := (⟨"com/example/izin/izin/Attribute", "defaultFlag", "(Ljava/lang/String;)Z"⟩ : MethodName)) (z := (⟨"com/example/izin/izin/Attribute", "defaultFlag", "(Ljava/lang/String;)Z"⟩ : MethodName)) hown (mvT hZ (hw _ (List.mem_of_getElem? (i := 45) rfl))) (mvT hZ (hw _ (List.mem_of_getElem? (i := 46) rfl))) (notFace_of_selects (args := #[]) (mvT hZ (hw _ (List.mem_of_getElem? (i := 48) rfl)))) (mvT hZ (hw _ (List.mem_of_getElem? (i := 48) rfl))) (mvT hZ (hw _ (List.mem_of_getElem? (i := 47) rfl))) (by decide) (own_backV (W := 0) (rm_dfi l Z a0 hw [] at_ (1 : Int32) zc r415 t415 kb415 ([d0, d1, d2, d3, d4, d5] : List Int32) Nx415 vx415 T415.heap n0 O415 S3 (by intro h; simp_all) (fun _ => rfl) hh88 hcw SC hzc E415q V415q C415q A415q hcs415 hbs415 hls415) hZ (fun _ q => own_IBw q I415q) (hw _ (List.mem_of_getElem? (i := 49) rfl)) (hw _ (List.mem_of_getElem? (i := 2) rfl)) (by decide) (by decide)) q465a q465c (g := (mkF m 418 #[.val (.int x0), .val (.int x1), .val (.long x2), .second, .val (.int x4), .val (.int x5), .val (.ref at_), .val (.ref b414), .val (.int x8), .val (.int x9), .val (.ref r415), .val (.int (0 : Int32)), .val (.int (1 : Int32))] [(.ref r415), (.ref at_)])) rfl (by rw [hml]; rfl) (Steps.refl _) (argsL := [(.ref r415)]) (rest := []) (lenOf pd_6 rfl) rfl (by show 2 * 0 + _ ≤ _; exact Nat.le_of_eq rfl) (hb hby at_418) (fun _ _ => ⟨rfl, e420, (by decide : 5 + 2 ≤ _), (by decide : 28 + 28 ≤ _)⟩)
              dsimp only [Pt.U, Pt.locs, Pt.cells, Pt.slots] at X465 l465 y465 z465 st465 hQ465 hS465 hg465
              subst l465 y465 z465
              obtain ⟨X465, hS, hZ, hown⟩ := rebS hS (show _ ≤ T420.heap.size from (by rw [e420]; exact hk)) X465 hS465 hg465 hZ hown
              obtain ⟨rfl, N465q, K465q⟩ := hQ465
              have N465 := Fr.app N420 N465q
              have hk : T465.heap.size ≤ T465.heap.size := Nat.le_refl _
              have f466 : Arv Z T465.heap b414 k414 .char (8 : Int32) [(.int c0), (.int c1), (.int c2), (.int c3), (.int c4), (.int c5), (.int c6), (.int c7)] (.int (0 : Int32)) := (f416.keep K465q nin0)
              have f467 : Exa Z T465.heap r415 "java/lang/String" := (E415q.keep K465q)
              have f468 : Fld Z T465.heap r415 "java/lang/String" "coder" "B" (.int (0 : Int32)) := (C415q.keep K465q nin0)
              have f469 : Fld Z T465.heap r415 "java/lang/String" "value" "[B" (.ref t415) := (V415q.keep K465q nin0)
              have f470 : Arv Z T465.heap t415 kb415 .byte Nx415 vx415 (.int (0 : Int32)) := (A415q.keep K465q nin0)
              have O465 := O415.keep K465q all0
              refine own_goW (fun _ ww => Steps.trans st465 ww) ?_
              show own_GoesW _ _ _ _ _ _ _ (T465.setTop (mkF m 421 #[.val (.int x0), .val (.int x1), .val (.long x2), .second, .val (.int x4), .val (.int x5), .val (.ref at_), .val (.ref b414), .val (.int x8), .val (.int x9), .val (.ref r415), .val (.int (0 : Int32)), .val (.int (1 : Int32))] [(.int (1 : Int32))]))
              refine own_goW (fun _ ww => XS.iload X465.here hx rfl (hb hby at_421) rfl  ww) ?_
              show own_GoesW _ _ _ _ _ _ _ (T465.setTop (mkF m 423 #[.val (.int x0), .val (.int x1), .val (.long x2), .second, .val (.int x4), .val (.int x5), .val (.ref at_), .val (.ref b414), .val (.int x8), .val (.int x9), .val (.ref r415), .val (.int (0 : Int32)), .val (.int (1 : Int32))] [(.int (1 : Int32)), (.int (1 : Int32))]))
              refine own_goW (fun _ ww => XS.icmpNo X465.here hx rfl (hb hby at_423) rfl (teq (by decide : (1 : Int32) = (1 : Int32))).2 ww) ?_
              show own_GoesW _ _ _ _ _ _ _ (T465.setTop (mkF m 426 #[.val (.int x0), .val (.int x1), .val (.long x2), .second, .val (.int x4), .val (.int x5), .val (.ref at_), .val (.ref b414), .val (.int x8), .val (.int x9), .val (.ref r415), .val (.int (0 : Int32)), .val (.int (1 : Int32))] []))
              refine own_goW (fun _ ww => XS.iconst X465.here hx rfl (hb hby at_426) ww) ?_
              show own_GoesW _ _ _ _ _ _ _ (T465.setTop (mkF m 427 #[.val (.int x0), .val (.int x1), .val (.long x2), .second, .val (.int x4), .val (.int x5), .val (.ref at_), .val (.ref b414), .val (.int x8), .val (.int x9), .val (.ref r415), .val (.int (0 : Int32)), .val (.int (1 : Int32))] [(.int (1 : Int32))]))
              refine own_goW (fun _ ww => XS.goto X465.here hx rfl (pc0 := 427) (pc' := 431) rfl (hb hby at_427) (by decide) (by decide) ww) ?_
              show own_GoesW _ _ _ _ _ _ _ (T465.setTop (mkF m 431 #[.val (.int x0), .val (.int x1), .val (.long x2), .second, .val (.int x4), .val (.int x5), .val (.ref at_), .val (.ref b414), .val (.int x8), .val (.int x9), .val (.ref r415), .val (.int (0 : Int32)), .val (.int (1 : Int32))] [(.int (1 : Int32))]))
              exact own_outW X465 hS hk hlk (v := some (.int (1 : Int32))) (fun h => by rw [hret] at h; cases h) (fun fs hr => retOut X465 hx (t := .boolean) hret (by decide) (Or.inl ⟨rfl, by simp, _, rfl⟩) (hb hby at_431) hr) rfl ⟨rfl, N465⟩ (by decide) (by decide)
            ·
              show own_GoesW _ _ _ _ _ _ _ (T420.setTop (mkF m 396 #[.val (.int x0), .val (.int x1), .val (.long x2), .second, .val (.int x4), .val (.int x5), .val (.ref at_), .val (.ref b414), .val (.int x8), .val (.int x9), .val (.ref r415), .val (.int (0 : Int32)), .unset] []))
              refine own_goW (fun _ ww => XS.iload X420.here hx rfl (hb hby at_396) rfl  ww) ?_
              show own_GoesW _ _ _ _ _ _ _ (T420.setTop (mkF m 398 #[.val (.int x0), .val (.int x1), .val (.long x2), .second, .val (.int x4), .val (.int x5), .val (.ref at_), .val (.ref b414), .val (.int x8), .val (.int x9), .val (.ref r415), .val (.int (0 : Int32)), .unset] [(.int x5)]))
              refine own_goW (fun _ ww => XS.iconst X420.here hx rfl (hb hby at_398) ww) ?_
              show own_GoesW _ _ _ _ _ _ _ (T420.setTop (mkF m 399 #[.val (.int x0), .val (.int x1), .val (.long x2), .second, .val (.int x4), .val (.int x5), .val (.ref at_), .val (.ref b414), .val (.int x8), .val (.int x9), .val (.ref r415), .val (.int (0 : Int32)), .unset] [(.int (3 : Int32)), (.int x5)]))
              refine own_goW (fun _ ww => XS.icmpYes X420.here hx rfl (pc0 := 399) (pc' := 411) rfl (hb hby at_399) rfl (feq h5).2 (by decide) (by decide) ww) ?_
              show own_GoesW _ _ _ _ _ _ _ (T420.setTop (mkF m 411 #[.val (.int x0), .val (.int x1), .val (.long x2), .second, .val (.int x4), .val (.int x5), .val (.ref at_), .val (.ref b414), .val (.int x8), .val (.int x9), .val (.ref r415), .val (.int (0 : Int32)), .unset] []))
              refine own_goW (fun _ ww => XS.iconst X420.here hx rfl (hb hby at_411) ww) ?_
              show own_GoesW _ _ _ _ _ _ _ (T420.setTop (mkF m 412 #[.val (.int x0), .val (.int x1), .val (.long x2), .second, .val (.int x4), .val (.int x5), .val (.ref at_), .val (.ref b414), .val (.int x8), .val (.int x9), .val (.ref r415), .val (.int (0 : Int32)), .unset] [(.int (0 : Int32))]))
              refine own_goW (fun _ ww => XS.istore X420.here hx rfl (hb hby at_412) rfl (l' := #[.val (.int x0), .val (.int x1), .val (.long x2), .second, .val (.int x4), .val (.int x5), .val (.ref at_), .val (.ref b414), .val (.int x8), .val (.int x9), .val (.ref r415), .val (.int (0 : Int32)), .val (.int (0 : Int32))]) rfl ww) ?_
              show own_GoesW _ _ _ _ _ _ _ (T420.setTop (mkF m 414 #[.val (.int x0), .val (.int x1), .val (.long x2), .second, .val (.int x4), .val (.int x5), .val (.ref at_), .val (.ref b414), .val (.int x8), .val (.int x9), .val (.ref r415), .val (.int (0 : Int32)), .val (.int (0 : Int32))] []))
              refine own_goW (fun _ ww => XS.aload X420.here hx rfl (hb hby at_414) rfl rfl ww) ?_
              show own_GoesW _ _ _ _ _ _ _ (T420.setTop (mkF m 416 #[.val (.int x0), .val (.int x1), .val (.long x2), .second, .val (.int x4), .val (.int x5), .val (.ref at_), .val (.ref b414), .val (.int x8), .val (.int x9), .val (.ref r415), .val (.int (0 : Int32)), .val (.int (0 : Int32))] [(.ref at_)]))
              refine own_goW (fun _ ww => XS.aload X420.here hx rfl (hb hby at_416) rfl rfl ww) ?_
              show own_GoesW _ _ _ _ _ _ _ (T420.setTop (mkF m 418 #[.val (.int x0), .val (.int x1), .val (.long x2), .second, .val (.int x4), .val (.int x5), .val (.ref at_), .val (.ref b414), .val (.int x8), .val (.int x9), .val (.ref r415), .val (.int (0 : Int32)), .val (.int (0 : Int32))] [(.ref r415), (.ref at_)]))
              obtain ⟨cq471, kq471, q471a, q471b, q471c⟩ := isOf hZ e420 (Eat.ext O415.2)
              obtain ⟨_, _, ⟨T471, L471, k471, n471⟩, -, X471, ⟨Lc471, hQ471, l471, y471, z471⟩, st471⟩ := X420.virtualBack hx (y := (⟨"com/example/izin/izin/Attribute", "defaultFlag", "(Ljava/lang/String;)Z"⟩ : MethodName)) (z := (⟨"com/example/izin/izin/Attribute", "defaultFlag", "(Ljava/lang/String;)Z"⟩ : MethodName)) hown (mvT hZ (hw _ (List.mem_of_getElem? (i := 45) rfl))) (mvT hZ (hw _ (List.mem_of_getElem? (i := 46) rfl))) (notFace_of_selects (args := #[]) (mvT hZ (hw _ (List.mem_of_getElem? (i := 48) rfl)))) (mvT hZ (hw _ (List.mem_of_getElem? (i := 48) rfl))) (mvT hZ (hw _ (List.mem_of_getElem? (i := 47) rfl))) (by decide) (backOf (W := 0) (rm_dfn l Z a0 hw [] at_ k3 r415 T415.heap n0 O415 S3 h6) hZ (hw _ (List.mem_of_getElem? (i := 49) rfl)) (hw _ (List.mem_of_getElem? (i := 2) rfl)) (by decide) (by decide)) q471a q471c (g := (mkF m 418 #[.val (.int x0), .val (.int x1), .val (.long x2), .second, .val (.int x4), .val (.int x5), .val (.ref at_), .val (.ref b414), .val (.int x8), .val (.int x9), .val (.ref r415), .val (.int (0 : Int32)), .val (.int (0 : Int32))] [(.ref r415), (.ref at_)])) rfl (by rw [hml]; rfl) (Steps.refl _) (argsL := [(.ref r415)]) (rest := []) (lenOf pd_6 rfl) rfl (by show 2 * 0 + _ ≤ _; exact Nat.le_of_eq rfl) (hb hby at_418) (fun _ _ => ⟨rfl, e420, (by decide : 5 + 0 ≤ _), (by decide : 28 + 0 ≤ _)⟩)
              dsimp only [Pt.U, Pt.locs, Pt.cells, Pt.slots] at X471 l471 y471 z471 st471 hQ471
              subst l471 y471 z471
              obtain ⟨rfl, N471q, e471⟩ := hQ471
              have N471 := Fr.app N420 N471q
              refine own_goW (fun _ ww => Steps.trans st471 ww) ?_
              show own_GoesW _ _ _ _ _ _ _ (T471.setTop (mkF m 421 #[.val (.int x0), .val (.int x1), .val (.long x2), .second, .val (.int x4), .val (.int x5), .val (.ref at_), .val (.ref b414), .val (.int x8), .val (.int x9), .val (.ref r415), .val (.int (0 : Int32)), .val (.int (0 : Int32))] [(.int (0 : Int32))]))
              refine own_goW (fun _ ww => XS.iload X471.here hx rfl (hb hby at_421) rfl  ww) ?_
              show own_GoesW _ _ _ _ _ _ _ (T471.setTop (mkF m 423 #[.val (.int x0), .val (.int x1), .val (.long x2), .second, .val (.int x4), .val (.int x5), .val (.ref at_), .val (.ref b414), .val (.int x8), .val (.int x9), .val (.ref r415), .val (.int (0 : Int32)), .val (.int (0 : Int32))] [(.int (0 : Int32)), (.int (0 : Int32))]))
              refine own_goW (fun _ ww => XS.icmpNo X471.here hx rfl (hb hby at_423) rfl (teq (by decide : (0 : Int32) = (0 : Int32))).2 ww) ?_
              show own_GoesW _ _ _ _ _ _ _ (T471.setTop (mkF m 426 #[.val (.int x0), .val (.int x1), .val (.long x2), .second, .val (.int x4), .val (.int x5), .val (.ref at_), .val (.ref b414), .val (.int x8), .val (.int x9), .val (.ref r415), .val (.int (0 : Int32)), .val (.int (0 : Int32))] []))
              refine own_goW (fun _ ww => XS.iconst X471.here hx rfl (hb hby at_426) ww) ?_
              show own_GoesW _ _ _ _ _ _ _ (T471.setTop (mkF m 427 #[.val (.int x0), .val (.int x1), .val (.long x2), .second, .val (.int x4), .val (.int x5), .val (.ref at_), .val (.ref b414), .val (.int x8), .val (.int x9), .val (.ref r415), .val (.int (0 : Int32)), .val (.int (0 : Int32))] [(.int (1 : Int32))]))
              refine own_goW (fun _ ww => XS.goto X471.here hx rfl (pc0 := 427) (pc' := 431) rfl (hb hby at_427) (by decide) (by decide) ww) ?_
              show own_GoesW _ _ _ _ _ _ _ (T471.setTop (mkF m 431 #[.val (.int x0), .val (.int x1), .val (.long x2), .second, .val (.int x4), .val (.int x5), .val (.ref at_), .val (.ref b414), .val (.int x8), .val (.int x9), .val (.ref r415), .val (.int (0 : Int32)), .val (.int (0 : Int32))] [(.int (1 : Int32))]))
              exact own_outW X471 hS hk hlk (v := some (.int (1 : Int32))) (fun h => by rw [hret] at h; cases h) (fun fs hr => retOut X471 hx (t := .boolean) hret (by decide) (Or.inl ⟨rfl, by simp, _, rfl⟩) (hb hby at_431) hr) e471 ⟨rfl, N471⟩ (by decide) (by decide)
        ·
          refine own_goW (fun _ ww => XS.icmpYes X418.here hx rfl (pc0 := 331) (pc' := 393) rfl (hb hby at_331) rfl (feq hc419).2 (by decide) (by decide) ww) ?_
          show own_GoesW _ _ _ _ _ _ _ (T418.setTop (mkF m 393 #[.val (.int x0), .val (.int x1), .val (.long x2), .second, .val (.int x4), .val (.int x5), .val (.ref at_), .val (.ref b414), .val (.int x8), .val (.int x9), .val (.ref r415), .unset, .unset] []))
          refine own_goW (fun _ ww => XS.iconst X418.here hx rfl (hb hby at_393) ww) ?_
          show own_GoesW _ _ _ _ _ _ _ (T418.setTop (mkF m 394 #[.val (.int x0), .val (.int x1), .val (.long x2), .second, .val (.int x4), .val (.int x5), .val (.ref at_), .val (.ref b414), .val (.int x8), .val (.int x9), .val (.ref r415), .unset, .unset] [(.int (0 : Int32))]))
          refine own_goW (fun _ ww => XS.istore X418.here hx rfl (hb hby at_394) rfl (l' := #[.val (.int x0), .val (.int x1), .val (.long x2), .second, .val (.int x4), .val (.int x5), .val (.ref at_), .val (.ref b414), .val (.int x8), .val (.int x9), .val (.ref r415), .val (.int (0 : Int32)), .unset]) rfl ww) ?_
          show own_GoesW _ _ _ _ _ _ _ (T418.setTop (mkF m 396 #[.val (.int x0), .val (.int x1), .val (.long x2), .second, .val (.int x4), .val (.int x5), .val (.ref at_), .val (.ref b414), .val (.int x8), .val (.int x9), .val (.ref r415), .val (.int (0 : Int32)), .unset] []))
          rcases hat with ⟨h5, h6⟩ | ⟨h5, h6⟩
          ·
            subst h6
            show own_GoesW _ _ _ _ _ _ _ (T418.setTop (mkF m 396 #[.val (.int x0), .val (.int x1), .val (.long x2), .second, .val (.int x4), .val (.int x5), .val (.ref at_), .val (.ref b414), .val (.int x8), .val (.int x9), .val (.ref r415), .val (.int (0 : Int32)), .unset] []))
            refine own_goW (fun _ ww => XS.iload X418.here hx rfl (hb hby at_396) rfl  ww) ?_
            show own_GoesW _ _ _ _ _ _ _ (T418.setTop (mkF m 398 #[.val (.int x0), .val (.int x1), .val (.long x2), .second, .val (.int x4), .val (.int x5), .val (.ref at_), .val (.ref b414), .val (.int x8), .val (.int x9), .val (.ref r415), .val (.int (0 : Int32)), .unset] [(.int x5)]))
            refine own_goW (fun _ ww => XS.iconst X418.here hx rfl (hb hby at_398) ww) ?_
            show own_GoesW _ _ _ _ _ _ _ (T418.setTop (mkF m 399 #[.val (.int x0), .val (.int x1), .val (.long x2), .second, .val (.int x4), .val (.int x5), .val (.ref at_), .val (.ref b414), .val (.int x8), .val (.int x9), .val (.ref r415), .val (.int (0 : Int32)), .unset] [(.int (3 : Int32)), (.int x5)]))
            refine own_goW (fun _ ww => XS.icmpNo X418.here hx rfl (hb hby at_399) rfl (teq h5).2 ww) ?_
            show own_GoesW _ _ _ _ _ _ _ (T418.setTop (mkF m 402 #[.val (.int x0), .val (.int x1), .val (.long x2), .second, .val (.int x4), .val (.int x5), .val (.ref at_), .val (.ref b414), .val (.int x8), .val (.int x9), .val (.ref r415), .val (.int (0 : Int32)), .unset] []))
            refine own_goW (fun _ ww => XS.iload X418.here hx rfl (hb hby at_402) rfl  ww) ?_
            show own_GoesW _ _ _ _ _ _ _ (T418.setTop (mkF m 404 #[.val (.int x0), .val (.int x1), .val (.long x2), .second, .val (.int x4), .val (.int x5), .val (.ref at_), .val (.ref b414), .val (.int x8), .val (.int x9), .val (.ref r415), .val (.int (0 : Int32)), .unset] [(.int (0 : Int32))]))
            refine own_goW (fun _ ww => XS.ifNo X418.here hx rfl (hb hby at_404) rfl (own_if .ne (teq (by decide : (0 : Int32) = (0 : Int32))).2) ww) ?_
            show own_GoesW _ _ _ _ _ _ _ (T418.setTop (mkF m 407 #[.val (.int x0), .val (.int x1), .val (.long x2), .second, .val (.int x4), .val (.int x5), .val (.ref at_), .val (.ref b414), .val (.int x8), .val (.int x9), .val (.ref r415), .val (.int (0 : Int32)), .unset] []))
            refine own_goW (fun _ ww => XS.iconst X418.here hx rfl (hb hby at_407) ww) ?_
            show own_GoesW _ _ _ _ _ _ _ (T418.setTop (mkF m 408 #[.val (.int x0), .val (.int x1), .val (.long x2), .second, .val (.int x4), .val (.int x5), .val (.ref at_), .val (.ref b414), .val (.int x8), .val (.int x9), .val (.ref r415), .val (.int (0 : Int32)), .unset] [(.int (1 : Int32))]))
            refine own_goW (fun _ ww => XS.goto X418.here hx rfl (pc0 := 408) (pc' := 412) rfl (hb hby at_408) (by decide) (by decide) ww) ?_
            show own_GoesW _ _ _ _ _ _ _ (T418.setTop (mkF m 412 #[.val (.int x0), .val (.int x1), .val (.long x2), .second, .val (.int x4), .val (.int x5), .val (.ref at_), .val (.ref b414), .val (.int x8), .val (.int x9), .val (.ref r415), .val (.int (0 : Int32)), .unset] [(.int (1 : Int32))]))
            refine own_goW (fun _ ww => XS.istore X418.here hx rfl (hb hby at_412) rfl (l' := #[.val (.int x0), .val (.int x1), .val (.long x2), .second, .val (.int x4), .val (.int x5), .val (.ref at_), .val (.ref b414), .val (.int x8), .val (.int x9), .val (.ref r415), .val (.int (0 : Int32)), .val (.int (1 : Int32))]) rfl ww) ?_
            show own_GoesW _ _ _ _ _ _ _ (T418.setTop (mkF m 414 #[.val (.int x0), .val (.int x1), .val (.long x2), .second, .val (.int x4), .val (.int x5), .val (.ref at_), .val (.ref b414), .val (.int x8), .val (.int x9), .val (.ref r415), .val (.int (0 : Int32)), .val (.int (1 : Int32))] []))
            refine own_goW (fun _ ww => XS.aload X418.here hx rfl (hb hby at_414) rfl rfl ww) ?_
            show own_GoesW _ _ _ _ _ _ _ (T418.setTop (mkF m 416 #[.val (.int x0), .val (.int x1), .val (.long x2), .second, .val (.int x4), .val (.int x5), .val (.ref at_), .val (.ref b414), .val (.int x8), .val (.int x9), .val (.ref r415), .val (.int (0 : Int32)), .val (.int (1 : Int32))] [(.ref at_)]))
            refine own_goW (fun _ ww => XS.aload X418.here hx rfl (hb hby at_416) rfl rfl ww) ?_
            show own_GoesW _ _ _ _ _ _ _ (T418.setTop (mkF m 418 #[.val (.int x0), .val (.int x1), .val (.long x2), .second, .val (.int x4), .val (.int x5), .val (.ref at_), .val (.ref b414), .val (.int x8), .val (.int x9), .val (.ref r415), .val (.int (0 : Int32)), .val (.int (1 : Int32))] [(.ref r415), (.ref at_)]))
            obtain ⟨cq472, kq472, q472a, q472b, q472c⟩ := isOf hZ e418 (Eat.ext O415.2)
            obtain ⟨_, _, ⟨T472, L472, k472, n472⟩, -, X472, hS472, hg472, ⟨Lc472, hQ472, l472, y472, z472⟩, st472⟩ := X418.virtualBackS hx (y := (⟨"com/example/izin/izin/Attribute", "defaultFlag", "(Ljava/lang/String;)Z"⟩ : MethodName)) (z := (⟨"com/example/izin/izin/Attribute", "defaultFlag", "(Ljava/lang/String;)Z"⟩ : MethodName)) hown (mvT hZ (hw _ (List.mem_of_getElem? (i := 45) rfl))) (mvT hZ (hw _ (List.mem_of_getElem? (i := 46) rfl))) (notFace_of_selects (args := #[]) (mvT hZ (hw _ (List.mem_of_getElem? (i := 48) rfl)))) (mvT hZ (hw _ (List.mem_of_getElem? (i := 48) rfl))) (mvT hZ (hw _ (List.mem_of_getElem? (i := 47) rfl))) (by decide) (own_backV (W := 0) (rm_dfi l Z a0 hw [] at_ (1 : Int32) zc r415 t415 kb415 ([d0, d1, d2, d3, d4, d5] : List Int32) Nx415 vx415 T415.heap n0 O415 S3 (by intro h; simp_all) (fun _ => rfl) hh88 hcw SC hzc E415q V415q C415q A415q hcs415 hbs415 hls415) hZ (fun _ q => own_IBw q I415q) (hw _ (List.mem_of_getElem? (i := 49) rfl)) (hw _ (List.mem_of_getElem? (i := 2) rfl)) (by decide) (by decide)) q472a q472c (g := (mkF m 418 #[.val (.int x0), .val (.int x1), .val (.long x2), .second, .val (.int x4), .val (.int x5), .val (.ref at_), .val (.ref b414), .val (.int x8), .val (.int x9), .val (.ref r415), .val (.int (0 : Int32)), .val (.int (1 : Int32))] [(.ref r415), (.ref at_)])) rfl (by rw [hml]; rfl) (Steps.refl _) (argsL := [(.ref r415)]) (rest := []) (lenOf pd_6 rfl) rfl (by show 2 * 0 + _ ≤ _; exact Nat.le_of_eq rfl) (hb hby at_418) (fun _ _ => ⟨rfl, e418, (by decide : 5 + 2 ≤ _), (by decide : 28 + 28 ≤ _)⟩)
            dsimp only [Pt.U, Pt.locs, Pt.cells, Pt.slots] at X472 l472 y472 z472 st472 hQ472 hS472 hg472
            subst l472 y472 z472
            obtain ⟨X472, hS, hZ, hown⟩ := rebS hS (show _ ≤ T418.heap.size from (by rw [e418]; exact hk)) X472 hS472 hg472 hZ hown
            obtain ⟨rfl, N472q, K472q⟩ := hQ472
            have N472 := Fr.app N418 N472q
            have hk : T472.heap.size ≤ T472.heap.size := Nat.le_refl _
            have f473 : Arv Z T472.heap b414 k414 .char (8 : Int32) [(.int c0), (.int c1), (.int c2), (.int c3), (.int c4), (.int c5), (.int c6), (.int c7)] (.int (0 : Int32)) := (f416.keep K472q nin0)
            have f474 : Exa Z T472.heap r415 "java/lang/String" := (E415q.keep K472q)
            have f475 : Fld Z T472.heap r415 "java/lang/String" "coder" "B" (.int (0 : Int32)) := (C415q.keep K472q nin0)
            have f476 : Fld Z T472.heap r415 "java/lang/String" "value" "[B" (.ref t415) := (V415q.keep K472q nin0)
            have f477 : Arv Z T472.heap t415 kb415 .byte Nx415 vx415 (.int (0 : Int32)) := (A415q.keep K472q nin0)
            have O472 := O415.keep K472q all0
            refine own_goW (fun _ ww => Steps.trans st472 ww) ?_
            show own_GoesW _ _ _ _ _ _ _ (T472.setTop (mkF m 421 #[.val (.int x0), .val (.int x1), .val (.long x2), .second, .val (.int x4), .val (.int x5), .val (.ref at_), .val (.ref b414), .val (.int x8), .val (.int x9), .val (.ref r415), .val (.int (0 : Int32)), .val (.int (1 : Int32))] [(.int (1 : Int32))]))
            refine own_goW (fun _ ww => XS.iload X472.here hx rfl (hb hby at_421) rfl  ww) ?_
            show own_GoesW _ _ _ _ _ _ _ (T472.setTop (mkF m 423 #[.val (.int x0), .val (.int x1), .val (.long x2), .second, .val (.int x4), .val (.int x5), .val (.ref at_), .val (.ref b414), .val (.int x8), .val (.int x9), .val (.ref r415), .val (.int (0 : Int32)), .val (.int (1 : Int32))] [(.int (1 : Int32)), (.int (1 : Int32))]))
            refine own_goW (fun _ ww => XS.icmpNo X472.here hx rfl (hb hby at_423) rfl (teq (by decide : (1 : Int32) = (1 : Int32))).2 ww) ?_
            show own_GoesW _ _ _ _ _ _ _ (T472.setTop (mkF m 426 #[.val (.int x0), .val (.int x1), .val (.long x2), .second, .val (.int x4), .val (.int x5), .val (.ref at_), .val (.ref b414), .val (.int x8), .val (.int x9), .val (.ref r415), .val (.int (0 : Int32)), .val (.int (1 : Int32))] []))
            refine own_goW (fun _ ww => XS.iconst X472.here hx rfl (hb hby at_426) ww) ?_
            show own_GoesW _ _ _ _ _ _ _ (T472.setTop (mkF m 427 #[.val (.int x0), .val (.int x1), .val (.long x2), .second, .val (.int x4), .val (.int x5), .val (.ref at_), .val (.ref b414), .val (.int x8), .val (.int x9), .val (.ref r415), .val (.int (0 : Int32)), .val (.int (1 : Int32))] [(.int (1 : Int32))]))
            refine own_goW (fun _ ww => XS.goto X472.here hx rfl (pc0 := 427) (pc' := 431) rfl (hb hby at_427) (by decide) (by decide) ww) ?_
            show own_GoesW _ _ _ _ _ _ _ (T472.setTop (mkF m 431 #[.val (.int x0), .val (.int x1), .val (.long x2), .second, .val (.int x4), .val (.int x5), .val (.ref at_), .val (.ref b414), .val (.int x8), .val (.int x9), .val (.ref r415), .val (.int (0 : Int32)), .val (.int (1 : Int32))] [(.int (1 : Int32))]))
            exact own_outW X472 hS hk hlk (v := some (.int (1 : Int32))) (fun h => by rw [hret] at h; cases h) (fun fs hr => retOut X472 hx (t := .boolean) hret (by decide) (Or.inl ⟨rfl, by simp, _, rfl⟩) (hb hby at_431) hr) rfl ⟨rfl, N472⟩ (by decide) (by decide)
          ·
            show own_GoesW _ _ _ _ _ _ _ (T418.setTop (mkF m 396 #[.val (.int x0), .val (.int x1), .val (.long x2), .second, .val (.int x4), .val (.int x5), .val (.ref at_), .val (.ref b414), .val (.int x8), .val (.int x9), .val (.ref r415), .val (.int (0 : Int32)), .unset] []))
            refine own_goW (fun _ ww => XS.iload X418.here hx rfl (hb hby at_396) rfl  ww) ?_
            show own_GoesW _ _ _ _ _ _ _ (T418.setTop (mkF m 398 #[.val (.int x0), .val (.int x1), .val (.long x2), .second, .val (.int x4), .val (.int x5), .val (.ref at_), .val (.ref b414), .val (.int x8), .val (.int x9), .val (.ref r415), .val (.int (0 : Int32)), .unset] [(.int x5)]))
            refine own_goW (fun _ ww => XS.iconst X418.here hx rfl (hb hby at_398) ww) ?_
            show own_GoesW _ _ _ _ _ _ _ (T418.setTop (mkF m 399 #[.val (.int x0), .val (.int x1), .val (.long x2), .second, .val (.int x4), .val (.int x5), .val (.ref at_), .val (.ref b414), .val (.int x8), .val (.int x9), .val (.ref r415), .val (.int (0 : Int32)), .unset] [(.int (3 : Int32)), (.int x5)]))
            refine own_goW (fun _ ww => XS.icmpYes X418.here hx rfl (pc0 := 399) (pc' := 411) rfl (hb hby at_399) rfl (feq h5).2 (by decide) (by decide) ww) ?_
            show own_GoesW _ _ _ _ _ _ _ (T418.setTop (mkF m 411 #[.val (.int x0), .val (.int x1), .val (.long x2), .second, .val (.int x4), .val (.int x5), .val (.ref at_), .val (.ref b414), .val (.int x8), .val (.int x9), .val (.ref r415), .val (.int (0 : Int32)), .unset] []))
            refine own_goW (fun _ ww => XS.iconst X418.here hx rfl (hb hby at_411) ww) ?_
            show own_GoesW _ _ _ _ _ _ _ (T418.setTop (mkF m 412 #[.val (.int x0), .val (.int x1), .val (.long x2), .second, .val (.int x4), .val (.int x5), .val (.ref at_), .val (.ref b414), .val (.int x8), .val (.int x9), .val (.ref r415), .val (.int (0 : Int32)), .unset] [(.int (0 : Int32))]))
            refine own_goW (fun _ ww => XS.istore X418.here hx rfl (hb hby at_412) rfl (l' := #[.val (.int x0), .val (.int x1), .val (.long x2), .second, .val (.int x4), .val (.int x5), .val (.ref at_), .val (.ref b414), .val (.int x8), .val (.int x9), .val (.ref r415), .val (.int (0 : Int32)), .val (.int (0 : Int32))]) rfl ww) ?_
            show own_GoesW _ _ _ _ _ _ _ (T418.setTop (mkF m 414 #[.val (.int x0), .val (.int x1), .val (.long x2), .second, .val (.int x4), .val (.int x5), .val (.ref at_), .val (.ref b414), .val (.int x8), .val (.int x9), .val (.ref r415), .val (.int (0 : Int32)), .val (.int (0 : Int32))] []))
            refine own_goW (fun _ ww => XS.aload X418.here hx rfl (hb hby at_414) rfl rfl ww) ?_
            show own_GoesW _ _ _ _ _ _ _ (T418.setTop (mkF m 416 #[.val (.int x0), .val (.int x1), .val (.long x2), .second, .val (.int x4), .val (.int x5), .val (.ref at_), .val (.ref b414), .val (.int x8), .val (.int x9), .val (.ref r415), .val (.int (0 : Int32)), .val (.int (0 : Int32))] [(.ref at_)]))
            refine own_goW (fun _ ww => XS.aload X418.here hx rfl (hb hby at_416) rfl rfl ww) ?_
            show own_GoesW _ _ _ _ _ _ _ (T418.setTop (mkF m 418 #[.val (.int x0), .val (.int x1), .val (.long x2), .second, .val (.int x4), .val (.int x5), .val (.ref at_), .val (.ref b414), .val (.int x8), .val (.int x9), .val (.ref r415), .val (.int (0 : Int32)), .val (.int (0 : Int32))] [(.ref r415), (.ref at_)]))
            obtain ⟨cq478, kq478, q478a, q478b, q478c⟩ := isOf hZ e418 (Eat.ext O415.2)
            obtain ⟨_, _, ⟨T478, L478, k478, n478⟩, -, X478, ⟨Lc478, hQ478, l478, y478, z478⟩, st478⟩ := X418.virtualBack hx (y := (⟨"com/example/izin/izin/Attribute", "defaultFlag", "(Ljava/lang/String;)Z"⟩ : MethodName)) (z := (⟨"com/example/izin/izin/Attribute", "defaultFlag", "(Ljava/lang/String;)Z"⟩ : MethodName)) hown (mvT hZ (hw _ (List.mem_of_getElem? (i := 45) rfl))) (mvT hZ (hw _ (List.mem_of_getElem? (i := 46) rfl))) (notFace_of_selects (args := #[]) (mvT hZ (hw _ (List.mem_of_getElem? (i := 48) rfl)))) (mvT hZ (hw _ (List.mem_of_getElem? (i := 48) rfl))) (mvT hZ (hw _ (List.mem_of_getElem? (i := 47) rfl))) (by decide) (backOf (W := 0) (rm_dfn l Z a0 hw [] at_ k3 r415 T415.heap n0 O415 S3 h6) hZ (hw _ (List.mem_of_getElem? (i := 49) rfl)) (hw _ (List.mem_of_getElem? (i := 2) rfl)) (by decide) (by decide)) q478a q478c (g := (mkF m 418 #[.val (.int x0), .val (.int x1), .val (.long x2), .second, .val (.int x4), .val (.int x5), .val (.ref at_), .val (.ref b414), .val (.int x8), .val (.int x9), .val (.ref r415), .val (.int (0 : Int32)), .val (.int (0 : Int32))] [(.ref r415), (.ref at_)])) rfl (by rw [hml]; rfl) (Steps.refl _) (argsL := [(.ref r415)]) (rest := []) (lenOf pd_6 rfl) rfl (by show 2 * 0 + _ ≤ _; exact Nat.le_of_eq rfl) (hb hby at_418) (fun _ _ => ⟨rfl, e418, (by decide : 5 + 0 ≤ _), (by decide : 28 + 0 ≤ _)⟩)
            dsimp only [Pt.U, Pt.locs, Pt.cells, Pt.slots] at X478 l478 y478 z478 st478 hQ478
            subst l478 y478 z478
            obtain ⟨rfl, N478q, e478⟩ := hQ478
            have N478 := Fr.app N418 N478q
            refine own_goW (fun _ ww => Steps.trans st478 ww) ?_
            show own_GoesW _ _ _ _ _ _ _ (T478.setTop (mkF m 421 #[.val (.int x0), .val (.int x1), .val (.long x2), .second, .val (.int x4), .val (.int x5), .val (.ref at_), .val (.ref b414), .val (.int x8), .val (.int x9), .val (.ref r415), .val (.int (0 : Int32)), .val (.int (0 : Int32))] [(.int (0 : Int32))]))
            refine own_goW (fun _ ww => XS.iload X478.here hx rfl (hb hby at_421) rfl  ww) ?_
            show own_GoesW _ _ _ _ _ _ _ (T478.setTop (mkF m 423 #[.val (.int x0), .val (.int x1), .val (.long x2), .second, .val (.int x4), .val (.int x5), .val (.ref at_), .val (.ref b414), .val (.int x8), .val (.int x9), .val (.ref r415), .val (.int (0 : Int32)), .val (.int (0 : Int32))] [(.int (0 : Int32)), (.int (0 : Int32))]))
            refine own_goW (fun _ ww => XS.icmpNo X478.here hx rfl (hb hby at_423) rfl (teq (by decide : (0 : Int32) = (0 : Int32))).2 ww) ?_
            show own_GoesW _ _ _ _ _ _ _ (T478.setTop (mkF m 426 #[.val (.int x0), .val (.int x1), .val (.long x2), .second, .val (.int x4), .val (.int x5), .val (.ref at_), .val (.ref b414), .val (.int x8), .val (.int x9), .val (.ref r415), .val (.int (0 : Int32)), .val (.int (0 : Int32))] []))
            refine own_goW (fun _ ww => XS.iconst X478.here hx rfl (hb hby at_426) ww) ?_
            show own_GoesW _ _ _ _ _ _ _ (T478.setTop (mkF m 427 #[.val (.int x0), .val (.int x1), .val (.long x2), .second, .val (.int x4), .val (.int x5), .val (.ref at_), .val (.ref b414), .val (.int x8), .val (.int x9), .val (.ref r415), .val (.int (0 : Int32)), .val (.int (0 : Int32))] [(.int (1 : Int32))]))
            refine own_goW (fun _ ww => XS.goto X478.here hx rfl (pc0 := 427) (pc' := 431) rfl (hb hby at_427) (by decide) (by decide) ww) ?_
            show own_GoesW _ _ _ _ _ _ _ (T478.setTop (mkF m 431 #[.val (.int x0), .val (.int x1), .val (.long x2), .second, .val (.int x4), .val (.int x5), .val (.ref at_), .val (.ref b414), .val (.int x8), .val (.int x9), .val (.ref r415), .val (.int (0 : Int32)), .val (.int (0 : Int32))] [(.int (1 : Int32))]))
            exact own_outW X478 hS hk hlk (v := some (.int (1 : Int32))) (fun h => by rw [hret] at h; cases h) (fun fs hr => retOut X478 hx (t := .boolean) hret (by decide) (Or.inl ⟨rfl, by simp, _, rfl⟩) (hb hby at_431) hr) e478 ⟨rfl, N478⟩ (by decide) (by decide)
      ·
        show own_GoesW _ _ _ _ _ _ _ (T415.setTop (mkF m 313 #[.val (.int x0), .val (.int x1), .val (.long x2), .second, .val (.int x4), .val (.int x5), .val (.ref at_), .val (.ref b414), .val (.int x8), .val (.int x9), .val (.ref r415), .unset, .unset] []))
        refine own_goW (fun _ ww => XS.aload X415.here hx rfl (hb hby at_313) rfl rfl ww) ?_
        show own_GoesW _ _ _ _ _ _ _ (T415.setTop (mkF m 315 #[.val (.int x0), .val (.int x1), .val (.long x2), .second, .val (.int x4), .val (.int x5), .val (.ref at_), .val (.ref b414), .val (.int x8), .val (.int x9), .val (.ref r415), .unset, .unset] [(.ref r415)]))
        obtain ⟨cq479, kq479, q479a, q479b, q479c⟩ := isOf hZ rfl E415q
        obtain ⟨_, _, ⟨T479, L479, k479, n479⟩, -, X479, ⟨Lc479, hQ479, l479, y479, z479⟩, st479⟩ := X415.virtualBack hx (y := (⟨"java/lang/String", "length", "()I"⟩ : MethodName)) (z := (⟨"java/lang/String", "length", "()I"⟩ : MethodName)) hown (mvT hZ (hw _ (List.mem_of_getElem? (i := 34) rfl))) (mvT hZ (hw _ (List.mem_of_getElem? (i := 35) rfl))) (notFace_of_selects (args := #[]) (mvT hZ (hw _ (List.mem_of_getElem? (i := 37) rfl)))) (mvT hZ (hw _ (List.mem_of_getElem? (i := 37) rfl))) (mvT hZ (hw _ (List.mem_of_getElem? (i := 36) rfl))) (by decide) (StrChars.Road.lenW (W := 0) hZ (own_wordsLen hw) (kI := 4) (hw _ (List.mem_of_getElem? (i := 14) rfl)) E415q V415q C415q A415q hcs415 hbs415 (SC.ext O415.2) hzc hls415 (by decide) (by decide)) q479a q479c (g := (mkF m 315 #[.val (.int x0), .val (.int x1), .val (.long x2), .second, .val (.int x4), .val (.int x5), .val (.ref at_), .val (.ref b414), .val (.int x8), .val (.int x9), .val (.ref r415), .unset, .unset] [(.ref r415)])) rfl (by rw [hml]; rfl) (Steps.refl _) (argsL := []) (rest := []) (lenOf pd_4 rfl) rfl (by show 2 * 0 + _ ≤ _; exact Nat.le_of_eq rfl) (hb hby at_315) (fun _ _ => ⟨rfl, rfl, (by decide : 5 + 0 ≤ _), (by decide : 28 + 0 ≤ _)⟩)
        dsimp only [Pt.U, Pt.locs, Pt.cells, Pt.slots] at X479 l479 y479 z479 st479 hQ479
        subst l479 y479 z479
        obtain ⟨rfl, rfl, e479⟩ := hQ479
        have N479 := Fr.app N415 (Fr.nil n0)
        refine own_goW (fun _ ww => Steps.trans st479 ww) ?_
        show own_GoesW _ _ _ _ _ _ _ (T479.setTop (mkF m 318 #[.val (.int x0), .val (.int x1), .val (.long x2), .second, .val (.int x4), .val (.int x5), .val (.ref at_), .val (.ref b414), .val (.int x8), .val (.int x9), .val (.ref r415), .unset, .unset] [(.int (Int32.ofNat cs415.length))]))
        refine own_goW (fun _ ww => XS.bipush X479.here hx rfl (hb hby at_318) ww) ?_
        show own_GoesW _ _ _ _ _ _ _ (T479.setTop (mkF m 320 #[.val (.int x0), .val (.int x1), .val (.long x2), .second, .val (.int x4), .val (.int x5), .val (.ref at_), .val (.ref b414), .val (.int x8), .val (.int x9), .val (.ref r415), .unset, .unset] [(.int (6 : Int32)), (.int (Int32.ofNat cs415.length))]))
        refine own_goW (fun _ ww => XS.icmpYes X479.here hx rfl (pc0 := 320) (pc' := 393) rfl (hb hby at_320) rfl (feq hn6).2 (by decide) (by decide) ww) ?_
        show own_GoesW _ _ _ _ _ _ _ (T479.setTop (mkF m 393 #[.val (.int x0), .val (.int x1), .val (.long x2), .second, .val (.int x4), .val (.int x5), .val (.ref at_), .val (.ref b414), .val (.int x8), .val (.int x9), .val (.ref r415), .unset, .unset] []))
        refine own_goW (fun _ ww => XS.iconst X479.here hx rfl (hb hby at_393) ww) ?_
        show own_GoesW _ _ _ _ _ _ _ (T479.setTop (mkF m 394 #[.val (.int x0), .val (.int x1), .val (.long x2), .second, .val (.int x4), .val (.int x5), .val (.ref at_), .val (.ref b414), .val (.int x8), .val (.int x9), .val (.ref r415), .unset, .unset] [(.int (0 : Int32))]))
        refine own_goW (fun _ ww => XS.istore X479.here hx rfl (hb hby at_394) rfl (l' := #[.val (.int x0), .val (.int x1), .val (.long x2), .second, .val (.int x4), .val (.int x5), .val (.ref at_), .val (.ref b414), .val (.int x8), .val (.int x9), .val (.ref r415), .val (.int (0 : Int32)), .unset]) rfl ww) ?_
        show own_GoesW _ _ _ _ _ _ _ (T479.setTop (mkF m 396 #[.val (.int x0), .val (.int x1), .val (.long x2), .second, .val (.int x4), .val (.int x5), .val (.ref at_), .val (.ref b414), .val (.int x8), .val (.int x9), .val (.ref r415), .val (.int (0 : Int32)), .unset] []))
        rcases hat with ⟨h5, h6⟩ | ⟨h5, h6⟩
        ·
          subst h6
          show own_GoesW _ _ _ _ _ _ _ (T479.setTop (mkF m 396 #[.val (.int x0), .val (.int x1), .val (.long x2), .second, .val (.int x4), .val (.int x5), .val (.ref at_), .val (.ref b414), .val (.int x8), .val (.int x9), .val (.ref r415), .val (.int (0 : Int32)), .unset] []))
          refine own_goW (fun _ ww => XS.iload X479.here hx rfl (hb hby at_396) rfl  ww) ?_
          show own_GoesW _ _ _ _ _ _ _ (T479.setTop (mkF m 398 #[.val (.int x0), .val (.int x1), .val (.long x2), .second, .val (.int x4), .val (.int x5), .val (.ref at_), .val (.ref b414), .val (.int x8), .val (.int x9), .val (.ref r415), .val (.int (0 : Int32)), .unset] [(.int x5)]))
          refine own_goW (fun _ ww => XS.iconst X479.here hx rfl (hb hby at_398) ww) ?_
          show own_GoesW _ _ _ _ _ _ _ (T479.setTop (mkF m 399 #[.val (.int x0), .val (.int x1), .val (.long x2), .second, .val (.int x4), .val (.int x5), .val (.ref at_), .val (.ref b414), .val (.int x8), .val (.int x9), .val (.ref r415), .val (.int (0 : Int32)), .unset] [(.int (3 : Int32)), (.int x5)]))
          refine own_goW (fun _ ww => XS.icmpNo X479.here hx rfl (hb hby at_399) rfl (teq h5).2 ww) ?_
          show own_GoesW _ _ _ _ _ _ _ (T479.setTop (mkF m 402 #[.val (.int x0), .val (.int x1), .val (.long x2), .second, .val (.int x4), .val (.int x5), .val (.ref at_), .val (.ref b414), .val (.int x8), .val (.int x9), .val (.ref r415), .val (.int (0 : Int32)), .unset] []))
          refine own_goW (fun _ ww => XS.iload X479.here hx rfl (hb hby at_402) rfl  ww) ?_
          show own_GoesW _ _ _ _ _ _ _ (T479.setTop (mkF m 404 #[.val (.int x0), .val (.int x1), .val (.long x2), .second, .val (.int x4), .val (.int x5), .val (.ref at_), .val (.ref b414), .val (.int x8), .val (.int x9), .val (.ref r415), .val (.int (0 : Int32)), .unset] [(.int (0 : Int32))]))
          refine own_goW (fun _ ww => XS.ifNo X479.here hx rfl (hb hby at_404) rfl (own_if .ne (teq (by decide : (0 : Int32) = (0 : Int32))).2) ww) ?_
          show own_GoesW _ _ _ _ _ _ _ (T479.setTop (mkF m 407 #[.val (.int x0), .val (.int x1), .val (.long x2), .second, .val (.int x4), .val (.int x5), .val (.ref at_), .val (.ref b414), .val (.int x8), .val (.int x9), .val (.ref r415), .val (.int (0 : Int32)), .unset] []))
          refine own_goW (fun _ ww => XS.iconst X479.here hx rfl (hb hby at_407) ww) ?_
          show own_GoesW _ _ _ _ _ _ _ (T479.setTop (mkF m 408 #[.val (.int x0), .val (.int x1), .val (.long x2), .second, .val (.int x4), .val (.int x5), .val (.ref at_), .val (.ref b414), .val (.int x8), .val (.int x9), .val (.ref r415), .val (.int (0 : Int32)), .unset] [(.int (1 : Int32))]))
          refine own_goW (fun _ ww => XS.goto X479.here hx rfl (pc0 := 408) (pc' := 412) rfl (hb hby at_408) (by decide) (by decide) ww) ?_
          show own_GoesW _ _ _ _ _ _ _ (T479.setTop (mkF m 412 #[.val (.int x0), .val (.int x1), .val (.long x2), .second, .val (.int x4), .val (.int x5), .val (.ref at_), .val (.ref b414), .val (.int x8), .val (.int x9), .val (.ref r415), .val (.int (0 : Int32)), .unset] [(.int (1 : Int32))]))
          refine own_goW (fun _ ww => XS.istore X479.here hx rfl (hb hby at_412) rfl (l' := #[.val (.int x0), .val (.int x1), .val (.long x2), .second, .val (.int x4), .val (.int x5), .val (.ref at_), .val (.ref b414), .val (.int x8), .val (.int x9), .val (.ref r415), .val (.int (0 : Int32)), .val (.int (1 : Int32))]) rfl ww) ?_
          show own_GoesW _ _ _ _ _ _ _ (T479.setTop (mkF m 414 #[.val (.int x0), .val (.int x1), .val (.long x2), .second, .val (.int x4), .val (.int x5), .val (.ref at_), .val (.ref b414), .val (.int x8), .val (.int x9), .val (.ref r415), .val (.int (0 : Int32)), .val (.int (1 : Int32))] []))
          refine own_goW (fun _ ww => XS.aload X479.here hx rfl (hb hby at_414) rfl rfl ww) ?_
          show own_GoesW _ _ _ _ _ _ _ (T479.setTop (mkF m 416 #[.val (.int x0), .val (.int x1), .val (.long x2), .second, .val (.int x4), .val (.int x5), .val (.ref at_), .val (.ref b414), .val (.int x8), .val (.int x9), .val (.ref r415), .val (.int (0 : Int32)), .val (.int (1 : Int32))] [(.ref at_)]))
          refine own_goW (fun _ ww => XS.aload X479.here hx rfl (hb hby at_416) rfl rfl ww) ?_
          show own_GoesW _ _ _ _ _ _ _ (T479.setTop (mkF m 418 #[.val (.int x0), .val (.int x1), .val (.long x2), .second, .val (.int x4), .val (.int x5), .val (.ref at_), .val (.ref b414), .val (.int x8), .val (.int x9), .val (.ref r415), .val (.int (0 : Int32)), .val (.int (1 : Int32))] [(.ref r415), (.ref at_)]))
          obtain ⟨cq480, kq480, q480a, q480b, q480c⟩ := isOf hZ e479 (Eat.ext O415.2)
          obtain ⟨_, _, ⟨T480, L480, k480, n480⟩, -, X480, hS480, hg480, ⟨Lc480, hQ480, l480, y480, z480⟩, st480⟩ := X479.virtualBackS hx (y := (⟨"com/example/izin/izin/Attribute", "defaultFlag", "(Ljava/lang/String;)Z"⟩ : MethodName)) (z := (⟨"com/example/izin/izin/Attribute", "defaultFlag", "(Ljava/lang/String;)Z"⟩ : MethodName)) hown (mvT hZ (hw _ (List.mem_of_getElem? (i := 45) rfl))) (mvT hZ (hw _ (List.mem_of_getElem? (i := 46) rfl))) (notFace_of_selects (args := #[]) (mvT hZ (hw _ (List.mem_of_getElem? (i := 48) rfl)))) (mvT hZ (hw _ (List.mem_of_getElem? (i := 48) rfl))) (mvT hZ (hw _ (List.mem_of_getElem? (i := 47) rfl))) (by decide) (own_backV (W := 0) (rm_dfi l Z a0 hw [] at_ (1 : Int32) zc r415 t415 kb415 cs415 Nx415 vx415 T415.heap n0 O415 S3 (fun q => absurd q hnp) (fun _ => rfl) hh88 hcw SC hzc E415q V415q C415q A415q hcs415 hbs415 hls415) hZ (fun _ q => own_IBw q I415q) (hw _ (List.mem_of_getElem? (i := 49) rfl)) (hw _ (List.mem_of_getElem? (i := 2) rfl)) (by decide) (by decide)) q480a q480c (g := (mkF m 418 #[.val (.int x0), .val (.int x1), .val (.long x2), .second, .val (.int x4), .val (.int x5), .val (.ref at_), .val (.ref b414), .val (.int x8), .val (.int x9), .val (.ref r415), .val (.int (0 : Int32)), .val (.int (1 : Int32))] [(.ref r415), (.ref at_)])) rfl (by rw [hml]; rfl) (Steps.refl _) (argsL := [(.ref r415)]) (rest := []) (lenOf pd_6 rfl) rfl (by show 2 * 0 + _ ≤ _; exact Nat.le_of_eq rfl) (hb hby at_418) (fun _ _ => ⟨rfl, e479, (by decide : 5 + 2 ≤ _), (by decide : 28 + 28 ≤ _)⟩)
          dsimp only [Pt.U, Pt.locs, Pt.cells, Pt.slots] at X480 l480 y480 z480 st480 hQ480 hS480 hg480
          subst l480 y480 z480
          obtain ⟨X480, hS, hZ, hown⟩ := rebS hS (show _ ≤ T479.heap.size from (by rw [e479]; exact hk)) X480 hS480 hg480 hZ hown
          obtain ⟨rfl, N480q, K480q⟩ := hQ480
          have N480 := Fr.app N479 N480q
          have hk : T480.heap.size ≤ T480.heap.size := Nat.le_refl _
          have f481 : Arv Z T480.heap b414 k414 .char (8 : Int32) [(.int c0), (.int c1), (.int c2), (.int c3), (.int c4), (.int c5), (.int c6), (.int c7)] (.int (0 : Int32)) := (f416.keep K480q nin0)
          have f482 : Exa Z T480.heap r415 "java/lang/String" := (E415q.keep K480q)
          have f483 : Fld Z T480.heap r415 "java/lang/String" "coder" "B" (.int (0 : Int32)) := (C415q.keep K480q nin0)
          have f484 : Fld Z T480.heap r415 "java/lang/String" "value" "[B" (.ref t415) := (V415q.keep K480q nin0)
          have f485 : Arv Z T480.heap t415 kb415 .byte Nx415 vx415 (.int (0 : Int32)) := (A415q.keep K480q nin0)
          have O480 := O415.keep K480q all0
          refine own_goW (fun _ ww => Steps.trans st480 ww) ?_
          show own_GoesW _ _ _ _ _ _ _ (T480.setTop (mkF m 421 #[.val (.int x0), .val (.int x1), .val (.long x2), .second, .val (.int x4), .val (.int x5), .val (.ref at_), .val (.ref b414), .val (.int x8), .val (.int x9), .val (.ref r415), .val (.int (0 : Int32)), .val (.int (1 : Int32))] [(.int (1 : Int32))]))
          refine own_goW (fun _ ww => XS.iload X480.here hx rfl (hb hby at_421) rfl  ww) ?_
          show own_GoesW _ _ _ _ _ _ _ (T480.setTop (mkF m 423 #[.val (.int x0), .val (.int x1), .val (.long x2), .second, .val (.int x4), .val (.int x5), .val (.ref at_), .val (.ref b414), .val (.int x8), .val (.int x9), .val (.ref r415), .val (.int (0 : Int32)), .val (.int (1 : Int32))] [(.int (1 : Int32)), (.int (1 : Int32))]))
          refine own_goW (fun _ ww => XS.icmpNo X480.here hx rfl (hb hby at_423) rfl (teq (by decide : (1 : Int32) = (1 : Int32))).2 ww) ?_
          show own_GoesW _ _ _ _ _ _ _ (T480.setTop (mkF m 426 #[.val (.int x0), .val (.int x1), .val (.long x2), .second, .val (.int x4), .val (.int x5), .val (.ref at_), .val (.ref b414), .val (.int x8), .val (.int x9), .val (.ref r415), .val (.int (0 : Int32)), .val (.int (1 : Int32))] []))
          refine own_goW (fun _ ww => XS.iconst X480.here hx rfl (hb hby at_426) ww) ?_
          show own_GoesW _ _ _ _ _ _ _ (T480.setTop (mkF m 427 #[.val (.int x0), .val (.int x1), .val (.long x2), .second, .val (.int x4), .val (.int x5), .val (.ref at_), .val (.ref b414), .val (.int x8), .val (.int x9), .val (.ref r415), .val (.int (0 : Int32)), .val (.int (1 : Int32))] [(.int (1 : Int32))]))
          refine own_goW (fun _ ww => XS.goto X480.here hx rfl (pc0 := 427) (pc' := 431) rfl (hb hby at_427) (by decide) (by decide) ww) ?_
          show own_GoesW _ _ _ _ _ _ _ (T480.setTop (mkF m 431 #[.val (.int x0), .val (.int x1), .val (.long x2), .second, .val (.int x4), .val (.int x5), .val (.ref at_), .val (.ref b414), .val (.int x8), .val (.int x9), .val (.ref r415), .val (.int (0 : Int32)), .val (.int (1 : Int32))] [(.int (1 : Int32))]))
          exact own_outW X480 hS hk hlk (v := some (.int (1 : Int32))) (fun h => by rw [hret] at h; cases h) (fun fs hr => retOut X480 hx (t := .boolean) hret (by decide) (Or.inl ⟨rfl, by simp, _, rfl⟩) (hb hby at_431) hr) rfl ⟨rfl, N480⟩ (by decide) (by decide)
        ·
          show own_GoesW _ _ _ _ _ _ _ (T479.setTop (mkF m 396 #[.val (.int x0), .val (.int x1), .val (.long x2), .second, .val (.int x4), .val (.int x5), .val (.ref at_), .val (.ref b414), .val (.int x8), .val (.int x9), .val (.ref r415), .val (.int (0 : Int32)), .unset] []))
          refine own_goW (fun _ ww => XS.iload X479.here hx rfl (hb hby at_396) rfl  ww) ?_
          show own_GoesW _ _ _ _ _ _ _ (T479.setTop (mkF m 398 #[.val (.int x0), .val (.int x1), .val (.long x2), .second, .val (.int x4), .val (.int x5), .val (.ref at_), .val (.ref b414), .val (.int x8), .val (.int x9), .val (.ref r415), .val (.int (0 : Int32)), .unset] [(.int x5)]))
          refine own_goW (fun _ ww => XS.iconst X479.here hx rfl (hb hby at_398) ww) ?_
          show own_GoesW _ _ _ _ _ _ _ (T479.setTop (mkF m 399 #[.val (.int x0), .val (.int x1), .val (.long x2), .second, .val (.int x4), .val (.int x5), .val (.ref at_), .val (.ref b414), .val (.int x8), .val (.int x9), .val (.ref r415), .val (.int (0 : Int32)), .unset] [(.int (3 : Int32)), (.int x5)]))
          refine own_goW (fun _ ww => XS.icmpYes X479.here hx rfl (pc0 := 399) (pc' := 411) rfl (hb hby at_399) rfl (feq h5).2 (by decide) (by decide) ww) ?_
          show own_GoesW _ _ _ _ _ _ _ (T479.setTop (mkF m 411 #[.val (.int x0), .val (.int x1), .val (.long x2), .second, .val (.int x4), .val (.int x5), .val (.ref at_), .val (.ref b414), .val (.int x8), .val (.int x9), .val (.ref r415), .val (.int (0 : Int32)), .unset] []))
          refine own_goW (fun _ ww => XS.iconst X479.here hx rfl (hb hby at_411) ww) ?_
          show own_GoesW _ _ _ _ _ _ _ (T479.setTop (mkF m 412 #[.val (.int x0), .val (.int x1), .val (.long x2), .second, .val (.int x4), .val (.int x5), .val (.ref at_), .val (.ref b414), .val (.int x8), .val (.int x9), .val (.ref r415), .val (.int (0 : Int32)), .unset] [(.int (0 : Int32))]))
          refine own_goW (fun _ ww => XS.istore X479.here hx rfl (hb hby at_412) rfl (l' := #[.val (.int x0), .val (.int x1), .val (.long x2), .second, .val (.int x4), .val (.int x5), .val (.ref at_), .val (.ref b414), .val (.int x8), .val (.int x9), .val (.ref r415), .val (.int (0 : Int32)), .val (.int (0 : Int32))]) rfl ww) ?_
          show own_GoesW _ _ _ _ _ _ _ (T479.setTop (mkF m 414 #[.val (.int x0), .val (.int x1), .val (.long x2), .second, .val (.int x4), .val (.int x5), .val (.ref at_), .val (.ref b414), .val (.int x8), .val (.int x9), .val (.ref r415), .val (.int (0 : Int32)), .val (.int (0 : Int32))] []))
          refine own_goW (fun _ ww => XS.aload X479.here hx rfl (hb hby at_414) rfl rfl ww) ?_
          show own_GoesW _ _ _ _ _ _ _ (T479.setTop (mkF m 416 #[.val (.int x0), .val (.int x1), .val (.long x2), .second, .val (.int x4), .val (.int x5), .val (.ref at_), .val (.ref b414), .val (.int x8), .val (.int x9), .val (.ref r415), .val (.int (0 : Int32)), .val (.int (0 : Int32))] [(.ref at_)]))
          refine own_goW (fun _ ww => XS.aload X479.here hx rfl (hb hby at_416) rfl rfl ww) ?_
          show own_GoesW _ _ _ _ _ _ _ (T479.setTop (mkF m 418 #[.val (.int x0), .val (.int x1), .val (.long x2), .second, .val (.int x4), .val (.int x5), .val (.ref at_), .val (.ref b414), .val (.int x8), .val (.int x9), .val (.ref r415), .val (.int (0 : Int32)), .val (.int (0 : Int32))] [(.ref r415), (.ref at_)]))
          obtain ⟨cq486, kq486, q486a, q486b, q486c⟩ := isOf hZ e479 (Eat.ext O415.2)
          obtain ⟨_, _, ⟨T486, L486, k486, n486⟩, -, X486, ⟨Lc486, hQ486, l486, y486, z486⟩, st486⟩ := X479.virtualBack hx (y := (⟨"com/example/izin/izin/Attribute", "defaultFlag", "(Ljava/lang/String;)Z"⟩ : MethodName)) (z := (⟨"com/example/izin/izin/Attribute", "defaultFlag", "(Ljava/lang/String;)Z"⟩ : MethodName)) hown (mvT hZ (hw _ (List.mem_of_getElem? (i := 45) rfl))) (mvT hZ (hw _ (List.mem_of_getElem? (i := 46) rfl))) (notFace_of_selects (args := #[]) (mvT hZ (hw _ (List.mem_of_getElem? (i := 48) rfl)))) (mvT hZ (hw _ (List.mem_of_getElem? (i := 48) rfl))) (mvT hZ (hw _ (List.mem_of_getElem? (i := 47) rfl))) (by decide) (backOf (W := 0) (rm_dfn l Z a0 hw [] at_ k3 r415 T415.heap n0 O415 S3 h6) hZ (hw _ (List.mem_of_getElem? (i := 49) rfl)) (hw _ (List.mem_of_getElem? (i := 2) rfl)) (by decide) (by decide)) q486a q486c (g := (mkF m 418 #[.val (.int x0), .val (.int x1), .val (.long x2), .second, .val (.int x4), .val (.int x5), .val (.ref at_), .val (.ref b414), .val (.int x8), .val (.int x9), .val (.ref r415), .val (.int (0 : Int32)), .val (.int (0 : Int32))] [(.ref r415), (.ref at_)])) rfl (by rw [hml]; rfl) (Steps.refl _) (argsL := [(.ref r415)]) (rest := []) (lenOf pd_6 rfl) rfl (by show 2 * 0 + _ ≤ _; exact Nat.le_of_eq rfl) (hb hby at_418) (fun _ _ => ⟨rfl, e479, (by decide : 5 + 0 ≤ _), (by decide : 28 + 0 ≤ _)⟩)
          dsimp only [Pt.U, Pt.locs, Pt.cells, Pt.slots] at X486 l486 y486 z486 st486 hQ486
          subst l486 y486 z486
          obtain ⟨rfl, N486q, e486⟩ := hQ486
          have N486 := Fr.app N479 N486q
          refine own_goW (fun _ ww => Steps.trans st486 ww) ?_
          show own_GoesW _ _ _ _ _ _ _ (T486.setTop (mkF m 421 #[.val (.int x0), .val (.int x1), .val (.long x2), .second, .val (.int x4), .val (.int x5), .val (.ref at_), .val (.ref b414), .val (.int x8), .val (.int x9), .val (.ref r415), .val (.int (0 : Int32)), .val (.int (0 : Int32))] [(.int (0 : Int32))]))
          refine own_goW (fun _ ww => XS.iload X486.here hx rfl (hb hby at_421) rfl  ww) ?_
          show own_GoesW _ _ _ _ _ _ _ (T486.setTop (mkF m 423 #[.val (.int x0), .val (.int x1), .val (.long x2), .second, .val (.int x4), .val (.int x5), .val (.ref at_), .val (.ref b414), .val (.int x8), .val (.int x9), .val (.ref r415), .val (.int (0 : Int32)), .val (.int (0 : Int32))] [(.int (0 : Int32)), (.int (0 : Int32))]))
          refine own_goW (fun _ ww => XS.icmpNo X486.here hx rfl (hb hby at_423) rfl (teq (by decide : (0 : Int32) = (0 : Int32))).2 ww) ?_
          show own_GoesW _ _ _ _ _ _ _ (T486.setTop (mkF m 426 #[.val (.int x0), .val (.int x1), .val (.long x2), .second, .val (.int x4), .val (.int x5), .val (.ref at_), .val (.ref b414), .val (.int x8), .val (.int x9), .val (.ref r415), .val (.int (0 : Int32)), .val (.int (0 : Int32))] []))
          refine own_goW (fun _ ww => XS.iconst X486.here hx rfl (hb hby at_426) ww) ?_
          show own_GoesW _ _ _ _ _ _ _ (T486.setTop (mkF m 427 #[.val (.int x0), .val (.int x1), .val (.long x2), .second, .val (.int x4), .val (.int x5), .val (.ref at_), .val (.ref b414), .val (.int x8), .val (.int x9), .val (.ref r415), .val (.int (0 : Int32)), .val (.int (0 : Int32))] [(.int (1 : Int32))]))
          refine own_goW (fun _ ww => XS.goto X486.here hx rfl (pc0 := 427) (pc' := 431) rfl (hb hby at_427) (by decide) (by decide) ww) ?_
          show own_GoesW _ _ _ _ _ _ _ (T486.setTop (mkF m 431 #[.val (.int x0), .val (.int x1), .val (.long x2), .second, .val (.int x4), .val (.int x5), .val (.ref at_), .val (.ref b414), .val (.int x8), .val (.int x9), .val (.ref r415), .val (.int (0 : Int32)), .val (.int (0 : Int32))] [(.int (1 : Int32))]))
          exact own_outW X486 hS hk hlk (v := some (.int (1 : Int32))) (fun h => by rw [hret] at h; cases h) (fun fs hr => retOut X486 hx (t := .boolean) hret (by decide) (Or.inl ⟨rfl, by simp, _, rfl⟩) (hb hby at_431) hr) e486 ⟨rfl, N486⟩ (by decide) (by decide)
    refine own_goW (fun _ ww => XS.iloadN X414.here hx rfl (hb hby at_103) rfl  ww) ?_
    show own_GoesW _ _ _ _ _ _ _ (T414.setTop (mkF m 104 #[.val (.int x0), .val (.int x1), .val (.long x2), .second, .val (.int x4), .val (.int x5), .val (.ref at_), .val (.ref b414), .unset, .unset, .unset, .unset, .unset] [(.int x1)]))
    refine own_goW (fun _ ww => XS.iconst X414.here hx rfl (hb hby at_104) ww) ?_
    show own_GoesW _ _ _ _ _ _ _ (T414.setTop (mkF m 105 #[.val (.int x0), .val (.int x1), .val (.long x2), .second, .val (.int x4), .val (.int x5), .val (.ref at_), .val (.ref b414), .unset, .unset, .unset, .unset, .unset] [(.int (3 : Int32)), (.int x1)]))
    refine own_goW (fun _ ww => XS.iand X414.here hx rfl (hb hby at_105) rfl ww) ?_
    show own_GoesW _ _ _ _ _ _ _ (T414.setTop (mkF m 106 #[.val (.int x0), .val (.int x1), .val (.long x2), .second, .val (.int x4), .val (.int x5), .val (.ref at_), .val (.ref b414), .unset, .unset, .unset, .unset, .unset] [(.int (x1 &&& (3 : Int32)))]))
    refine own_goW (fun _ ww => XS.istore X414.here hx rfl (hb hby at_106) rfl (l' := #[.val (.int x0), .val (.int x1), .val (.long x2), .second, .val (.int x4), .val (.int x5), .val (.ref at_), .val (.ref b414), .val (.int (x1 &&& (3 : Int32))), .unset, .unset, .unset, .unset]) rfl ww) ?_
    show own_GoesW _ _ _ _ _ _ _ (T414.setTop (mkF m 108 #[.val (.int x0), .val (.int x1), .val (.long x2), .second, .val (.int x4), .val (.int x5), .val (.ref at_), .val (.ref b414), .val (.int (x1 &&& (3 : Int32))), .unset, .unset, .unset, .unset] []))
    refine own_goW (fun _ ww => XS.iload X414.here hx rfl (hb hby at_108) rfl  ww) ?_
    show own_GoesW _ _ _ _ _ _ _ (T414.setTop (mkF m 110 #[.val (.int x0), .val (.int x1), .val (.long x2), .second, .val (.int x4), .val (.int x5), .val (.ref at_), .val (.ref b414), .val (.int (x1 &&& (3 : Int32))), .unset, .unset, .unset, .unset] [(.int (x1 &&& (3 : Int32)))]))
    refine own_goW (fun _ ww => XS.iconst X414.here hx rfl (hb hby at_110) ww) ?_
    show own_GoesW _ _ _ _ _ _ _ (T414.setTop (mkF m 111 #[.val (.int x0), .val (.int x1), .val (.long x2), .second, .val (.int x4), .val (.int x5), .val (.ref at_), .val (.ref b414), .val (.int (x1 &&& (3 : Int32))), .unset, .unset, .unset, .unset] [(.int (2 : Int32)), (.int (x1 &&& (3 : Int32)))]))
    by_cases hc487 : (x1 &&& (3 : Int32)) = (2 : Int32)
    ·
      refine own_goW (fun _ ww => XS.icmpNo X414.here hx rfl (hb hby at_111) rfl (teq hc487).2 ww) ?_
      show own_GoesW _ _ _ _ _ _ _ (T414.setTop (mkF m 114 #[.val (.int x0), .val (.int x1), .val (.long x2), .second, .val (.int x4), .val (.int x5), .val (.ref at_), .val (.ref b414), .val (.int (x1 &&& (3 : Int32))), .unset, .unset, .unset, .unset] []))
      refine own_goW (fun _ ww => XS.aload X414.here hx rfl (hb hby at_114) rfl rfl ww) ?_
      show own_GoesW _ _ _ _ _ _ _ (T414.setTop (mkF m 116 #[.val (.int x0), .val (.int x1), .val (.long x2), .second, .val (.int x4), .val (.int x5), .val (.ref at_), .val (.ref b414), .val (.int (x1 &&& (3 : Int32))), .unset, .unset, .unset, .unset] [(.ref b414)]))
      refine own_goW (fun _ ww => XS.iconst X414.here hx rfl (hb hby at_116) ww) ?_
      show own_GoesW _ _ _ _ _ _ _ (T414.setTop (mkF m 117 #[.val (.int x0), .val (.int x1), .val (.long x2), .second, .val (.int x4), .val (.int x5), .val (.ref at_), .val (.ref b414), .val (.int (x1 &&& (3 : Int32))), .unset, .unset, .unset, .unset] [(.int (0 : Int32)), (.ref b414)]))
      refine own_goW (fun _ ww => XT.lloadN X414.here hx rfl (hb hby at_117) rfl  ww) ?_
      show own_GoesW _ _ _ _ _ _ _ (T414.setTop (mkF m 118 #[.val (.int x0), .val (.int x1), .val (.long x2), .second, .val (.int x4), .val (.int x5), .val (.ref at_), .val (.ref b414), .val (.int (x1 &&& (3 : Int32))), .unset, .unset, .unset, .unset] [(.long x2), (.int (0 : Int32)), (.ref b414)]))
      refine own_goW (fun _ ww => XS.iconst X414.here hx rfl (hb hby at_118) ww) ?_
      show own_GoesW _ _ _ _ _ _ _ (T414.setTop (mkF m 119 #[.val (.int x0), .val (.int x1), .val (.long x2), .second, .val (.int x4), .val (.int x5), .val (.ref at_), .val (.ref b414), .val (.int (x1 &&& (3 : Int32))), .unset, .unset, .unset, .unset] [(.int (0 : Int32)), (.long x2), (.int (0 : Int32)), (.ref b414)]))
      obtain ⟨_, _, ⟨T488, L488, k488, n488⟩, -, X488, ⟨Lc488, hQ488, l488, y488, z488⟩, st488⟩ := Jvm.LawKit.callS X414 hx (y := (⟨"com/example/izin/izin/AttributeDefaultFlagPinLaw", "ch", "(JI)C"⟩ : MethodName)) hown (mvT hZ (hw _ (List.mem_of_getElem? (i := 5) rfl))) (mvT hZ (hw _ (List.mem_of_getElem? (i := 6) rfl))) (mvT hZ (hw _ (List.mem_of_getElem? (i := 7) rfl))) (mvT hZ (hw _ (List.mem_of_getElem? (i := 8) rfl))) (by decide) (backOf (W := 2) (rm_ch l Z a0 hw [] x2 (0 : Int32) h414 n0 O414 ) hZ (hw _ (List.mem_of_getElem? (i := 8) rfl)) (hw _ (List.mem_of_getElem? (i := 7) rfl)) (by decide) (by decide)) (g := (mkF m 119 #[.val (.int x0), .val (.int x1), .val (.long x2), .second, .val (.int x4), .val (.int x5), .val (.ref at_), .val (.ref b414), .val (.int (x1 &&& (3 : Int32))), .unset, .unset, .unset, .unset] [(.int (0 : Int32)), (.long x2), (.int (0 : Int32)), (.ref b414)])) rfl (by rw [hml]; rfl) (argsL := [(.long x2), (.int (0 : Int32))]) (rest := [(.int (0 : Int32)), (.ref b414)]) (lenOf pd_7 rfl) rfl (by show 2 * 0 + _ ≤ _; exact Nat.le_of_eq rfl) (hb hby at_119) (fun _ _ => ⟨rfl, e414, (by decide : 1 + 0 ≤ _), (by decide : 8 + 0 ≤ _)⟩)
      dsimp only [Pt.U, Pt.locs, Pt.cells, Pt.slots] at X488 l488 y488 z488 st488 hQ488
      subst l488 y488 z488
      obtain ⟨r488, rfl, N488q, e488, b_r488⟩ := hQ488
      have N488 := Fr.app N0 N488q
      refine own_goW st488 ?_
      show own_GoesW _ _ _ _ _ _ _ (T488.setTop (mkF m 122 #[.val (.int x0), .val (.int x1), .val (.long x2), .second, .val (.int x4), .val (.int x5), .val (.ref at_), .val (.ref b414), .val (.int (x1 &&& (3 : Int32))), .unset, .unset, .unset, .unset] [(.int r488), (.int (0 : Int32)), (.ref b414)]))
      obtain ⟨cl489, Ar489, q489, S489, M489, H489, U489⟩ := id V414
      obtain ⟨T489, h489, X489, e489, W489, st489⟩ := stC X488 hx hZ e488 Ar489 (j := (0 : Int32)) (inb_of S489 ⟨by decide, by decide⟩) (g := (mkF m 122 #[.val (.int x0), .val (.int x1), .val (.long x2), .second, .val (.int x4), .val (.int x5), .val (.ref at_), .val (.ref b414), .val (.int (x1 &&& (3 : Int32))), .unset, .unset, .unset, .unset] [(.int r488), (.int (0 : Int32)), (.ref b414)])) rfl rfl (hb hby at_122)
      have nr489 : nar .char r488 = r488 := (own_narc b_r488)
      rw [nr489] at W489
      have ft489 : fits .char (.int r488) = true := by have q := fits_nar_char r488; rw [nr489] at q; exact q
      have f490 : Arv Z h489 b414 k414 .char (8 : Int32) [(.int r488), (.int (0 : Int32)), (.int (0 : Int32)), (.int (0 : Int32)), (.int (0 : Int32)), (.int (0 : Int32)), (.int (0 : Int32)), (.int (0 : Int32))] (.int (0 : Int32)) := (Arv.set Ar489 q489 S489 M489 H489 U489 ft489 W489 0 rfl (Nat.le_of_ble_eq_true rfl))
      have hk := Nat.le_trans hk (Keep.of_wr W489).1
      have N489 := Fr.snoc X489 N488 g_b414
      have O489 := O414.wr W489 g_b414
      refine own_goW st489 ?_
      show own_GoesW _ _ _ _ _ _ _ (T489.setTop (mkF m 123 #[.val (.int x0), .val (.int x1), .val (.long x2), .second, .val (.int x4), .val (.int x5), .val (.ref at_), .val (.ref b414), .val (.int (x1 &&& (3 : Int32))), .unset, .unset, .unset, .unset] []))
      refine own_goW (fun _ ww => XS.aload X489.here hx rfl (hb hby at_123) rfl rfl ww) ?_
      show own_GoesW _ _ _ _ _ _ _ (T489.setTop (mkF m 125 #[.val (.int x0), .val (.int x1), .val (.long x2), .second, .val (.int x4), .val (.int x5), .val (.ref at_), .val (.ref b414), .val (.int (x1 &&& (3 : Int32))), .unset, .unset, .unset, .unset] [(.ref b414)]))
      refine own_goW (fun _ ww => XS.iconst X489.here hx rfl (hb hby at_125) ww) ?_
      show own_GoesW _ _ _ _ _ _ _ (T489.setTop (mkF m 126 #[.val (.int x0), .val (.int x1), .val (.long x2), .second, .val (.int x4), .val (.int x5), .val (.ref at_), .val (.ref b414), .val (.int (x1 &&& (3 : Int32))), .unset, .unset, .unset, .unset] [(.int (1 : Int32)), (.ref b414)]))
      refine own_goW (fun _ ww => XT.lloadN X489.here hx rfl (hb hby at_126) rfl  ww) ?_
      show own_GoesW _ _ _ _ _ _ _ (T489.setTop (mkF m 127 #[.val (.int x0), .val (.int x1), .val (.long x2), .second, .val (.int x4), .val (.int x5), .val (.ref at_), .val (.ref b414), .val (.int (x1 &&& (3 : Int32))), .unset, .unset, .unset, .unset] [(.long x2), (.int (1 : Int32)), (.ref b414)]))
      refine own_goW (fun _ ww => XS.iconst X489.here hx rfl (hb hby at_127) ww) ?_
      show own_GoesW _ _ _ _ _ _ _ (T489.setTop (mkF m 128 #[.val (.int x0), .val (.int x1), .val (.long x2), .second, .val (.int x4), .val (.int x5), .val (.ref at_), .val (.ref b414), .val (.int (x1 &&& (3 : Int32))), .unset, .unset, .unset, .unset] [(.int (1 : Int32)), (.long x2), (.int (1 : Int32)), (.ref b414)]))
      obtain ⟨_, _, ⟨T491, L491, k491, n491⟩, -, X491, ⟨Lc491, hQ491, l491, y491, z491⟩, st491⟩ := Jvm.LawKit.callS X489 hx (y := (⟨"com/example/izin/izin/AttributeDefaultFlagPinLaw", "ch", "(JI)C"⟩ : MethodName)) hown (mvT hZ (hw _ (List.mem_of_getElem? (i := 5) rfl))) (mvT hZ (hw _ (List.mem_of_getElem? (i := 6) rfl))) (mvT hZ (hw _ (List.mem_of_getElem? (i := 7) rfl))) (mvT hZ (hw _ (List.mem_of_getElem? (i := 8) rfl))) (by decide) (backOf (W := 2) (rm_ch l Z a0 hw [] x2 (1 : Int32) h489 n0 O489 ) hZ (hw _ (List.mem_of_getElem? (i := 8) rfl)) (hw _ (List.mem_of_getElem? (i := 7) rfl)) (by decide) (by decide)) (g := (mkF m 128 #[.val (.int x0), .val (.int x1), .val (.long x2), .second, .val (.int x4), .val (.int x5), .val (.ref at_), .val (.ref b414), .val (.int (x1 &&& (3 : Int32))), .unset, .unset, .unset, .unset] [(.int (1 : Int32)), (.long x2), (.int (1 : Int32)), (.ref b414)])) rfl (by rw [hml]; rfl) (argsL := [(.long x2), (.int (1 : Int32))]) (rest := [(.int (1 : Int32)), (.ref b414)]) (lenOf pd_7 rfl) rfl (by show 2 * 0 + _ ≤ _; exact Nat.le_of_eq rfl) (hb hby at_128) (fun _ _ => ⟨rfl, e489, (by decide : 1 + 0 ≤ _), (by decide : 8 + 0 ≤ _)⟩)
      dsimp only [Pt.U, Pt.locs, Pt.cells, Pt.slots] at X491 l491 y491 z491 st491 hQ491
      subst l491 y491 z491
      obtain ⟨r491, rfl, N491q, e491, b_r491⟩ := hQ491
      have N491 := Fr.app N489 N491q
      refine own_goW st491 ?_
      show own_GoesW _ _ _ _ _ _ _ (T491.setTop (mkF m 131 #[.val (.int x0), .val (.int x1), .val (.long x2), .second, .val (.int x4), .val (.int x5), .val (.ref at_), .val (.ref b414), .val (.int (x1 &&& (3 : Int32))), .unset, .unset, .unset, .unset] [(.int r491), (.int (1 : Int32)), (.ref b414)]))
      obtain ⟨cl492, Ar492, q492, S492, M492, H492, U492⟩ := id f490
      obtain ⟨T492, h492, X492, e492, W492, st492⟩ := stC X491 hx hZ e491 Ar492 (j := (1 : Int32)) (inb_of S492 ⟨by decide, by decide⟩) (g := (mkF m 131 #[.val (.int x0), .val (.int x1), .val (.long x2), .second, .val (.int x4), .val (.int x5), .val (.ref at_), .val (.ref b414), .val (.int (x1 &&& (3 : Int32))), .unset, .unset, .unset, .unset] [(.int r491), (.int (1 : Int32)), (.ref b414)])) rfl rfl (hb hby at_131)
      have nr492 : nar .char r491 = r491 := (own_narc b_r491)
      rw [nr492] at W492
      have ft492 : fits .char (.int r491) = true := by have q := fits_nar_char r491; rw [nr492] at q; exact q
      have f493 : Arv Z h492 b414 k414 .char (8 : Int32) [(.int r488), (.int r491), (.int (0 : Int32)), (.int (0 : Int32)), (.int (0 : Int32)), (.int (0 : Int32)), (.int (0 : Int32)), (.int (0 : Int32))] (.int (0 : Int32)) := (Arv.set Ar492 q492 S492 M492 H492 U492 ft492 W492 1 rfl (Nat.le_of_ble_eq_true rfl))
      have hk := Nat.le_trans hk (Keep.of_wr W492).1
      have N492 := Fr.snoc X492 N491 g_b414
      have O492 := O489.wr W492 g_b414
      refine own_goW st492 ?_
      show own_GoesW _ _ _ _ _ _ _ (T492.setTop (mkF m 132 #[.val (.int x0), .val (.int x1), .val (.long x2), .second, .val (.int x4), .val (.int x5), .val (.ref at_), .val (.ref b414), .val (.int (x1 &&& (3 : Int32))), .unset, .unset, .unset, .unset] []))
      refine own_goW (fun _ ww => XS.aload X492.here hx rfl (hb hby at_132) rfl rfl ww) ?_
      show own_GoesW _ _ _ _ _ _ _ (T492.setTop (mkF m 134 #[.val (.int x0), .val (.int x1), .val (.long x2), .second, .val (.int x4), .val (.int x5), .val (.ref at_), .val (.ref b414), .val (.int (x1 &&& (3 : Int32))), .unset, .unset, .unset, .unset] [(.ref b414)]))
      refine own_goW (fun _ ww => XS.iconst X492.here hx rfl (hb hby at_134) ww) ?_
      show own_GoesW _ _ _ _ _ _ _ (T492.setTop (mkF m 135 #[.val (.int x0), .val (.int x1), .val (.long x2), .second, .val (.int x4), .val (.int x5), .val (.ref at_), .val (.ref b414), .val (.int (x1 &&& (3 : Int32))), .unset, .unset, .unset, .unset] [(.int (2 : Int32)), (.ref b414)]))
      refine own_goW (fun _ ww => XT.lloadN X492.here hx rfl (hb hby at_135) rfl  ww) ?_
      show own_GoesW _ _ _ _ _ _ _ (T492.setTop (mkF m 136 #[.val (.int x0), .val (.int x1), .val (.long x2), .second, .val (.int x4), .val (.int x5), .val (.ref at_), .val (.ref b414), .val (.int (x1 &&& (3 : Int32))), .unset, .unset, .unset, .unset] [(.long x2), (.int (2 : Int32)), (.ref b414)]))
      refine own_goW (fun _ ww => XS.iconst X492.here hx rfl (hb hby at_136) ww) ?_
      show own_GoesW _ _ _ _ _ _ _ (T492.setTop (mkF m 137 #[.val (.int x0), .val (.int x1), .val (.long x2), .second, .val (.int x4), .val (.int x5), .val (.ref at_), .val (.ref b414), .val (.int (x1 &&& (3 : Int32))), .unset, .unset, .unset, .unset] [(.int (2 : Int32)), (.long x2), (.int (2 : Int32)), (.ref b414)]))
      obtain ⟨_, _, ⟨T494, L494, k494, n494⟩, -, X494, ⟨Lc494, hQ494, l494, y494, z494⟩, st494⟩ := Jvm.LawKit.callS X492 hx (y := (⟨"com/example/izin/izin/AttributeDefaultFlagPinLaw", "ch", "(JI)C"⟩ : MethodName)) hown (mvT hZ (hw _ (List.mem_of_getElem? (i := 5) rfl))) (mvT hZ (hw _ (List.mem_of_getElem? (i := 6) rfl))) (mvT hZ (hw _ (List.mem_of_getElem? (i := 7) rfl))) (mvT hZ (hw _ (List.mem_of_getElem? (i := 8) rfl))) (by decide) (backOf (W := 2) (rm_ch l Z a0 hw [] x2 (2 : Int32) h492 n0 O492 ) hZ (hw _ (List.mem_of_getElem? (i := 8) rfl)) (hw _ (List.mem_of_getElem? (i := 7) rfl)) (by decide) (by decide)) (g := (mkF m 137 #[.val (.int x0), .val (.int x1), .val (.long x2), .second, .val (.int x4), .val (.int x5), .val (.ref at_), .val (.ref b414), .val (.int (x1 &&& (3 : Int32))), .unset, .unset, .unset, .unset] [(.int (2 : Int32)), (.long x2), (.int (2 : Int32)), (.ref b414)])) rfl (by rw [hml]; rfl) (argsL := [(.long x2), (.int (2 : Int32))]) (rest := [(.int (2 : Int32)), (.ref b414)]) (lenOf pd_7 rfl) rfl (by show 2 * 0 + _ ≤ _; exact Nat.le_of_eq rfl) (hb hby at_137) (fun _ _ => ⟨rfl, e492, (by decide : 1 + 0 ≤ _), (by decide : 8 + 0 ≤ _)⟩)
      dsimp only [Pt.U, Pt.locs, Pt.cells, Pt.slots] at X494 l494 y494 z494 st494 hQ494
      subst l494 y494 z494
      obtain ⟨r494, rfl, N494q, e494, b_r494⟩ := hQ494
      have N494 := Fr.app N492 N494q
      refine own_goW st494 ?_
      show own_GoesW _ _ _ _ _ _ _ (T494.setTop (mkF m 140 #[.val (.int x0), .val (.int x1), .val (.long x2), .second, .val (.int x4), .val (.int x5), .val (.ref at_), .val (.ref b414), .val (.int (x1 &&& (3 : Int32))), .unset, .unset, .unset, .unset] [(.int r494), (.int (2 : Int32)), (.ref b414)]))
      obtain ⟨cl495, Ar495, q495, S495, M495, H495, U495⟩ := id f493
      obtain ⟨T495, h495, X495, e495, W495, st495⟩ := stC X494 hx hZ e494 Ar495 (j := (2 : Int32)) (inb_of S495 ⟨by decide, by decide⟩) (g := (mkF m 140 #[.val (.int x0), .val (.int x1), .val (.long x2), .second, .val (.int x4), .val (.int x5), .val (.ref at_), .val (.ref b414), .val (.int (x1 &&& (3 : Int32))), .unset, .unset, .unset, .unset] [(.int r494), (.int (2 : Int32)), (.ref b414)])) rfl rfl (hb hby at_140)
      have nr495 : nar .char r494 = r494 := (own_narc b_r494)
      rw [nr495] at W495
      have ft495 : fits .char (.int r494) = true := by have q := fits_nar_char r494; rw [nr495] at q; exact q
      have f496 : Arv Z h495 b414 k414 .char (8 : Int32) [(.int r488), (.int r491), (.int r494), (.int (0 : Int32)), (.int (0 : Int32)), (.int (0 : Int32)), (.int (0 : Int32)), (.int (0 : Int32))] (.int (0 : Int32)) := (Arv.set Ar495 q495 S495 M495 H495 U495 ft495 W495 2 rfl (Nat.le_of_ble_eq_true rfl))
      have hk := Nat.le_trans hk (Keep.of_wr W495).1
      have N495 := Fr.snoc X495 N494 g_b414
      have O495 := O492.wr W495 g_b414
      refine own_goW st495 ?_
      show own_GoesW _ _ _ _ _ _ _ (T495.setTop (mkF m 141 #[.val (.int x0), .val (.int x1), .val (.long x2), .second, .val (.int x4), .val (.int x5), .val (.ref at_), .val (.ref b414), .val (.int (x1 &&& (3 : Int32))), .unset, .unset, .unset, .unset] []))
      refine own_goW (fun _ ww => XS.aload X495.here hx rfl (hb hby at_141) rfl rfl ww) ?_
      show own_GoesW _ _ _ _ _ _ _ (T495.setTop (mkF m 143 #[.val (.int x0), .val (.int x1), .val (.long x2), .second, .val (.int x4), .val (.int x5), .val (.ref at_), .val (.ref b414), .val (.int (x1 &&& (3 : Int32))), .unset, .unset, .unset, .unset] [(.ref b414)]))
      refine own_goW (fun _ ww => XS.iconst X495.here hx rfl (hb hby at_143) ww) ?_
      show own_GoesW _ _ _ _ _ _ _ (T495.setTop (mkF m 144 #[.val (.int x0), .val (.int x1), .val (.long x2), .second, .val (.int x4), .val (.int x5), .val (.ref at_), .val (.ref b414), .val (.int (x1 &&& (3 : Int32))), .unset, .unset, .unset, .unset] [(.int (3 : Int32)), (.ref b414)]))
      refine own_goW (fun _ ww => XT.lloadN X495.here hx rfl (hb hby at_144) rfl  ww) ?_
      show own_GoesW _ _ _ _ _ _ _ (T495.setTop (mkF m 145 #[.val (.int x0), .val (.int x1), .val (.long x2), .second, .val (.int x4), .val (.int x5), .val (.ref at_), .val (.ref b414), .val (.int (x1 &&& (3 : Int32))), .unset, .unset, .unset, .unset] [(.long x2), (.int (3 : Int32)), (.ref b414)]))
      refine own_goW (fun _ ww => XS.iconst X495.here hx rfl (hb hby at_145) ww) ?_
      show own_GoesW _ _ _ _ _ _ _ (T495.setTop (mkF m 146 #[.val (.int x0), .val (.int x1), .val (.long x2), .second, .val (.int x4), .val (.int x5), .val (.ref at_), .val (.ref b414), .val (.int (x1 &&& (3 : Int32))), .unset, .unset, .unset, .unset] [(.int (3 : Int32)), (.long x2), (.int (3 : Int32)), (.ref b414)]))
      obtain ⟨_, _, ⟨T497, L497, k497, n497⟩, -, X497, ⟨Lc497, hQ497, l497, y497, z497⟩, st497⟩ := Jvm.LawKit.callS X495 hx (y := (⟨"com/example/izin/izin/AttributeDefaultFlagPinLaw", "ch", "(JI)C"⟩ : MethodName)) hown (mvT hZ (hw _ (List.mem_of_getElem? (i := 5) rfl))) (mvT hZ (hw _ (List.mem_of_getElem? (i := 6) rfl))) (mvT hZ (hw _ (List.mem_of_getElem? (i := 7) rfl))) (mvT hZ (hw _ (List.mem_of_getElem? (i := 8) rfl))) (by decide) (backOf (W := 2) (rm_ch l Z a0 hw [] x2 (3 : Int32) h495 n0 O495 ) hZ (hw _ (List.mem_of_getElem? (i := 8) rfl)) (hw _ (List.mem_of_getElem? (i := 7) rfl)) (by decide) (by decide)) (g := (mkF m 146 #[.val (.int x0), .val (.int x1), .val (.long x2), .second, .val (.int x4), .val (.int x5), .val (.ref at_), .val (.ref b414), .val (.int (x1 &&& (3 : Int32))), .unset, .unset, .unset, .unset] [(.int (3 : Int32)), (.long x2), (.int (3 : Int32)), (.ref b414)])) rfl (by rw [hml]; rfl) (argsL := [(.long x2), (.int (3 : Int32))]) (rest := [(.int (3 : Int32)), (.ref b414)]) (lenOf pd_7 rfl) rfl (by show 2 * 0 + _ ≤ _; exact Nat.le_of_eq rfl) (hb hby at_146) (fun _ _ => ⟨rfl, e495, (by decide : 1 + 0 ≤ _), (by decide : 8 + 0 ≤ _)⟩)
      dsimp only [Pt.U, Pt.locs, Pt.cells, Pt.slots] at X497 l497 y497 z497 st497 hQ497
      subst l497 y497 z497
      obtain ⟨r497, rfl, N497q, e497, b_r497⟩ := hQ497
      have N497 := Fr.app N495 N497q
      refine own_goW st497 ?_
      show own_GoesW _ _ _ _ _ _ _ (T497.setTop (mkF m 149 #[.val (.int x0), .val (.int x1), .val (.long x2), .second, .val (.int x4), .val (.int x5), .val (.ref at_), .val (.ref b414), .val (.int (x1 &&& (3 : Int32))), .unset, .unset, .unset, .unset] [(.int r497), (.int (3 : Int32)), (.ref b414)]))
      obtain ⟨cl498, Ar498, q498, S498, M498, H498, U498⟩ := id f496
      obtain ⟨T498, h498, X498, e498, W498, st498⟩ := stC X497 hx hZ e497 Ar498 (j := (3 : Int32)) (inb_of S498 ⟨by decide, by decide⟩) (g := (mkF m 149 #[.val (.int x0), .val (.int x1), .val (.long x2), .second, .val (.int x4), .val (.int x5), .val (.ref at_), .val (.ref b414), .val (.int (x1 &&& (3 : Int32))), .unset, .unset, .unset, .unset] [(.int r497), (.int (3 : Int32)), (.ref b414)])) rfl rfl (hb hby at_149)
      have nr498 : nar .char r497 = r497 := (own_narc b_r497)
      rw [nr498] at W498
      have ft498 : fits .char (.int r497) = true := by have q := fits_nar_char r497; rw [nr498] at q; exact q
      have f499 : Arv Z h498 b414 k414 .char (8 : Int32) [(.int r488), (.int r491), (.int r494), (.int r497), (.int (0 : Int32)), (.int (0 : Int32)), (.int (0 : Int32)), (.int (0 : Int32))] (.int (0 : Int32)) := (Arv.set Ar498 q498 S498 M498 H498 U498 ft498 W498 3 rfl (Nat.le_of_ble_eq_true rfl))
      have hk := Nat.le_trans hk (Keep.of_wr W498).1
      have N498 := Fr.snoc X498 N497 g_b414
      have O498 := O495.wr W498 g_b414
      refine own_goW st498 ?_
      show own_GoesW _ _ _ _ _ _ _ (T498.setTop (mkF m 150 #[.val (.int x0), .val (.int x1), .val (.long x2), .second, .val (.int x4), .val (.int x5), .val (.ref at_), .val (.ref b414), .val (.int (x1 &&& (3 : Int32))), .unset, .unset, .unset, .unset] []))
      refine own_goW (fun _ ww => XS.aload X498.here hx rfl (hb hby at_150) rfl rfl ww) ?_
      show own_GoesW _ _ _ _ _ _ _ (T498.setTop (mkF m 152 #[.val (.int x0), .val (.int x1), .val (.long x2), .second, .val (.int x4), .val (.int x5), .val (.ref at_), .val (.ref b414), .val (.int (x1 &&& (3 : Int32))), .unset, .unset, .unset, .unset] [(.ref b414)]))
      refine own_goW (fun _ ww => XS.iconst X498.here hx rfl (hb hby at_152) ww) ?_
      show own_GoesW _ _ _ _ _ _ _ (T498.setTop (mkF m 153 #[.val (.int x0), .val (.int x1), .val (.long x2), .second, .val (.int x4), .val (.int x5), .val (.ref at_), .val (.ref b414), .val (.int (x1 &&& (3 : Int32))), .unset, .unset, .unset, .unset] [(.int (4 : Int32)), (.ref b414)]))
      refine own_goW (fun _ ww => XT.lloadN X498.here hx rfl (hb hby at_153) rfl  ww) ?_
      show own_GoesW _ _ _ _ _ _ _ (T498.setTop (mkF m 154 #[.val (.int x0), .val (.int x1), .val (.long x2), .second, .val (.int x4), .val (.int x5), .val (.ref at_), .val (.ref b414), .val (.int (x1 &&& (3 : Int32))), .unset, .unset, .unset, .unset] [(.long x2), (.int (4 : Int32)), (.ref b414)]))
      refine own_goW (fun _ ww => XS.iconst X498.here hx rfl (hb hby at_154) ww) ?_
      show own_GoesW _ _ _ _ _ _ _ (T498.setTop (mkF m 155 #[.val (.int x0), .val (.int x1), .val (.long x2), .second, .val (.int x4), .val (.int x5), .val (.ref at_), .val (.ref b414), .val (.int (x1 &&& (3 : Int32))), .unset, .unset, .unset, .unset] [(.int (4 : Int32)), (.long x2), (.int (4 : Int32)), (.ref b414)]))
      obtain ⟨_, _, ⟨T500, L500, k500, n500⟩, -, X500, ⟨Lc500, hQ500, l500, y500, z500⟩, st500⟩ := Jvm.LawKit.callS X498 hx (y := (⟨"com/example/izin/izin/AttributeDefaultFlagPinLaw", "ch", "(JI)C"⟩ : MethodName)) hown (mvT hZ (hw _ (List.mem_of_getElem? (i := 5) rfl))) (mvT hZ (hw _ (List.mem_of_getElem? (i := 6) rfl))) (mvT hZ (hw _ (List.mem_of_getElem? (i := 7) rfl))) (mvT hZ (hw _ (List.mem_of_getElem? (i := 8) rfl))) (by decide) (backOf (W := 2) (rm_ch l Z a0 hw [] x2 (4 : Int32) h498 n0 O498 ) hZ (hw _ (List.mem_of_getElem? (i := 8) rfl)) (hw _ (List.mem_of_getElem? (i := 7) rfl)) (by decide) (by decide)) (g := (mkF m 155 #[.val (.int x0), .val (.int x1), .val (.long x2), .second, .val (.int x4), .val (.int x5), .val (.ref at_), .val (.ref b414), .val (.int (x1 &&& (3 : Int32))), .unset, .unset, .unset, .unset] [(.int (4 : Int32)), (.long x2), (.int (4 : Int32)), (.ref b414)])) rfl (by rw [hml]; rfl) (argsL := [(.long x2), (.int (4 : Int32))]) (rest := [(.int (4 : Int32)), (.ref b414)]) (lenOf pd_7 rfl) rfl (by show 2 * 0 + _ ≤ _; exact Nat.le_of_eq rfl) (hb hby at_155) (fun _ _ => ⟨rfl, e498, (by decide : 1 + 0 ≤ _), (by decide : 8 + 0 ≤ _)⟩)
      dsimp only [Pt.U, Pt.locs, Pt.cells, Pt.slots] at X500 l500 y500 z500 st500 hQ500
      subst l500 y500 z500
      obtain ⟨r500, rfl, N500q, e500, b_r500⟩ := hQ500
      have N500 := Fr.app N498 N500q
      refine own_goW st500 ?_
      show own_GoesW _ _ _ _ _ _ _ (T500.setTop (mkF m 158 #[.val (.int x0), .val (.int x1), .val (.long x2), .second, .val (.int x4), .val (.int x5), .val (.ref at_), .val (.ref b414), .val (.int (x1 &&& (3 : Int32))), .unset, .unset, .unset, .unset] [(.int r500), (.int (4 : Int32)), (.ref b414)]))
      obtain ⟨cl501, Ar501, q501, S501, M501, H501, U501⟩ := id f499
      obtain ⟨T501, h501, X501, e501, W501, st501⟩ := stC X500 hx hZ e500 Ar501 (j := (4 : Int32)) (inb_of S501 ⟨by decide, by decide⟩) (g := (mkF m 158 #[.val (.int x0), .val (.int x1), .val (.long x2), .second, .val (.int x4), .val (.int x5), .val (.ref at_), .val (.ref b414), .val (.int (x1 &&& (3 : Int32))), .unset, .unset, .unset, .unset] [(.int r500), (.int (4 : Int32)), (.ref b414)])) rfl rfl (hb hby at_158)
      have nr501 : nar .char r500 = r500 := (own_narc b_r500)
      rw [nr501] at W501
      have ft501 : fits .char (.int r500) = true := by have q := fits_nar_char r500; rw [nr501] at q; exact q
      have f502 : Arv Z h501 b414 k414 .char (8 : Int32) [(.int r488), (.int r491), (.int r494), (.int r497), (.int r500), (.int (0 : Int32)), (.int (0 : Int32)), (.int (0 : Int32))] (.int (0 : Int32)) := (Arv.set Ar501 q501 S501 M501 H501 U501 ft501 W501 4 rfl (Nat.le_of_ble_eq_true rfl))
      have hk := Nat.le_trans hk (Keep.of_wr W501).1
      have N501 := Fr.snoc X501 N500 g_b414
      have O501 := O498.wr W501 g_b414
      refine own_goW st501 ?_
      show own_GoesW _ _ _ _ _ _ _ (T501.setTop (mkF m 159 #[.val (.int x0), .val (.int x1), .val (.long x2), .second, .val (.int x4), .val (.int x5), .val (.ref at_), .val (.ref b414), .val (.int (x1 &&& (3 : Int32))), .unset, .unset, .unset, .unset] []))
      refine own_goW (fun _ ww => XS.aload X501.here hx rfl (hb hby at_159) rfl rfl ww) ?_
      show own_GoesW _ _ _ _ _ _ _ (T501.setTop (mkF m 161 #[.val (.int x0), .val (.int x1), .val (.long x2), .second, .val (.int x4), .val (.int x5), .val (.ref at_), .val (.ref b414), .val (.int (x1 &&& (3 : Int32))), .unset, .unset, .unset, .unset] [(.ref b414)]))
      refine own_goW (fun _ ww => XS.iconst X501.here hx rfl (hb hby at_161) ww) ?_
      show own_GoesW _ _ _ _ _ _ _ (T501.setTop (mkF m 162 #[.val (.int x0), .val (.int x1), .val (.long x2), .second, .val (.int x4), .val (.int x5), .val (.ref at_), .val (.ref b414), .val (.int (x1 &&& (3 : Int32))), .unset, .unset, .unset, .unset] [(.int (5 : Int32)), (.ref b414)]))
      refine own_goW (fun _ ww => XT.lloadN X501.here hx rfl (hb hby at_162) rfl  ww) ?_
      show own_GoesW _ _ _ _ _ _ _ (T501.setTop (mkF m 163 #[.val (.int x0), .val (.int x1), .val (.long x2), .second, .val (.int x4), .val (.int x5), .val (.ref at_), .val (.ref b414), .val (.int (x1 &&& (3 : Int32))), .unset, .unset, .unset, .unset] [(.long x2), (.int (5 : Int32)), (.ref b414)]))
      refine own_goW (fun _ ww => XS.iconst X501.here hx rfl (hb hby at_163) ww) ?_
      show own_GoesW _ _ _ _ _ _ _ (T501.setTop (mkF m 164 #[.val (.int x0), .val (.int x1), .val (.long x2), .second, .val (.int x4), .val (.int x5), .val (.ref at_), .val (.ref b414), .val (.int (x1 &&& (3 : Int32))), .unset, .unset, .unset, .unset] [(.int (5 : Int32)), (.long x2), (.int (5 : Int32)), (.ref b414)]))
      obtain ⟨_, _, ⟨T503, L503, k503, n503⟩, -, X503, ⟨Lc503, hQ503, l503, y503, z503⟩, st503⟩ := Jvm.LawKit.callS X501 hx (y := (⟨"com/example/izin/izin/AttributeDefaultFlagPinLaw", "ch", "(JI)C"⟩ : MethodName)) hown (mvT hZ (hw _ (List.mem_of_getElem? (i := 5) rfl))) (mvT hZ (hw _ (List.mem_of_getElem? (i := 6) rfl))) (mvT hZ (hw _ (List.mem_of_getElem? (i := 7) rfl))) (mvT hZ (hw _ (List.mem_of_getElem? (i := 8) rfl))) (by decide) (backOf (W := 2) (rm_ch l Z a0 hw [] x2 (5 : Int32) h501 n0 O501 ) hZ (hw _ (List.mem_of_getElem? (i := 8) rfl)) (hw _ (List.mem_of_getElem? (i := 7) rfl)) (by decide) (by decide)) (g := (mkF m 164 #[.val (.int x0), .val (.int x1), .val (.long x2), .second, .val (.int x4), .val (.int x5), .val (.ref at_), .val (.ref b414), .val (.int (x1 &&& (3 : Int32))), .unset, .unset, .unset, .unset] [(.int (5 : Int32)), (.long x2), (.int (5 : Int32)), (.ref b414)])) rfl (by rw [hml]; rfl) (argsL := [(.long x2), (.int (5 : Int32))]) (rest := [(.int (5 : Int32)), (.ref b414)]) (lenOf pd_7 rfl) rfl (by show 2 * 0 + _ ≤ _; exact Nat.le_of_eq rfl) (hb hby at_164) (fun _ _ => ⟨rfl, e501, (by decide : 1 + 0 ≤ _), (by decide : 8 + 0 ≤ _)⟩)
      dsimp only [Pt.U, Pt.locs, Pt.cells, Pt.slots] at X503 l503 y503 z503 st503 hQ503
      subst l503 y503 z503
      obtain ⟨r503, rfl, N503q, e503, b_r503⟩ := hQ503
      have N503 := Fr.app N501 N503q
      refine own_goW st503 ?_
      show own_GoesW _ _ _ _ _ _ _ (T503.setTop (mkF m 167 #[.val (.int x0), .val (.int x1), .val (.long x2), .second, .val (.int x4), .val (.int x5), .val (.ref at_), .val (.ref b414), .val (.int (x1 &&& (3 : Int32))), .unset, .unset, .unset, .unset] [(.int r503), (.int (5 : Int32)), (.ref b414)]))
      obtain ⟨cl504, Ar504, q504, S504, M504, H504, U504⟩ := id f502
      obtain ⟨T504, h504, X504, e504, W504, st504⟩ := stC X503 hx hZ e503 Ar504 (j := (5 : Int32)) (inb_of S504 ⟨by decide, by decide⟩) (g := (mkF m 167 #[.val (.int x0), .val (.int x1), .val (.long x2), .second, .val (.int x4), .val (.int x5), .val (.ref at_), .val (.ref b414), .val (.int (x1 &&& (3 : Int32))), .unset, .unset, .unset, .unset] [(.int r503), (.int (5 : Int32)), (.ref b414)])) rfl rfl (hb hby at_167)
      have nr504 : nar .char r503 = r503 := (own_narc b_r503)
      rw [nr504] at W504
      have ft504 : fits .char (.int r503) = true := by have q := fits_nar_char r503; rw [nr504] at q; exact q
      have f505 : Arv Z h504 b414 k414 .char (8 : Int32) [(.int r488), (.int r491), (.int r494), (.int r497), (.int r500), (.int r503), (.int (0 : Int32)), (.int (0 : Int32))] (.int (0 : Int32)) := (Arv.set Ar504 q504 S504 M504 H504 U504 ft504 W504 5 rfl (Nat.le_of_ble_eq_true rfl))
      have hk := Nat.le_trans hk (Keep.of_wr W504).1
      have N504 := Fr.snoc X504 N503 g_b414
      have O504 := O501.wr W504 g_b414
      refine own_goW st504 ?_
      show own_GoesW _ _ _ _ _ _ _ (T504.setTop (mkF m 168 #[.val (.int x0), .val (.int x1), .val (.long x2), .second, .val (.int x4), .val (.int x5), .val (.ref at_), .val (.ref b414), .val (.int (x1 &&& (3 : Int32))), .unset, .unset, .unset, .unset] []))
      refine own_goW (fun _ ww => XS.aload X504.here hx rfl (hb hby at_168) rfl rfl ww) ?_
      show own_GoesW _ _ _ _ _ _ _ (T504.setTop (mkF m 170 #[.val (.int x0), .val (.int x1), .val (.long x2), .second, .val (.int x4), .val (.int x5), .val (.ref at_), .val (.ref b414), .val (.int (x1 &&& (3 : Int32))), .unset, .unset, .unset, .unset] [(.ref b414)]))
      refine own_goW (fun _ ww => XS.bipush X504.here hx rfl (hb hby at_170) ww) ?_
      show own_GoesW _ _ _ _ _ _ _ (T504.setTop (mkF m 172 #[.val (.int x0), .val (.int x1), .val (.long x2), .second, .val (.int x4), .val (.int x5), .val (.ref at_), .val (.ref b414), .val (.int (x1 &&& (3 : Int32))), .unset, .unset, .unset, .unset] [(.int (6 : Int32)), (.ref b414)]))
      refine own_goW (fun _ ww => XT.lloadN X504.here hx rfl (hb hby at_172) rfl  ww) ?_
      show own_GoesW _ _ _ _ _ _ _ (T504.setTop (mkF m 173 #[.val (.int x0), .val (.int x1), .val (.long x2), .second, .val (.int x4), .val (.int x5), .val (.ref at_), .val (.ref b414), .val (.int (x1 &&& (3 : Int32))), .unset, .unset, .unset, .unset] [(.long x2), (.int (6 : Int32)), (.ref b414)]))
      refine own_goW (fun _ ww => XS.bipush X504.here hx rfl (hb hby at_173) ww) ?_
      show own_GoesW _ _ _ _ _ _ _ (T504.setTop (mkF m 175 #[.val (.int x0), .val (.int x1), .val (.long x2), .second, .val (.int x4), .val (.int x5), .val (.ref at_), .val (.ref b414), .val (.int (x1 &&& (3 : Int32))), .unset, .unset, .unset, .unset] [(.int (6 : Int32)), (.long x2), (.int (6 : Int32)), (.ref b414)]))
      obtain ⟨_, _, ⟨T506, L506, k506, n506⟩, -, X506, ⟨Lc506, hQ506, l506, y506, z506⟩, st506⟩ := Jvm.LawKit.callS X504 hx (y := (⟨"com/example/izin/izin/AttributeDefaultFlagPinLaw", "ch", "(JI)C"⟩ : MethodName)) hown (mvT hZ (hw _ (List.mem_of_getElem? (i := 5) rfl))) (mvT hZ (hw _ (List.mem_of_getElem? (i := 6) rfl))) (mvT hZ (hw _ (List.mem_of_getElem? (i := 7) rfl))) (mvT hZ (hw _ (List.mem_of_getElem? (i := 8) rfl))) (by decide) (backOf (W := 2) (rm_ch l Z a0 hw [] x2 (6 : Int32) h504 n0 O504 ) hZ (hw _ (List.mem_of_getElem? (i := 8) rfl)) (hw _ (List.mem_of_getElem? (i := 7) rfl)) (by decide) (by decide)) (g := (mkF m 175 #[.val (.int x0), .val (.int x1), .val (.long x2), .second, .val (.int x4), .val (.int x5), .val (.ref at_), .val (.ref b414), .val (.int (x1 &&& (3 : Int32))), .unset, .unset, .unset, .unset] [(.int (6 : Int32)), (.long x2), (.int (6 : Int32)), (.ref b414)])) rfl (by rw [hml]; rfl) (argsL := [(.long x2), (.int (6 : Int32))]) (rest := [(.int (6 : Int32)), (.ref b414)]) (lenOf pd_7 rfl) rfl (by show 2 * 0 + _ ≤ _; exact Nat.le_of_eq rfl) (hb hby at_175) (fun _ _ => ⟨rfl, e504, (by decide : 1 + 0 ≤ _), (by decide : 8 + 0 ≤ _)⟩)
      dsimp only [Pt.U, Pt.locs, Pt.cells, Pt.slots] at X506 l506 y506 z506 st506 hQ506
      subst l506 y506 z506
      obtain ⟨r506, rfl, N506q, e506, b_r506⟩ := hQ506
      have N506 := Fr.app N504 N506q
      refine own_goW st506 ?_
      show own_GoesW _ _ _ _ _ _ _ (T506.setTop (mkF m 178 #[.val (.int x0), .val (.int x1), .val (.long x2), .second, .val (.int x4), .val (.int x5), .val (.ref at_), .val (.ref b414), .val (.int (x1 &&& (3 : Int32))), .unset, .unset, .unset, .unset] [(.int r506), (.int (6 : Int32)), (.ref b414)]))
      obtain ⟨cl507, Ar507, q507, S507, M507, H507, U507⟩ := id f505
      obtain ⟨T507, h507, X507, e507, W507, st507⟩ := stC X506 hx hZ e506 Ar507 (j := (6 : Int32)) (inb_of S507 ⟨by decide, by decide⟩) (g := (mkF m 178 #[.val (.int x0), .val (.int x1), .val (.long x2), .second, .val (.int x4), .val (.int x5), .val (.ref at_), .val (.ref b414), .val (.int (x1 &&& (3 : Int32))), .unset, .unset, .unset, .unset] [(.int r506), (.int (6 : Int32)), (.ref b414)])) rfl rfl (hb hby at_178)
      have nr507 : nar .char r506 = r506 := (own_narc b_r506)
      rw [nr507] at W507
      have ft507 : fits .char (.int r506) = true := by have q := fits_nar_char r506; rw [nr507] at q; exact q
      have f508 : Arv Z h507 b414 k414 .char (8 : Int32) [(.int r488), (.int r491), (.int r494), (.int r497), (.int r500), (.int r503), (.int r506), (.int (0 : Int32))] (.int (0 : Int32)) := (Arv.set Ar507 q507 S507 M507 H507 U507 ft507 W507 6 rfl (Nat.le_of_ble_eq_true rfl))
      have hk := Nat.le_trans hk (Keep.of_wr W507).1
      have N507 := Fr.snoc X507 N506 g_b414
      have O507 := O504.wr W507 g_b414
      refine own_goW st507 ?_
      show own_GoesW _ _ _ _ _ _ _ (T507.setTop (mkF m 179 #[.val (.int x0), .val (.int x1), .val (.long x2), .second, .val (.int x4), .val (.int x5), .val (.ref at_), .val (.ref b414), .val (.int (x1 &&& (3 : Int32))), .unset, .unset, .unset, .unset] []))
      refine own_goW (fun _ ww => XS.aload X507.here hx rfl (hb hby at_179) rfl rfl ww) ?_
      show own_GoesW _ _ _ _ _ _ _ (T507.setTop (mkF m 181 #[.val (.int x0), .val (.int x1), .val (.long x2), .second, .val (.int x4), .val (.int x5), .val (.ref at_), .val (.ref b414), .val (.int (x1 &&& (3 : Int32))), .unset, .unset, .unset, .unset] [(.ref b414)]))
      refine own_goW (fun _ ww => XS.bipush X507.here hx rfl (hb hby at_181) ww) ?_
      show own_GoesW _ _ _ _ _ _ _ (T507.setTop (mkF m 183 #[.val (.int x0), .val (.int x1), .val (.long x2), .second, .val (.int x4), .val (.int x5), .val (.ref at_), .val (.ref b414), .val (.int (x1 &&& (3 : Int32))), .unset, .unset, .unset, .unset] [(.int (7 : Int32)), (.ref b414)]))
      refine own_goW (fun _ ww => XT.lloadN X507.here hx rfl (hb hby at_183) rfl  ww) ?_
      show own_GoesW _ _ _ _ _ _ _ (T507.setTop (mkF m 184 #[.val (.int x0), .val (.int x1), .val (.long x2), .second, .val (.int x4), .val (.int x5), .val (.ref at_), .val (.ref b414), .val (.int (x1 &&& (3 : Int32))), .unset, .unset, .unset, .unset] [(.long x2), (.int (7 : Int32)), (.ref b414)]))
      refine own_goW (fun _ ww => XS.bipush X507.here hx rfl (hb hby at_184) ww) ?_
      show own_GoesW _ _ _ _ _ _ _ (T507.setTop (mkF m 186 #[.val (.int x0), .val (.int x1), .val (.long x2), .second, .val (.int x4), .val (.int x5), .val (.ref at_), .val (.ref b414), .val (.int (x1 &&& (3 : Int32))), .unset, .unset, .unset, .unset] [(.int (7 : Int32)), (.long x2), (.int (7 : Int32)), (.ref b414)]))
      obtain ⟨_, _, ⟨T509, L509, k509, n509⟩, -, X509, ⟨Lc509, hQ509, l509, y509, z509⟩, st509⟩ := Jvm.LawKit.callS X507 hx (y := (⟨"com/example/izin/izin/AttributeDefaultFlagPinLaw", "ch", "(JI)C"⟩ : MethodName)) hown (mvT hZ (hw _ (List.mem_of_getElem? (i := 5) rfl))) (mvT hZ (hw _ (List.mem_of_getElem? (i := 6) rfl))) (mvT hZ (hw _ (List.mem_of_getElem? (i := 7) rfl))) (mvT hZ (hw _ (List.mem_of_getElem? (i := 8) rfl))) (by decide) (backOf (W := 2) (rm_ch l Z a0 hw [] x2 (7 : Int32) h507 n0 O507 ) hZ (hw _ (List.mem_of_getElem? (i := 8) rfl)) (hw _ (List.mem_of_getElem? (i := 7) rfl)) (by decide) (by decide)) (g := (mkF m 186 #[.val (.int x0), .val (.int x1), .val (.long x2), .second, .val (.int x4), .val (.int x5), .val (.ref at_), .val (.ref b414), .val (.int (x1 &&& (3 : Int32))), .unset, .unset, .unset, .unset] [(.int (7 : Int32)), (.long x2), (.int (7 : Int32)), (.ref b414)])) rfl (by rw [hml]; rfl) (argsL := [(.long x2), (.int (7 : Int32))]) (rest := [(.int (7 : Int32)), (.ref b414)]) (lenOf pd_7 rfl) rfl (by show 2 * 0 + _ ≤ _; exact Nat.le_of_eq rfl) (hb hby at_186) (fun _ _ => ⟨rfl, e507, (by decide : 1 + 0 ≤ _), (by decide : 8 + 0 ≤ _)⟩)
      dsimp only [Pt.U, Pt.locs, Pt.cells, Pt.slots] at X509 l509 y509 z509 st509 hQ509
      subst l509 y509 z509
      obtain ⟨r509, rfl, N509q, e509, b_r509⟩ := hQ509
      have N509 := Fr.app N507 N509q
      refine own_goW st509 ?_
      show own_GoesW _ _ _ _ _ _ _ (T509.setTop (mkF m 189 #[.val (.int x0), .val (.int x1), .val (.long x2), .second, .val (.int x4), .val (.int x5), .val (.ref at_), .val (.ref b414), .val (.int (x1 &&& (3 : Int32))), .unset, .unset, .unset, .unset] [(.int r509), (.int (7 : Int32)), (.ref b414)]))
      obtain ⟨cl510, Ar510, q510, S510, M510, H510, U510⟩ := id f508
      obtain ⟨T510, h510, X510, e510, W510, st510⟩ := stC X509 hx hZ e509 Ar510 (j := (7 : Int32)) (inb_of S510 ⟨by decide, by decide⟩) (g := (mkF m 189 #[.val (.int x0), .val (.int x1), .val (.long x2), .second, .val (.int x4), .val (.int x5), .val (.ref at_), .val (.ref b414), .val (.int (x1 &&& (3 : Int32))), .unset, .unset, .unset, .unset] [(.int r509), (.int (7 : Int32)), (.ref b414)])) rfl rfl (hb hby at_189)
      have nr510 : nar .char r509 = r509 := (own_narc b_r509)
      rw [nr510] at W510
      have ft510 : fits .char (.int r509) = true := by have q := fits_nar_char r509; rw [nr510] at q; exact q
      have f511 : Arv Z h510 b414 k414 .char (8 : Int32) [(.int r488), (.int r491), (.int r494), (.int r497), (.int r500), (.int r503), (.int r506), (.int r509)] (.int (0 : Int32)) := (Arv.set Ar510 q510 S510 M510 H510 U510 ft510 W510 7 rfl (Nat.le_of_ble_eq_true rfl))
      have hk := Nat.le_trans hk (Keep.of_wr W510).1
      have N510 := Fr.snoc X510 N509 g_b414
      have O510 := O507.wr W510 g_b414
      refine own_goW st510 ?_
      show own_GoesW _ _ _ _ _ _ _ (T510.setTop (mkF m 190 #[.val (.int x0), .val (.int x1), .val (.long x2), .second, .val (.int x4), .val (.int x5), .val (.ref at_), .val (.ref b414), .val (.int (x1 &&& (3 : Int32))), .unset, .unset, .unset, .unset] []))
      refine own_goW (fun _ ww => XS.iload X510.here hx rfl (hb hby at_190) rfl  ww) ?_
      show own_GoesW _ _ _ _ _ _ _ (T510.setTop (mkF m 192 #[.val (.int x0), .val (.int x1), .val (.long x2), .second, .val (.int x4), .val (.int x5), .val (.ref at_), .val (.ref b414), .val (.int (x1 &&& (3 : Int32))), .unset, .unset, .unset, .unset] [(.int x4)]))
      refine own_goW (fun _ ww => XS.bipush X510.here hx rfl (hb hby at_192) ww) ?_
      show own_GoesW _ _ _ _ _ _ _ (T510.setTop (mkF m 194 #[.val (.int x0), .val (.int x1), .val (.long x2), .second, .val (.int x4), .val (.int x5), .val (.ref at_), .val (.ref b414), .val (.int (x1 &&& (3 : Int32))), .unset, .unset, .unset, .unset] [(.int (7 : Int32)), (.int x4)]))
      refine own_goW (fun _ ww => XS.iand X510.here hx rfl (hb hby at_194) rfl ww) ?_
      show own_GoesW _ _ _ _ _ _ _ (T510.setTop (mkF m 195 #[.val (.int x0), .val (.int x1), .val (.long x2), .second, .val (.int x4), .val (.int x5), .val (.ref at_), .val (.ref b414), .val (.int (x1 &&& (3 : Int32))), .unset, .unset, .unset, .unset] [(.int (x4 &&& (7 : Int32)))]))
      refine own_goW (fun _ ww => XS.istore X510.here hx rfl (hb hby at_195) rfl (l' := #[.val (.int x0), .val (.int x1), .val (.long x2), .second, .val (.int x4), .val (.int x5), .val (.ref at_), .val (.ref b414), .val (.int (x1 &&& (3 : Int32))), .val (.int (x4 &&& (7 : Int32))), .unset, .unset, .unset]) rfl ww) ?_
      show own_GoesW _ _ _ _ _ _ _ (T510.setTop (mkF m 197 #[.val (.int x0), .val (.int x1), .val (.long x2), .second, .val (.int x4), .val (.int x5), .val (.ref at_), .val (.ref b414), .val (.int (x1 &&& (3 : Int32))), .val (.int (x4 &&& (7 : Int32))), .unset, .unset, .unset] []))
      refine own_goW (fun _ ww => XS.goto X510.here hx rfl (pc0 := 197) (pc' := 304) rfl (hb hby at_197) (by decide) (by decide) ww) ?_
      show own_GoesW _ _ _ _ _ _ _ (T510.setTop (mkF m 304 #[.val (.int x0), .val (.int x1), .val (.long x2), .second, .val (.int x4), .val (.int x5), .val (.ref at_), .val (.ref b414), .val (.int (x1 &&& (3 : Int32))), .val (.int (x4 &&& (7 : Int32))), .unset, .unset, .unset] []))
      exact H304 _ _ _ X510 e510 N510 O510 hk r488 r491 r494 r497 r500 r503 r506 r509 (x1 &&& (3 : Int32)) (x4 &&& (7 : Int32)) b_r488 b_r491 b_r494 b_r497 b_r500 b_r503 b_r506 b_r509 f511
    ·
      refine own_goW (fun _ ww => XS.icmpYes X414.here hx rfl (pc0 := 111) (pc' := 200) rfl (hb hby at_111) rfl (feq hc487).2 (by decide) (by decide) ww) ?_
      show own_GoesW _ _ _ _ _ _ _ (T414.setTop (mkF m 200 #[.val (.int x0), .val (.int x1), .val (.long x2), .second, .val (.int x4), .val (.int x5), .val (.ref at_), .val (.ref b414), .val (.int (x1 &&& (3 : Int32))), .unset, .unset, .unset, .unset] []))
      refine own_goW (fun _ ww => XS.aload X414.here hx rfl (hb hby at_200) rfl rfl ww) ?_
      show own_GoesW _ _ _ _ _ _ _ (T414.setTop (mkF m 202 #[.val (.int x0), .val (.int x1), .val (.long x2), .second, .val (.int x4), .val (.int x5), .val (.ref at_), .val (.ref b414), .val (.int (x1 &&& (3 : Int32))), .unset, .unset, .unset, .unset] [(.ref b414)]))
      refine own_goW (fun _ ww => XS.iconst X414.here hx rfl (hb hby at_202) ww) ?_
      show own_GoesW _ _ _ _ _ _ _ (T414.setTop (mkF m 203 #[.val (.int x0), .val (.int x1), .val (.long x2), .second, .val (.int x4), .val (.int x5), .val (.ref at_), .val (.ref b414), .val (.int (x1 &&& (3 : Int32))), .unset, .unset, .unset, .unset] [(.int (0 : Int32)), (.ref b414)]))
      refine own_goW (fun _ ww => XS.bipush X414.here hx rfl (hb hby at_203) ww) ?_
      show own_GoesW _ _ _ _ _ _ _ (T414.setTop (mkF m 205 #[.val (.int x0), .val (.int x1), .val (.long x2), .second, .val (.int x4), .val (.int x5), .val (.ref at_), .val (.ref b414), .val (.int (x1 &&& (3 : Int32))), .unset, .unset, .unset, .unset] [(.int (112 : Int32)), (.int (0 : Int32)), (.ref b414)]))
      obtain ⟨cl512, Ar512, q512, S512, M512, H512, U512⟩ := id V414
      obtain ⟨T512, h512, X512, e512, W512, st512⟩ := stC X414 hx hZ e414 Ar512 (j := (0 : Int32)) (inb_of S512 ⟨by decide, by decide⟩) (g := (mkF m 205 #[.val (.int x0), .val (.int x1), .val (.long x2), .second, .val (.int x4), .val (.int x5), .val (.ref at_), .val (.ref b414), .val (.int (x1 &&& (3 : Int32))), .unset, .unset, .unset, .unset] [(.int (112 : Int32)), (.int (0 : Int32)), (.ref b414)])) rfl rfl (hb hby at_205)
      have nr512 : nar .char (112 : Int32) = (112 : Int32) := (by decide)
      rw [nr512] at W512
      have ft512 : fits .char (.int (112 : Int32)) = true := by have q := fits_nar_char (112 : Int32); rw [nr512] at q; exact q
      have f513 : Arv Z h512 b414 k414 .char (8 : Int32) [(.int (112 : Int32)), (.int (0 : Int32)), (.int (0 : Int32)), (.int (0 : Int32)), (.int (0 : Int32)), (.int (0 : Int32)), (.int (0 : Int32)), (.int (0 : Int32))] (.int (0 : Int32)) := (Arv.set Ar512 q512 S512 M512 H512 U512 ft512 W512 0 rfl (Nat.le_of_ble_eq_true rfl))
      have hk := Nat.le_trans hk (Keep.of_wr W512).1
      have N512 := Fr.snoc X512 N0 g_b414
      have O512 := O414.wr W512 g_b414
      refine own_goW st512 ?_
      show own_GoesW _ _ _ _ _ _ _ (T512.setTop (mkF m 206 #[.val (.int x0), .val (.int x1), .val (.long x2), .second, .val (.int x4), .val (.int x5), .val (.ref at_), .val (.ref b414), .val (.int (x1 &&& (3 : Int32))), .unset, .unset, .unset, .unset] []))
      refine own_goW (fun _ ww => XS.aload X512.here hx rfl (hb hby at_206) rfl rfl ww) ?_
      show own_GoesW _ _ _ _ _ _ _ (T512.setTop (mkF m 208 #[.val (.int x0), .val (.int x1), .val (.long x2), .second, .val (.int x4), .val (.int x5), .val (.ref at_), .val (.ref b414), .val (.int (x1 &&& (3 : Int32))), .unset, .unset, .unset, .unset] [(.ref b414)]))
      refine own_goW (fun _ ww => XS.iconst X512.here hx rfl (hb hby at_208) ww) ?_
      show own_GoesW _ _ _ _ _ _ _ (T512.setTop (mkF m 209 #[.val (.int x0), .val (.int x1), .val (.long x2), .second, .val (.int x4), .val (.int x5), .val (.ref at_), .val (.ref b414), .val (.int (x1 &&& (3 : Int32))), .unset, .unset, .unset, .unset] [(.int (1 : Int32)), (.ref b414)]))
      refine own_goW (fun _ ww => XS.bipush X512.here hx rfl (hb hby at_209) ww) ?_
      show own_GoesW _ _ _ _ _ _ _ (T512.setTop (mkF m 211 #[.val (.int x0), .val (.int x1), .val (.long x2), .second, .val (.int x4), .val (.int x5), .val (.ref at_), .val (.ref b414), .val (.int (x1 &&& (3 : Int32))), .unset, .unset, .unset, .unset] [(.int (117 : Int32)), (.int (1 : Int32)), (.ref b414)]))
      obtain ⟨cl514, Ar514, q514, S514, M514, H514, U514⟩ := id f513
      obtain ⟨T514, h514, X514, e514, W514, st514⟩ := stC X512 hx hZ e512 Ar514 (j := (1 : Int32)) (inb_of S514 ⟨by decide, by decide⟩) (g := (mkF m 211 #[.val (.int x0), .val (.int x1), .val (.long x2), .second, .val (.int x4), .val (.int x5), .val (.ref at_), .val (.ref b414), .val (.int (x1 &&& (3 : Int32))), .unset, .unset, .unset, .unset] [(.int (117 : Int32)), (.int (1 : Int32)), (.ref b414)])) rfl rfl (hb hby at_211)
      have nr514 : nar .char (117 : Int32) = (117 : Int32) := (by decide)
      rw [nr514] at W514
      have ft514 : fits .char (.int (117 : Int32)) = true := by have q := fits_nar_char (117 : Int32); rw [nr514] at q; exact q
      have f515 : Arv Z h514 b414 k414 .char (8 : Int32) [(.int (112 : Int32)), (.int (117 : Int32)), (.int (0 : Int32)), (.int (0 : Int32)), (.int (0 : Int32)), (.int (0 : Int32)), (.int (0 : Int32)), (.int (0 : Int32))] (.int (0 : Int32)) := (Arv.set Ar514 q514 S514 M514 H514 U514 ft514 W514 1 rfl (Nat.le_of_ble_eq_true rfl))
      have hk := Nat.le_trans hk (Keep.of_wr W514).1
      have N514 := Fr.snoc X514 N512 g_b414
      have O514 := O512.wr W514 g_b414
      refine own_goW st514 ?_
      show own_GoesW _ _ _ _ _ _ _ (T514.setTop (mkF m 212 #[.val (.int x0), .val (.int x1), .val (.long x2), .second, .val (.int x4), .val (.int x5), .val (.ref at_), .val (.ref b414), .val (.int (x1 &&& (3 : Int32))), .unset, .unset, .unset, .unset] []))
      refine own_goW (fun _ ww => XS.aload X514.here hx rfl (hb hby at_212) rfl rfl ww) ?_
      show own_GoesW _ _ _ _ _ _ _ (T514.setTop (mkF m 214 #[.val (.int x0), .val (.int x1), .val (.long x2), .second, .val (.int x4), .val (.int x5), .val (.ref at_), .val (.ref b414), .val (.int (x1 &&& (3 : Int32))), .unset, .unset, .unset, .unset] [(.ref b414)]))
      refine own_goW (fun _ ww => XS.iconst X514.here hx rfl (hb hby at_214) ww) ?_
      show own_GoesW _ _ _ _ _ _ _ (T514.setTop (mkF m 215 #[.val (.int x0), .val (.int x1), .val (.long x2), .second, .val (.int x4), .val (.int x5), .val (.ref at_), .val (.ref b414), .val (.int (x1 &&& (3 : Int32))), .unset, .unset, .unset, .unset] [(.int (2 : Int32)), (.ref b414)]))
      refine own_goW (fun _ ww => XS.bipush X514.here hx rfl (hb hby at_215) ww) ?_
      show own_GoesW _ _ _ _ _ _ _ (T514.setTop (mkF m 217 #[.val (.int x0), .val (.int x1), .val (.long x2), .second, .val (.int x4), .val (.int x5), .val (.ref at_), .val (.ref b414), .val (.int (x1 &&& (3 : Int32))), .unset, .unset, .unset, .unset] [(.int (98 : Int32)), (.int (2 : Int32)), (.ref b414)]))
      obtain ⟨cl516, Ar516, q516, S516, M516, H516, U516⟩ := id f515
      obtain ⟨T516, h516, X516, e516, W516, st516⟩ := stC X514 hx hZ e514 Ar516 (j := (2 : Int32)) (inb_of S516 ⟨by decide, by decide⟩) (g := (mkF m 217 #[.val (.int x0), .val (.int x1), .val (.long x2), .second, .val (.int x4), .val (.int x5), .val (.ref at_), .val (.ref b414), .val (.int (x1 &&& (3 : Int32))), .unset, .unset, .unset, .unset] [(.int (98 : Int32)), (.int (2 : Int32)), (.ref b414)])) rfl rfl (hb hby at_217)
      have nr516 : nar .char (98 : Int32) = (98 : Int32) := (by decide)
      rw [nr516] at W516
      have ft516 : fits .char (.int (98 : Int32)) = true := by have q := fits_nar_char (98 : Int32); rw [nr516] at q; exact q
      have f517 : Arv Z h516 b414 k414 .char (8 : Int32) [(.int (112 : Int32)), (.int (117 : Int32)), (.int (98 : Int32)), (.int (0 : Int32)), (.int (0 : Int32)), (.int (0 : Int32)), (.int (0 : Int32)), (.int (0 : Int32))] (.int (0 : Int32)) := (Arv.set Ar516 q516 S516 M516 H516 U516 ft516 W516 2 rfl (Nat.le_of_ble_eq_true rfl))
      have hk := Nat.le_trans hk (Keep.of_wr W516).1
      have N516 := Fr.snoc X516 N514 g_b414
      have O516 := O514.wr W516 g_b414
      refine own_goW st516 ?_
      show own_GoesW _ _ _ _ _ _ _ (T516.setTop (mkF m 218 #[.val (.int x0), .val (.int x1), .val (.long x2), .second, .val (.int x4), .val (.int x5), .val (.ref at_), .val (.ref b414), .val (.int (x1 &&& (3 : Int32))), .unset, .unset, .unset, .unset] []))
      refine own_goW (fun _ ww => XS.aload X516.here hx rfl (hb hby at_218) rfl rfl ww) ?_
      show own_GoesW _ _ _ _ _ _ _ (T516.setTop (mkF m 220 #[.val (.int x0), .val (.int x1), .val (.long x2), .second, .val (.int x4), .val (.int x5), .val (.ref at_), .val (.ref b414), .val (.int (x1 &&& (3 : Int32))), .unset, .unset, .unset, .unset] [(.ref b414)]))
      refine own_goW (fun _ ww => XS.iconst X516.here hx rfl (hb hby at_220) ww) ?_
      show own_GoesW _ _ _ _ _ _ _ (T516.setTop (mkF m 221 #[.val (.int x0), .val (.int x1), .val (.long x2), .second, .val (.int x4), .val (.int x5), .val (.ref at_), .val (.ref b414), .val (.int (x1 &&& (3 : Int32))), .unset, .unset, .unset, .unset] [(.int (3 : Int32)), (.ref b414)]))
      refine own_goW (fun _ ww => XS.bipush X516.here hx rfl (hb hby at_221) ww) ?_
      show own_GoesW _ _ _ _ _ _ _ (T516.setTop (mkF m 223 #[.val (.int x0), .val (.int x1), .val (.long x2), .second, .val (.int x4), .val (.int x5), .val (.ref at_), .val (.ref b414), .val (.int (x1 &&& (3 : Int32))), .unset, .unset, .unset, .unset] [(.int (108 : Int32)), (.int (3 : Int32)), (.ref b414)]))
      obtain ⟨cl518, Ar518, q518, S518, M518, H518, U518⟩ := id f517
      obtain ⟨T518, h518, X518, e518, W518, st518⟩ := stC X516 hx hZ e516 Ar518 (j := (3 : Int32)) (inb_of S518 ⟨by decide, by decide⟩) (g := (mkF m 223 #[.val (.int x0), .val (.int x1), .val (.long x2), .second, .val (.int x4), .val (.int x5), .val (.ref at_), .val (.ref b414), .val (.int (x1 &&& (3 : Int32))), .unset, .unset, .unset, .unset] [(.int (108 : Int32)), (.int (3 : Int32)), (.ref b414)])) rfl rfl (hb hby at_223)
      have nr518 : nar .char (108 : Int32) = (108 : Int32) := (by decide)
      rw [nr518] at W518
      have ft518 : fits .char (.int (108 : Int32)) = true := by have q := fits_nar_char (108 : Int32); rw [nr518] at q; exact q
      have f519 : Arv Z h518 b414 k414 .char (8 : Int32) [(.int (112 : Int32)), (.int (117 : Int32)), (.int (98 : Int32)), (.int (108 : Int32)), (.int (0 : Int32)), (.int (0 : Int32)), (.int (0 : Int32)), (.int (0 : Int32))] (.int (0 : Int32)) := (Arv.set Ar518 q518 S518 M518 H518 U518 ft518 W518 3 rfl (Nat.le_of_ble_eq_true rfl))
      have hk := Nat.le_trans hk (Keep.of_wr W518).1
      have N518 := Fr.snoc X518 N516 g_b414
      have O518 := O516.wr W518 g_b414
      refine own_goW st518 ?_
      show own_GoesW _ _ _ _ _ _ _ (T518.setTop (mkF m 224 #[.val (.int x0), .val (.int x1), .val (.long x2), .second, .val (.int x4), .val (.int x5), .val (.ref at_), .val (.ref b414), .val (.int (x1 &&& (3 : Int32))), .unset, .unset, .unset, .unset] []))
      refine own_goW (fun _ ww => XS.aload X518.here hx rfl (hb hby at_224) rfl rfl ww) ?_
      show own_GoesW _ _ _ _ _ _ _ (T518.setTop (mkF m 226 #[.val (.int x0), .val (.int x1), .val (.long x2), .second, .val (.int x4), .val (.int x5), .val (.ref at_), .val (.ref b414), .val (.int (x1 &&& (3 : Int32))), .unset, .unset, .unset, .unset] [(.ref b414)]))
      refine own_goW (fun _ ww => XS.iconst X518.here hx rfl (hb hby at_226) ww) ?_
      show own_GoesW _ _ _ _ _ _ _ (T518.setTop (mkF m 227 #[.val (.int x0), .val (.int x1), .val (.long x2), .second, .val (.int x4), .val (.int x5), .val (.ref at_), .val (.ref b414), .val (.int (x1 &&& (3 : Int32))), .unset, .unset, .unset, .unset] [(.int (4 : Int32)), (.ref b414)]))
      refine own_goW (fun _ ww => XS.bipush X518.here hx rfl (hb hby at_227) ww) ?_
      show own_GoesW _ _ _ _ _ _ _ (T518.setTop (mkF m 229 #[.val (.int x0), .val (.int x1), .val (.long x2), .second, .val (.int x4), .val (.int x5), .val (.ref at_), .val (.ref b414), .val (.int (x1 &&& (3 : Int32))), .unset, .unset, .unset, .unset] [(.int (105 : Int32)), (.int (4 : Int32)), (.ref b414)]))
      obtain ⟨cl520, Ar520, q520, S520, M520, H520, U520⟩ := id f519
      obtain ⟨T520, h520, X520, e520, W520, st520⟩ := stC X518 hx hZ e518 Ar520 (j := (4 : Int32)) (inb_of S520 ⟨by decide, by decide⟩) (g := (mkF m 229 #[.val (.int x0), .val (.int x1), .val (.long x2), .second, .val (.int x4), .val (.int x5), .val (.ref at_), .val (.ref b414), .val (.int (x1 &&& (3 : Int32))), .unset, .unset, .unset, .unset] [(.int (105 : Int32)), (.int (4 : Int32)), (.ref b414)])) rfl rfl (hb hby at_229)
      have nr520 : nar .char (105 : Int32) = (105 : Int32) := (by decide)
      rw [nr520] at W520
      have ft520 : fits .char (.int (105 : Int32)) = true := by have q := fits_nar_char (105 : Int32); rw [nr520] at q; exact q
      have f521 : Arv Z h520 b414 k414 .char (8 : Int32) [(.int (112 : Int32)), (.int (117 : Int32)), (.int (98 : Int32)), (.int (108 : Int32)), (.int (105 : Int32)), (.int (0 : Int32)), (.int (0 : Int32)), (.int (0 : Int32))] (.int (0 : Int32)) := (Arv.set Ar520 q520 S520 M520 H520 U520 ft520 W520 4 rfl (Nat.le_of_ble_eq_true rfl))
      have hk := Nat.le_trans hk (Keep.of_wr W520).1
      have N520 := Fr.snoc X520 N518 g_b414
      have O520 := O518.wr W520 g_b414
      refine own_goW st520 ?_
      show own_GoesW _ _ _ _ _ _ _ (T520.setTop (mkF m 230 #[.val (.int x0), .val (.int x1), .val (.long x2), .second, .val (.int x4), .val (.int x5), .val (.ref at_), .val (.ref b414), .val (.int (x1 &&& (3 : Int32))), .unset, .unset, .unset, .unset] []))
      refine own_goW (fun _ ww => XS.aload X520.here hx rfl (hb hby at_230) rfl rfl ww) ?_
      show own_GoesW _ _ _ _ _ _ _ (T520.setTop (mkF m 232 #[.val (.int x0), .val (.int x1), .val (.long x2), .second, .val (.int x4), .val (.int x5), .val (.ref at_), .val (.ref b414), .val (.int (x1 &&& (3 : Int32))), .unset, .unset, .unset, .unset] [(.ref b414)]))
      refine own_goW (fun _ ww => XS.iconst X520.here hx rfl (hb hby at_232) ww) ?_
      show own_GoesW _ _ _ _ _ _ _ (T520.setTop (mkF m 233 #[.val (.int x0), .val (.int x1), .val (.long x2), .second, .val (.int x4), .val (.int x5), .val (.ref at_), .val (.ref b414), .val (.int (x1 &&& (3 : Int32))), .unset, .unset, .unset, .unset] [(.int (5 : Int32)), (.ref b414)]))
      refine own_goW (fun _ ww => XS.bipush X520.here hx rfl (hb hby at_233) ww) ?_
      show own_GoesW _ _ _ _ _ _ _ (T520.setTop (mkF m 235 #[.val (.int x0), .val (.int x1), .val (.long x2), .second, .val (.int x4), .val (.int x5), .val (.ref at_), .val (.ref b414), .val (.int (x1 &&& (3 : Int32))), .unset, .unset, .unset, .unset] [(.int (99 : Int32)), (.int (5 : Int32)), (.ref b414)]))
      obtain ⟨cl522, Ar522, q522, S522, M522, H522, U522⟩ := id f521
      obtain ⟨T522, h522, X522, e522, W522, st522⟩ := stC X520 hx hZ e520 Ar522 (j := (5 : Int32)) (inb_of S522 ⟨by decide, by decide⟩) (g := (mkF m 235 #[.val (.int x0), .val (.int x1), .val (.long x2), .second, .val (.int x4), .val (.int x5), .val (.ref at_), .val (.ref b414), .val (.int (x1 &&& (3 : Int32))), .unset, .unset, .unset, .unset] [(.int (99 : Int32)), (.int (5 : Int32)), (.ref b414)])) rfl rfl (hb hby at_235)
      have nr522 : nar .char (99 : Int32) = (99 : Int32) := (by decide)
      rw [nr522] at W522
      have ft522 : fits .char (.int (99 : Int32)) = true := by have q := fits_nar_char (99 : Int32); rw [nr522] at q; exact q
      have f523 : Arv Z h522 b414 k414 .char (8 : Int32) [(.int (112 : Int32)), (.int (117 : Int32)), (.int (98 : Int32)), (.int (108 : Int32)), (.int (105 : Int32)), (.int (99 : Int32)), (.int (0 : Int32)), (.int (0 : Int32))] (.int (0 : Int32)) := (Arv.set Ar522 q522 S522 M522 H522 U522 ft522 W522 5 rfl (Nat.le_of_ble_eq_true rfl))
      have hk := Nat.le_trans hk (Keep.of_wr W522).1
      have N522 := Fr.snoc X522 N520 g_b414
      have O522 := O520.wr W522 g_b414
      refine own_goW st522 ?_
      show own_GoesW _ _ _ _ _ _ _ (T522.setTop (mkF m 236 #[.val (.int x0), .val (.int x1), .val (.long x2), .second, .val (.int x4), .val (.int x5), .val (.ref at_), .val (.ref b414), .val (.int (x1 &&& (3 : Int32))), .unset, .unset, .unset, .unset] []))
      refine own_goW (fun _ ww => XS.aload X522.here hx rfl (hb hby at_236) rfl rfl ww) ?_
      show own_GoesW _ _ _ _ _ _ _ (T522.setTop (mkF m 238 #[.val (.int x0), .val (.int x1), .val (.long x2), .second, .val (.int x4), .val (.int x5), .val (.ref at_), .val (.ref b414), .val (.int (x1 &&& (3 : Int32))), .unset, .unset, .unset, .unset] [(.ref b414)]))
      refine own_goW (fun _ ww => XS.bipush X522.here hx rfl (hb hby at_238) ww) ?_
      show own_GoesW _ _ _ _ _ _ _ (T522.setTop (mkF m 240 #[.val (.int x0), .val (.int x1), .val (.long x2), .second, .val (.int x4), .val (.int x5), .val (.ref at_), .val (.ref b414), .val (.int (x1 &&& (3 : Int32))), .unset, .unset, .unset, .unset] [(.int (6 : Int32)), (.ref b414)]))
      refine own_goW (fun _ ww => XT.lloadN X522.here hx rfl (hb hby at_240) rfl  ww) ?_
      show own_GoesW _ _ _ _ _ _ _ (T522.setTop (mkF m 241 #[.val (.int x0), .val (.int x1), .val (.long x2), .second, .val (.int x4), .val (.int x5), .val (.ref at_), .val (.ref b414), .val (.int (x1 &&& (3 : Int32))), .unset, .unset, .unset, .unset] [(.long x2), (.int (6 : Int32)), (.ref b414)]))
      refine own_goW (fun _ ww => XS.iconst X522.here hx rfl (hb hby at_241) ww) ?_
      show own_GoesW _ _ _ _ _ _ _ (T522.setTop (mkF m 242 #[.val (.int x0), .val (.int x1), .val (.long x2), .second, .val (.int x4), .val (.int x5), .val (.ref at_), .val (.ref b414), .val (.int (x1 &&& (3 : Int32))), .unset, .unset, .unset, .unset] [(.int (0 : Int32)), (.long x2), (.int (6 : Int32)), (.ref b414)]))
      obtain ⟨_, _, ⟨T524, L524, k524, n524⟩, -, X524, ⟨Lc524, hQ524, l524, y524, z524⟩, st524⟩ := Jvm.LawKit.callS X522 hx (y := (⟨"com/example/izin/izin/AttributeDefaultFlagPinLaw", "ch", "(JI)C"⟩ : MethodName)) hown (mvT hZ (hw _ (List.mem_of_getElem? (i := 5) rfl))) (mvT hZ (hw _ (List.mem_of_getElem? (i := 6) rfl))) (mvT hZ (hw _ (List.mem_of_getElem? (i := 7) rfl))) (mvT hZ (hw _ (List.mem_of_getElem? (i := 8) rfl))) (by decide) (backOf (W := 2) (rm_ch l Z a0 hw [] x2 (0 : Int32) h522 n0 O522 ) hZ (hw _ (List.mem_of_getElem? (i := 8) rfl)) (hw _ (List.mem_of_getElem? (i := 7) rfl)) (by decide) (by decide)) (g := (mkF m 242 #[.val (.int x0), .val (.int x1), .val (.long x2), .second, .val (.int x4), .val (.int x5), .val (.ref at_), .val (.ref b414), .val (.int (x1 &&& (3 : Int32))), .unset, .unset, .unset, .unset] [(.int (0 : Int32)), (.long x2), (.int (6 : Int32)), (.ref b414)])) rfl (by rw [hml]; rfl) (argsL := [(.long x2), (.int (0 : Int32))]) (rest := [(.int (6 : Int32)), (.ref b414)]) (lenOf pd_7 rfl) rfl (by show 2 * 0 + _ ≤ _; exact Nat.le_of_eq rfl) (hb hby at_242) (fun _ _ => ⟨rfl, e522, (by decide : 1 + 0 ≤ _), (by decide : 8 + 0 ≤ _)⟩)
      dsimp only [Pt.U, Pt.locs, Pt.cells, Pt.slots] at X524 l524 y524 z524 st524 hQ524
      subst l524 y524 z524
      obtain ⟨r524, rfl, N524q, e524, b_r524⟩ := hQ524
      have N524 := Fr.app N522 N524q
      refine own_goW st524 ?_
      show own_GoesW _ _ _ _ _ _ _ (T524.setTop (mkF m 245 #[.val (.int x0), .val (.int x1), .val (.long x2), .second, .val (.int x4), .val (.int x5), .val (.ref at_), .val (.ref b414), .val (.int (x1 &&& (3 : Int32))), .unset, .unset, .unset, .unset] [(.int r524), (.int (6 : Int32)), (.ref b414)]))
      obtain ⟨cl525, Ar525, q525, S525, M525, H525, U525⟩ := id f523
      obtain ⟨T525, h525, X525, e525, W525, st525⟩ := stC X524 hx hZ e524 Ar525 (j := (6 : Int32)) (inb_of S525 ⟨by decide, by decide⟩) (g := (mkF m 245 #[.val (.int x0), .val (.int x1), .val (.long x2), .second, .val (.int x4), .val (.int x5), .val (.ref at_), .val (.ref b414), .val (.int (x1 &&& (3 : Int32))), .unset, .unset, .unset, .unset] [(.int r524), (.int (6 : Int32)), (.ref b414)])) rfl rfl (hb hby at_245)
      have nr525 : nar .char r524 = r524 := (own_narc b_r524)
      rw [nr525] at W525
      have ft525 : fits .char (.int r524) = true := by have q := fits_nar_char r524; rw [nr525] at q; exact q
      have f526 : Arv Z h525 b414 k414 .char (8 : Int32) [(.int (112 : Int32)), (.int (117 : Int32)), (.int (98 : Int32)), (.int (108 : Int32)), (.int (105 : Int32)), (.int (99 : Int32)), (.int r524), (.int (0 : Int32))] (.int (0 : Int32)) := (Arv.set Ar525 q525 S525 M525 H525 U525 ft525 W525 6 rfl (Nat.le_of_ble_eq_true rfl))
      have hk := Nat.le_trans hk (Keep.of_wr W525).1
      have N525 := Fr.snoc X525 N524 g_b414
      have O525 := O522.wr W525 g_b414
      refine own_goW st525 ?_
      show own_GoesW _ _ _ _ _ _ _ (T525.setTop (mkF m 246 #[.val (.int x0), .val (.int x1), .val (.long x2), .second, .val (.int x4), .val (.int x5), .val (.ref at_), .val (.ref b414), .val (.int (x1 &&& (3 : Int32))), .unset, .unset, .unset, .unset] []))
      refine own_goW (fun _ ww => XS.aload X525.here hx rfl (hb hby at_246) rfl rfl ww) ?_
      show own_GoesW _ _ _ _ _ _ _ (T525.setTop (mkF m 248 #[.val (.int x0), .val (.int x1), .val (.long x2), .second, .val (.int x4), .val (.int x5), .val (.ref at_), .val (.ref b414), .val (.int (x1 &&& (3 : Int32))), .unset, .unset, .unset, .unset] [(.ref b414)]))
      refine own_goW (fun _ ww => XS.bipush X525.here hx rfl (hb hby at_248) ww) ?_
      show own_GoesW _ _ _ _ _ _ _ (T525.setTop (mkF m 250 #[.val (.int x0), .val (.int x1), .val (.long x2), .second, .val (.int x4), .val (.int x5), .val (.ref at_), .val (.ref b414), .val (.int (x1 &&& (3 : Int32))), .unset, .unset, .unset, .unset] [(.int (7 : Int32)), (.ref b414)]))
      refine own_goW (fun _ ww => XT.lloadN X525.here hx rfl (hb hby at_250) rfl  ww) ?_
      show own_GoesW _ _ _ _ _ _ _ (T525.setTop (mkF m 251 #[.val (.int x0), .val (.int x1), .val (.long x2), .second, .val (.int x4), .val (.int x5), .val (.ref at_), .val (.ref b414), .val (.int (x1 &&& (3 : Int32))), .unset, .unset, .unset, .unset] [(.long x2), (.int (7 : Int32)), (.ref b414)]))
      refine own_goW (fun _ ww => XS.iconst X525.here hx rfl (hb hby at_251) ww) ?_
      show own_GoesW _ _ _ _ _ _ _ (T525.setTop (mkF m 252 #[.val (.int x0), .val (.int x1), .val (.long x2), .second, .val (.int x4), .val (.int x5), .val (.ref at_), .val (.ref b414), .val (.int (x1 &&& (3 : Int32))), .unset, .unset, .unset, .unset] [(.int (1 : Int32)), (.long x2), (.int (7 : Int32)), (.ref b414)]))
      obtain ⟨_, _, ⟨T527, L527, k527, n527⟩, -, X527, ⟨Lc527, hQ527, l527, y527, z527⟩, st527⟩ := Jvm.LawKit.callS X525 hx (y := (⟨"com/example/izin/izin/AttributeDefaultFlagPinLaw", "ch", "(JI)C"⟩ : MethodName)) hown (mvT hZ (hw _ (List.mem_of_getElem? (i := 5) rfl))) (mvT hZ (hw _ (List.mem_of_getElem? (i := 6) rfl))) (mvT hZ (hw _ (List.mem_of_getElem? (i := 7) rfl))) (mvT hZ (hw _ (List.mem_of_getElem? (i := 8) rfl))) (by decide) (backOf (W := 2) (rm_ch l Z a0 hw [] x2 (1 : Int32) h525 n0 O525 ) hZ (hw _ (List.mem_of_getElem? (i := 8) rfl)) (hw _ (List.mem_of_getElem? (i := 7) rfl)) (by decide) (by decide)) (g := (mkF m 252 #[.val (.int x0), .val (.int x1), .val (.long x2), .second, .val (.int x4), .val (.int x5), .val (.ref at_), .val (.ref b414), .val (.int (x1 &&& (3 : Int32))), .unset, .unset, .unset, .unset] [(.int (1 : Int32)), (.long x2), (.int (7 : Int32)), (.ref b414)])) rfl (by rw [hml]; rfl) (argsL := [(.long x2), (.int (1 : Int32))]) (rest := [(.int (7 : Int32)), (.ref b414)]) (lenOf pd_7 rfl) rfl (by show 2 * 0 + _ ≤ _; exact Nat.le_of_eq rfl) (hb hby at_252) (fun _ _ => ⟨rfl, e525, (by decide : 1 + 0 ≤ _), (by decide : 8 + 0 ≤ _)⟩)
      dsimp only [Pt.U, Pt.locs, Pt.cells, Pt.slots] at X527 l527 y527 z527 st527 hQ527
      subst l527 y527 z527
      obtain ⟨r527, rfl, N527q, e527, b_r527⟩ := hQ527
      have N527 := Fr.app N525 N527q
      refine own_goW st527 ?_
      show own_GoesW _ _ _ _ _ _ _ (T527.setTop (mkF m 255 #[.val (.int x0), .val (.int x1), .val (.long x2), .second, .val (.int x4), .val (.int x5), .val (.ref at_), .val (.ref b414), .val (.int (x1 &&& (3 : Int32))), .unset, .unset, .unset, .unset] [(.int r527), (.int (7 : Int32)), (.ref b414)]))
      obtain ⟨cl528, Ar528, q528, S528, M528, H528, U528⟩ := id f526
      obtain ⟨T528, h528, X528, e528, W528, st528⟩ := stC X527 hx hZ e527 Ar528 (j := (7 : Int32)) (inb_of S528 ⟨by decide, by decide⟩) (g := (mkF m 255 #[.val (.int x0), .val (.int x1), .val (.long x2), .second, .val (.int x4), .val (.int x5), .val (.ref at_), .val (.ref b414), .val (.int (x1 &&& (3 : Int32))), .unset, .unset, .unset, .unset] [(.int r527), (.int (7 : Int32)), (.ref b414)])) rfl rfl (hb hby at_255)
      have nr528 : nar .char r527 = r527 := (own_narc b_r527)
      rw [nr528] at W528
      have ft528 : fits .char (.int r527) = true := by have q := fits_nar_char r527; rw [nr528] at q; exact q
      have f529 : Arv Z h528 b414 k414 .char (8 : Int32) [(.int (112 : Int32)), (.int (117 : Int32)), (.int (98 : Int32)), (.int (108 : Int32)), (.int (105 : Int32)), (.int (99 : Int32)), (.int r524), (.int r527)] (.int (0 : Int32)) := (Arv.set Ar528 q528 S528 M528 H528 U528 ft528 W528 7 rfl (Nat.le_of_ble_eq_true rfl))
      have hk := Nat.le_trans hk (Keep.of_wr W528).1
      have N528 := Fr.snoc X528 N527 g_b414
      have O528 := O525.wr W528 g_b414
      refine own_goW st528 ?_
      show own_GoesW _ _ _ _ _ _ _ (T528.setTop (mkF m 256 #[.val (.int x0), .val (.int x1), .val (.long x2), .second, .val (.int x4), .val (.int x5), .val (.ref at_), .val (.ref b414), .val (.int (x1 &&& (3 : Int32))), .unset, .unset, .unset, .unset] []))
      refine own_goW (fun _ ww => XS.iload X528.here hx rfl (hb hby at_256) rfl  ww) ?_
      show own_GoesW _ _ _ _ _ _ _ (T528.setTop (mkF m 258 #[.val (.int x0), .val (.int x1), .val (.long x2), .second, .val (.int x4), .val (.int x5), .val (.ref at_), .val (.ref b414), .val (.int (x1 &&& (3 : Int32))), .unset, .unset, .unset, .unset] [(.int (x1 &&& (3 : Int32)))]))
      by_cases hc530 : (x1 &&& (3 : Int32)) = (0 : Int32)
      ·
        refine own_goW (fun _ ww => XS.ifNo X528.here hx rfl (hb hby at_258) rfl (own_if .ne (teq hc530).2) ww) ?_
        show own_GoesW _ _ _ _ _ _ _ (T528.setTop (mkF m 261 #[.val (.int x0), .val (.int x1), .val (.long x2), .second, .val (.int x4), .val (.int x5), .val (.ref at_), .val (.ref b414), .val (.int (x1 &&& (3 : Int32))), .unset, .unset, .unset, .unset] []))
        refine own_goW (fun _ ww => XS.bipush X528.here hx rfl (hb hby at_261) ww) ?_
        show own_GoesW _ _ _ _ _ _ _ (T528.setTop (mkF m 263 #[.val (.int x0), .val (.int x1), .val (.long x2), .second, .val (.int x4), .val (.int x5), .val (.ref at_), .val (.ref b414), .val (.int (x1 &&& (3 : Int32))), .unset, .unset, .unset, .unset] [(.int (6 : Int32))]))
        refine own_goW (fun _ ww => XS.istore X528.here hx rfl (hb hby at_263) rfl (l' := #[.val (.int x0), .val (.int x1), .val (.long x2), .second, .val (.int x4), .val (.int x5), .val (.ref at_), .val (.ref b414), .val (.int (x1 &&& (3 : Int32))), .val (.int (6 : Int32)), .unset, .unset, .unset]) rfl ww) ?_
        show own_GoesW _ _ _ _ _ _ _ (T528.setTop (mkF m 265 #[.val (.int x0), .val (.int x1), .val (.long x2), .second, .val (.int x4), .val (.int x5), .val (.ref at_), .val (.ref b414), .val (.int (x1 &&& (3 : Int32))), .val (.int (6 : Int32)), .unset, .unset, .unset] []))
        refine own_goW (fun _ ww => XS.goto X528.here hx rfl (pc0 := 265) (pc' := 304) rfl (hb hby at_265) (by decide) (by decide) ww) ?_
        show own_GoesW _ _ _ _ _ _ _ (T528.setTop (mkF m 304 #[.val (.int x0), .val (.int x1), .val (.long x2), .second, .val (.int x4), .val (.int x5), .val (.ref at_), .val (.ref b414), .val (.int (x1 &&& (3 : Int32))), .val (.int (6 : Int32)), .unset, .unset, .unset] []))
        exact H304 _ _ _ X528 e528 N528 O528 hk (112 : Int32) (117 : Int32) (98 : Int32) (108 : Int32) (105 : Int32) (99 : Int32) r524 r527 (x1 &&& (3 : Int32)) (6 : Int32) (by decide) (by decide) (by decide) (by decide) (by decide) (by decide) b_r524 b_r527 f529
      ·
        refine own_goW (fun _ ww => XS.ifYes X528.here hx rfl (pc0 := 258) (pc' := 268) rfl (hb hby at_258) rfl (own_if .ne (feq hc530).2) (by decide) (by decide) ww) ?_
        show own_GoesW _ _ _ _ _ _ _ (T528.setTop (mkF m 268 #[.val (.int x0), .val (.int x1), .val (.long x2), .second, .val (.int x4), .val (.int x5), .val (.ref at_), .val (.ref b414), .val (.int (x1 &&& (3 : Int32))), .unset, .unset, .unset, .unset] []))
        refine own_goW (fun _ ww => XS.iload X528.here hx rfl (hb hby at_268) rfl  ww) ?_
        show own_GoesW _ _ _ _ _ _ _ (T528.setTop (mkF m 270 #[.val (.int x0), .val (.int x1), .val (.long x2), .second, .val (.int x4), .val (.int x5), .val (.ref at_), .val (.ref b414), .val (.int (x1 &&& (3 : Int32))), .unset, .unset, .unset, .unset] [(.int (x1 &&& (3 : Int32)))]))
        refine own_goW (fun _ ww => XS.iconst X528.here hx rfl (hb hby at_270) ww) ?_
        show own_GoesW _ _ _ _ _ _ _ (T528.setTop (mkF m 271 #[.val (.int x0), .val (.int x1), .val (.long x2), .second, .val (.int x4), .val (.int x5), .val (.ref at_), .val (.ref b414), .val (.int (x1 &&& (3 : Int32))), .unset, .unset, .unset, .unset] [(.int (1 : Int32)), (.int (x1 &&& (3 : Int32)))]))
        by_cases hc531 : (x1 &&& (3 : Int32)) = (1 : Int32)
        ·
          refine own_goW (fun _ ww => XS.icmpNo X528.here hx rfl (hb hby at_271) rfl (teq hc531).2 ww) ?_
          show own_GoesW _ _ _ _ _ _ _ (T528.setTop (mkF m 274 #[.val (.int x0), .val (.int x1), .val (.long x2), .second, .val (.int x4), .val (.int x5), .val (.ref at_), .val (.ref b414), .val (.int (x1 &&& (3 : Int32))), .unset, .unset, .unset, .unset] []))
          refine own_goW (fun _ ww => XS.aload X528.here hx rfl (hb hby at_274) rfl rfl ww) ?_
          show own_GoesW _ _ _ _ _ _ _ (T528.setTop (mkF m 276 #[.val (.int x0), .val (.int x1), .val (.long x2), .second, .val (.int x4), .val (.int x5), .val (.ref at_), .val (.ref b414), .val (.int (x1 &&& (3 : Int32))), .unset, .unset, .unset, .unset] [(.ref b414)]))
          refine own_goW (fun _ ww => XS.iload X528.here hx rfl (hb hby at_276) rfl  ww) ?_
          show own_GoesW _ _ _ _ _ _ _ (T528.setTop (mkF m 278 #[.val (.int x0), .val (.int x1), .val (.long x2), .second, .val (.int x4), .val (.int x5), .val (.ref at_), .val (.ref b414), .val (.int (x1 &&& (3 : Int32))), .unset, .unset, .unset, .unset] [(.int x4), (.ref b414)]))
          refine own_goW (fun _ ww => X528.ldcI hx hown (mvT hZ (hw _ (List.mem_of_getElem? (i := 0) rfl))) rfl (hb hby at_278) ww) ?_
          show own_GoesW _ _ _ _ _ _ _ (T528.setTop (mkF m 280 #[.val (.int x0), .val (.int x1), .val (.long x2), .second, .val (.int x4), .val (.int x5), .val (.ref at_), .val (.ref b414), .val (.int (x1 &&& (3 : Int32))), .unset, .unset, .unset, .unset] [(.int (2147483647 : Int32)), (.int x4), (.ref b414)]))
          refine own_goW (fun _ ww => XS.iand X528.here hx rfl (hb hby at_280) rfl ww) ?_
          show own_GoesW _ _ _ _ _ _ _ (T528.setTop (mkF m 281 #[.val (.int x0), .val (.int x1), .val (.long x2), .second, .val (.int x4), .val (.int x5), .val (.ref at_), .val (.ref b414), .val (.int (x1 &&& (3 : Int32))), .unset, .unset, .unset, .unset] [(.int (x4 &&& (2147483647 : Int32))), (.ref b414)]))
          refine own_goW (fun _ ww => XS.bipush X528.here hx rfl (hb hby at_281) ww) ?_
          show own_GoesW _ _ _ _ _ _ _ (T528.setTop (mkF m 283 #[.val (.int x0), .val (.int x1), .val (.long x2), .second, .val (.int x4), .val (.int x5), .val (.ref at_), .val (.ref b414), .val (.int (x1 &&& (3 : Int32))), .unset, .unset, .unset, .unset] [(.int (6 : Int32)), (.int (x4 &&& (2147483647 : Int32))), (.ref b414)]))
          refine own_goW (fun _ ww => iremM X528 hx rfl (hb hby at_283) rfl (by decide) ww) ?_
          show own_GoesW _ _ _ _ _ _ _ (T528.setTop (mkF m 284 #[.val (.int x0), .val (.int x1), .val (.long x2), .second, .val (.int x4), .val (.int x5), .val (.ref at_), .val (.ref b414), .val (.int (x1 &&& (3 : Int32))), .unset, .unset, .unset, .unset] [(.int ((x4 &&& (2147483647 : Int32)) % (6 : Int32))), (.ref b414)]))
          rcases own_mod6 x4 with hm6 | hm6 | hm6 | hm6 | hm6 | hm6
          ·
            rw [hm6]
            show own_GoesW _ _ _ _ _ _ _ (T528.setTop (mkF m 284 #[.val (.int x0), .val (.int x1), .val (.long x2), .second, .val (.int x4), .val (.int x5), .val (.ref at_), .val (.ref b414), .val (.int (x1 &&& (3 : Int32))), .unset, .unset, .unset, .unset] [(.int (0 : Int32)), (.ref b414)]))
            refine own_goW (fun _ ww => XT.lloadN X528.here hx rfl (hb hby at_284) rfl  ww) ?_
            show own_GoesW _ _ _ _ _ _ _ (T528.setTop (mkF m 285 #[.val (.int x0), .val (.int x1), .val (.long x2), .second, .val (.int x4), .val (.int x5), .val (.ref at_), .val (.ref b414), .val (.int (x1 &&& (3 : Int32))), .unset, .unset, .unset, .unset] [(.long x2), (.int (0 : Int32)), (.ref b414)]))
            refine own_goW (fun _ ww => XS.iconst X528.here hx rfl (hb hby at_285) ww) ?_
            show own_GoesW _ _ _ _ _ _ _ (T528.setTop (mkF m 286 #[.val (.int x0), .val (.int x1), .val (.long x2), .second, .val (.int x4), .val (.int x5), .val (.ref at_), .val (.ref b414), .val (.int (x1 &&& (3 : Int32))), .unset, .unset, .unset, .unset] [(.int (2 : Int32)), (.long x2), (.int (0 : Int32)), (.ref b414)]))
            obtain ⟨_, _, ⟨T532, L532, k532, n532⟩, -, X532, ⟨Lc532, hQ532, l532, y532, z532⟩, st532⟩ := Jvm.LawKit.callS X528 hx (y := (⟨"com/example/izin/izin/AttributeDefaultFlagPinLaw", "ch", "(JI)C"⟩ : MethodName)) hown (mvT hZ (hw _ (List.mem_of_getElem? (i := 5) rfl))) (mvT hZ (hw _ (List.mem_of_getElem? (i := 6) rfl))) (mvT hZ (hw _ (List.mem_of_getElem? (i := 7) rfl))) (mvT hZ (hw _ (List.mem_of_getElem? (i := 8) rfl))) (by decide) (backOf (W := 2) (rm_ch l Z a0 hw [] x2 (2 : Int32) h528 n0 O528 ) hZ (hw _ (List.mem_of_getElem? (i := 8) rfl)) (hw _ (List.mem_of_getElem? (i := 7) rfl)) (by decide) (by decide)) (g := (mkF m 286 #[.val (.int x0), .val (.int x1), .val (.long x2), .second, .val (.int x4), .val (.int x5), .val (.ref at_), .val (.ref b414), .val (.int (x1 &&& (3 : Int32))), .unset, .unset, .unset, .unset] [(.int (2 : Int32)), (.long x2), (.int (0 : Int32)), (.ref b414)])) rfl (by rw [hml]; rfl) (argsL := [(.long x2), (.int (2 : Int32))]) (rest := [(.int (0 : Int32)), (.ref b414)]) (lenOf pd_7 rfl) rfl (by show 2 * 0 + _ ≤ _; exact Nat.le_of_eq rfl) (hb hby at_286) (fun _ _ => ⟨rfl, e528, (by decide : 1 + 0 ≤ _), (by decide : 8 + 0 ≤ _)⟩)
            dsimp only [Pt.U, Pt.locs, Pt.cells, Pt.slots] at X532 l532 y532 z532 st532 hQ532
            subst l532 y532 z532
            obtain ⟨r532, rfl, N532q, e532, b_r532⟩ := hQ532
            have N532 := Fr.app N528 N532q
            refine own_goW st532 ?_
            show own_GoesW _ _ _ _ _ _ _ (T532.setTop (mkF m 289 #[.val (.int x0), .val (.int x1), .val (.long x2), .second, .val (.int x4), .val (.int x5), .val (.ref at_), .val (.ref b414), .val (.int (x1 &&& (3 : Int32))), .unset, .unset, .unset, .unset] [(.int r532), (.int (0 : Int32)), (.ref b414)]))
            obtain ⟨cl533, Ar533, q533, S533, M533, H533, U533⟩ := id f529
            obtain ⟨T533, h533, X533, e533, W533, st533⟩ := stC X532 hx hZ e532 Ar533 (j := (0 : Int32)) (inb_of S533 ⟨by decide, by decide⟩) (g := (mkF m 289 #[.val (.int x0), .val (.int x1), .val (.long x2), .second, .val (.int x4), .val (.int x5), .val (.ref at_), .val (.ref b414), .val (.int (x1 &&& (3 : Int32))), .unset, .unset, .unset, .unset] [(.int r532), (.int (0 : Int32)), (.ref b414)])) rfl rfl (hb hby at_289)
            have nr533 : nar .char r532 = r532 := (own_narc b_r532)
            rw [nr533] at W533
            have ft533 : fits .char (.int r532) = true := by have q := fits_nar_char r532; rw [nr533] at q; exact q
            have f534 : Arv Z h533 b414 k414 .char (8 : Int32) [(.int r532), (.int (117 : Int32)), (.int (98 : Int32)), (.int (108 : Int32)), (.int (105 : Int32)), (.int (99 : Int32)), (.int r524), (.int r527)] (.int (0 : Int32)) := (Arv.set Ar533 q533 S533 M533 H533 U533 ft533 W533 0 rfl (Nat.le_of_ble_eq_true rfl))
            have hk := Nat.le_trans hk (Keep.of_wr W533).1
            have N533 := Fr.snoc X533 N532 g_b414
            have O533 := O528.wr W533 g_b414
            refine own_goW st533 ?_
            show own_GoesW _ _ _ _ _ _ _ (T533.setTop (mkF m 290 #[.val (.int x0), .val (.int x1), .val (.long x2), .second, .val (.int x4), .val (.int x5), .val (.ref at_), .val (.ref b414), .val (.int (x1 &&& (3 : Int32))), .unset, .unset, .unset, .unset] []))
            refine own_goW (fun _ ww => XS.bipush X533.here hx rfl (hb hby at_290) ww) ?_
            show own_GoesW _ _ _ _ _ _ _ (T533.setTop (mkF m 292 #[.val (.int x0), .val (.int x1), .val (.long x2), .second, .val (.int x4), .val (.int x5), .val (.ref at_), .val (.ref b414), .val (.int (x1 &&& (3 : Int32))), .unset, .unset, .unset, .unset] [(.int (6 : Int32))]))
            refine own_goW (fun _ ww => XS.istore X533.here hx rfl (hb hby at_292) rfl (l' := #[.val (.int x0), .val (.int x1), .val (.long x2), .second, .val (.int x4), .val (.int x5), .val (.ref at_), .val (.ref b414), .val (.int (x1 &&& (3 : Int32))), .val (.int (6 : Int32)), .unset, .unset, .unset]) rfl ww) ?_
            show own_GoesW _ _ _ _ _ _ _ (T533.setTop (mkF m 294 #[.val (.int x0), .val (.int x1), .val (.long x2), .second, .val (.int x4), .val (.int x5), .val (.ref at_), .val (.ref b414), .val (.int (x1 &&& (3 : Int32))), .val (.int (6 : Int32)), .unset, .unset, .unset] []))
            refine own_goW (fun _ ww => XS.goto X533.here hx rfl (pc0 := 294) (pc' := 304) rfl (hb hby at_294) (by decide) (by decide) ww) ?_
            show own_GoesW _ _ _ _ _ _ _ (T533.setTop (mkF m 304 #[.val (.int x0), .val (.int x1), .val (.long x2), .second, .val (.int x4), .val (.int x5), .val (.ref at_), .val (.ref b414), .val (.int (x1 &&& (3 : Int32))), .val (.int (6 : Int32)), .unset, .unset, .unset] []))
            exact H304 _ _ _ X533 e533 N533 O533 hk r532 (117 : Int32) (98 : Int32) (108 : Int32) (105 : Int32) (99 : Int32) r524 r527 (x1 &&& (3 : Int32)) (6 : Int32) b_r532 (by decide) (by decide) (by decide) (by decide) (by decide) b_r524 b_r527 f534
          ·
            rw [hm6]
            show own_GoesW _ _ _ _ _ _ _ (T528.setTop (mkF m 284 #[.val (.int x0), .val (.int x1), .val (.long x2), .second, .val (.int x4), .val (.int x5), .val (.ref at_), .val (.ref b414), .val (.int (x1 &&& (3 : Int32))), .unset, .unset, .unset, .unset] [(.int (1 : Int32)), (.ref b414)]))
            refine own_goW (fun _ ww => XT.lloadN X528.here hx rfl (hb hby at_284) rfl  ww) ?_
            show own_GoesW _ _ _ _ _ _ _ (T528.setTop (mkF m 285 #[.val (.int x0), .val (.int x1), .val (.long x2), .second, .val (.int x4), .val (.int x5), .val (.ref at_), .val (.ref b414), .val (.int (x1 &&& (3 : Int32))), .unset, .unset, .unset, .unset] [(.long x2), (.int (1 : Int32)), (.ref b414)]))
            refine own_goW (fun _ ww => XS.iconst X528.here hx rfl (hb hby at_285) ww) ?_
            show own_GoesW _ _ _ _ _ _ _ (T528.setTop (mkF m 286 #[.val (.int x0), .val (.int x1), .val (.long x2), .second, .val (.int x4), .val (.int x5), .val (.ref at_), .val (.ref b414), .val (.int (x1 &&& (3 : Int32))), .unset, .unset, .unset, .unset] [(.int (2 : Int32)), (.long x2), (.int (1 : Int32)), (.ref b414)]))
            obtain ⟨_, _, ⟨T535, L535, k535, n535⟩, -, X535, ⟨Lc535, hQ535, l535, y535, z535⟩, st535⟩ := Jvm.LawKit.callS X528 hx (y := (⟨"com/example/izin/izin/AttributeDefaultFlagPinLaw", "ch", "(JI)C"⟩ : MethodName)) hown (mvT hZ (hw _ (List.mem_of_getElem? (i := 5) rfl))) (mvT hZ (hw _ (List.mem_of_getElem? (i := 6) rfl))) (mvT hZ (hw _ (List.mem_of_getElem? (i := 7) rfl))) (mvT hZ (hw _ (List.mem_of_getElem? (i := 8) rfl))) (by decide) (backOf (W := 2) (rm_ch l Z a0 hw [] x2 (2 : Int32) h528 n0 O528 ) hZ (hw _ (List.mem_of_getElem? (i := 8) rfl)) (hw _ (List.mem_of_getElem? (i := 7) rfl)) (by decide) (by decide)) (g := (mkF m 286 #[.val (.int x0), .val (.int x1), .val (.long x2), .second, .val (.int x4), .val (.int x5), .val (.ref at_), .val (.ref b414), .val (.int (x1 &&& (3 : Int32))), .unset, .unset, .unset, .unset] [(.int (2 : Int32)), (.long x2), (.int (1 : Int32)), (.ref b414)])) rfl (by rw [hml]; rfl) (argsL := [(.long x2), (.int (2 : Int32))]) (rest := [(.int (1 : Int32)), (.ref b414)]) (lenOf pd_7 rfl) rfl (by show 2 * 0 + _ ≤ _; exact Nat.le_of_eq rfl) (hb hby at_286) (fun _ _ => ⟨rfl, e528, (by decide : 1 + 0 ≤ _), (by decide : 8 + 0 ≤ _)⟩)
            dsimp only [Pt.U, Pt.locs, Pt.cells, Pt.slots] at X535 l535 y535 z535 st535 hQ535
            subst l535 y535 z535
            obtain ⟨r535, rfl, N535q, e535, b_r535⟩ := hQ535
            have N535 := Fr.app N528 N535q
            refine own_goW st535 ?_
            show own_GoesW _ _ _ _ _ _ _ (T535.setTop (mkF m 289 #[.val (.int x0), .val (.int x1), .val (.long x2), .second, .val (.int x4), .val (.int x5), .val (.ref at_), .val (.ref b414), .val (.int (x1 &&& (3 : Int32))), .unset, .unset, .unset, .unset] [(.int r535), (.int (1 : Int32)), (.ref b414)]))
            obtain ⟨cl536, Ar536, q536, S536, M536, H536, U536⟩ := id f529
            obtain ⟨T536, h536, X536, e536, W536, st536⟩ := stC X535 hx hZ e535 Ar536 (j := (1 : Int32)) (inb_of S536 ⟨by decide, by decide⟩) (g := (mkF m 289 #[.val (.int x0), .val (.int x1), .val (.long x2), .second, .val (.int x4), .val (.int x5), .val (.ref at_), .val (.ref b414), .val (.int (x1 &&& (3 : Int32))), .unset, .unset, .unset, .unset] [(.int r535), (.int (1 : Int32)), (.ref b414)])) rfl rfl (hb hby at_289)
            have nr536 : nar .char r535 = r535 := (own_narc b_r535)
            rw [nr536] at W536
            have ft536 : fits .char (.int r535) = true := by have q := fits_nar_char r535; rw [nr536] at q; exact q
            have f537 : Arv Z h536 b414 k414 .char (8 : Int32) [(.int (112 : Int32)), (.int r535), (.int (98 : Int32)), (.int (108 : Int32)), (.int (105 : Int32)), (.int (99 : Int32)), (.int r524), (.int r527)] (.int (0 : Int32)) := (Arv.set Ar536 q536 S536 M536 H536 U536 ft536 W536 1 rfl (Nat.le_of_ble_eq_true rfl))
            have hk := Nat.le_trans hk (Keep.of_wr W536).1
            have N536 := Fr.snoc X536 N535 g_b414
            have O536 := O528.wr W536 g_b414
            refine own_goW st536 ?_
            show own_GoesW _ _ _ _ _ _ _ (T536.setTop (mkF m 290 #[.val (.int x0), .val (.int x1), .val (.long x2), .second, .val (.int x4), .val (.int x5), .val (.ref at_), .val (.ref b414), .val (.int (x1 &&& (3 : Int32))), .unset, .unset, .unset, .unset] []))
            refine own_goW (fun _ ww => XS.bipush X536.here hx rfl (hb hby at_290) ww) ?_
            show own_GoesW _ _ _ _ _ _ _ (T536.setTop (mkF m 292 #[.val (.int x0), .val (.int x1), .val (.long x2), .second, .val (.int x4), .val (.int x5), .val (.ref at_), .val (.ref b414), .val (.int (x1 &&& (3 : Int32))), .unset, .unset, .unset, .unset] [(.int (6 : Int32))]))
            refine own_goW (fun _ ww => XS.istore X536.here hx rfl (hb hby at_292) rfl (l' := #[.val (.int x0), .val (.int x1), .val (.long x2), .second, .val (.int x4), .val (.int x5), .val (.ref at_), .val (.ref b414), .val (.int (x1 &&& (3 : Int32))), .val (.int (6 : Int32)), .unset, .unset, .unset]) rfl ww) ?_
            show own_GoesW _ _ _ _ _ _ _ (T536.setTop (mkF m 294 #[.val (.int x0), .val (.int x1), .val (.long x2), .second, .val (.int x4), .val (.int x5), .val (.ref at_), .val (.ref b414), .val (.int (x1 &&& (3 : Int32))), .val (.int (6 : Int32)), .unset, .unset, .unset] []))
            refine own_goW (fun _ ww => XS.goto X536.here hx rfl (pc0 := 294) (pc' := 304) rfl (hb hby at_294) (by decide) (by decide) ww) ?_
            show own_GoesW _ _ _ _ _ _ _ (T536.setTop (mkF m 304 #[.val (.int x0), .val (.int x1), .val (.long x2), .second, .val (.int x4), .val (.int x5), .val (.ref at_), .val (.ref b414), .val (.int (x1 &&& (3 : Int32))), .val (.int (6 : Int32)), .unset, .unset, .unset] []))
            exact H304 _ _ _ X536 e536 N536 O536 hk (112 : Int32) r535 (98 : Int32) (108 : Int32) (105 : Int32) (99 : Int32) r524 r527 (x1 &&& (3 : Int32)) (6 : Int32) (by decide) b_r535 (by decide) (by decide) (by decide) (by decide) b_r524 b_r527 f537
          ·
            rw [hm6]
            show own_GoesW _ _ _ _ _ _ _ (T528.setTop (mkF m 284 #[.val (.int x0), .val (.int x1), .val (.long x2), .second, .val (.int x4), .val (.int x5), .val (.ref at_), .val (.ref b414), .val (.int (x1 &&& (3 : Int32))), .unset, .unset, .unset, .unset] [(.int (2 : Int32)), (.ref b414)]))
            refine own_goW (fun _ ww => XT.lloadN X528.here hx rfl (hb hby at_284) rfl  ww) ?_
            show own_GoesW _ _ _ _ _ _ _ (T528.setTop (mkF m 285 #[.val (.int x0), .val (.int x1), .val (.long x2), .second, .val (.int x4), .val (.int x5), .val (.ref at_), .val (.ref b414), .val (.int (x1 &&& (3 : Int32))), .unset, .unset, .unset, .unset] [(.long x2), (.int (2 : Int32)), (.ref b414)]))
            refine own_goW (fun _ ww => XS.iconst X528.here hx rfl (hb hby at_285) ww) ?_
            show own_GoesW _ _ _ _ _ _ _ (T528.setTop (mkF m 286 #[.val (.int x0), .val (.int x1), .val (.long x2), .second, .val (.int x4), .val (.int x5), .val (.ref at_), .val (.ref b414), .val (.int (x1 &&& (3 : Int32))), .unset, .unset, .unset, .unset] [(.int (2 : Int32)), (.long x2), (.int (2 : Int32)), (.ref b414)]))
            obtain ⟨_, _, ⟨T538, L538, k538, n538⟩, -, X538, ⟨Lc538, hQ538, l538, y538, z538⟩, st538⟩ := Jvm.LawKit.callS X528 hx (y := (⟨"com/example/izin/izin/AttributeDefaultFlagPinLaw", "ch", "(JI)C"⟩ : MethodName)) hown (mvT hZ (hw _ (List.mem_of_getElem? (i := 5) rfl))) (mvT hZ (hw _ (List.mem_of_getElem? (i := 6) rfl))) (mvT hZ (hw _ (List.mem_of_getElem? (i := 7) rfl))) (mvT hZ (hw _ (List.mem_of_getElem? (i := 8) rfl))) (by decide) (backOf (W := 2) (rm_ch l Z a0 hw [] x2 (2 : Int32) h528 n0 O528 ) hZ (hw _ (List.mem_of_getElem? (i := 8) rfl)) (hw _ (List.mem_of_getElem? (i := 7) rfl)) (by decide) (by decide)) (g := (mkF m 286 #[.val (.int x0), .val (.int x1), .val (.long x2), .second, .val (.int x4), .val (.int x5), .val (.ref at_), .val (.ref b414), .val (.int (x1 &&& (3 : Int32))), .unset, .unset, .unset, .unset] [(.int (2 : Int32)), (.long x2), (.int (2 : Int32)), (.ref b414)])) rfl (by rw [hml]; rfl) (argsL := [(.long x2), (.int (2 : Int32))]) (rest := [(.int (2 : Int32)), (.ref b414)]) (lenOf pd_7 rfl) rfl (by show 2 * 0 + _ ≤ _; exact Nat.le_of_eq rfl) (hb hby at_286) (fun _ _ => ⟨rfl, e528, (by decide : 1 + 0 ≤ _), (by decide : 8 + 0 ≤ _)⟩)
            dsimp only [Pt.U, Pt.locs, Pt.cells, Pt.slots] at X538 l538 y538 z538 st538 hQ538
            subst l538 y538 z538
            obtain ⟨r538, rfl, N538q, e538, b_r538⟩ := hQ538
            have N538 := Fr.app N528 N538q
            refine own_goW st538 ?_
            show own_GoesW _ _ _ _ _ _ _ (T538.setTop (mkF m 289 #[.val (.int x0), .val (.int x1), .val (.long x2), .second, .val (.int x4), .val (.int x5), .val (.ref at_), .val (.ref b414), .val (.int (x1 &&& (3 : Int32))), .unset, .unset, .unset, .unset] [(.int r538), (.int (2 : Int32)), (.ref b414)]))
            obtain ⟨cl539, Ar539, q539, S539, M539, H539, U539⟩ := id f529
            obtain ⟨T539, h539, X539, e539, W539, st539⟩ := stC X538 hx hZ e538 Ar539 (j := (2 : Int32)) (inb_of S539 ⟨by decide, by decide⟩) (g := (mkF m 289 #[.val (.int x0), .val (.int x1), .val (.long x2), .second, .val (.int x4), .val (.int x5), .val (.ref at_), .val (.ref b414), .val (.int (x1 &&& (3 : Int32))), .unset, .unset, .unset, .unset] [(.int r538), (.int (2 : Int32)), (.ref b414)])) rfl rfl (hb hby at_289)
            have nr539 : nar .char r538 = r538 := (own_narc b_r538)
            rw [nr539] at W539
            have ft539 : fits .char (.int r538) = true := by have q := fits_nar_char r538; rw [nr539] at q; exact q
            have f540 : Arv Z h539 b414 k414 .char (8 : Int32) [(.int (112 : Int32)), (.int (117 : Int32)), (.int r538), (.int (108 : Int32)), (.int (105 : Int32)), (.int (99 : Int32)), (.int r524), (.int r527)] (.int (0 : Int32)) := (Arv.set Ar539 q539 S539 M539 H539 U539 ft539 W539 2 rfl (Nat.le_of_ble_eq_true rfl))
            have hk := Nat.le_trans hk (Keep.of_wr W539).1
            have N539 := Fr.snoc X539 N538 g_b414
            have O539 := O528.wr W539 g_b414
            refine own_goW st539 ?_
            show own_GoesW _ _ _ _ _ _ _ (T539.setTop (mkF m 290 #[.val (.int x0), .val (.int x1), .val (.long x2), .second, .val (.int x4), .val (.int x5), .val (.ref at_), .val (.ref b414), .val (.int (x1 &&& (3 : Int32))), .unset, .unset, .unset, .unset] []))
            refine own_goW (fun _ ww => XS.bipush X539.here hx rfl (hb hby at_290) ww) ?_
            show own_GoesW _ _ _ _ _ _ _ (T539.setTop (mkF m 292 #[.val (.int x0), .val (.int x1), .val (.long x2), .second, .val (.int x4), .val (.int x5), .val (.ref at_), .val (.ref b414), .val (.int (x1 &&& (3 : Int32))), .unset, .unset, .unset, .unset] [(.int (6 : Int32))]))
            refine own_goW (fun _ ww => XS.istore X539.here hx rfl (hb hby at_292) rfl (l' := #[.val (.int x0), .val (.int x1), .val (.long x2), .second, .val (.int x4), .val (.int x5), .val (.ref at_), .val (.ref b414), .val (.int (x1 &&& (3 : Int32))), .val (.int (6 : Int32)), .unset, .unset, .unset]) rfl ww) ?_
            show own_GoesW _ _ _ _ _ _ _ (T539.setTop (mkF m 294 #[.val (.int x0), .val (.int x1), .val (.long x2), .second, .val (.int x4), .val (.int x5), .val (.ref at_), .val (.ref b414), .val (.int (x1 &&& (3 : Int32))), .val (.int (6 : Int32)), .unset, .unset, .unset] []))
            refine own_goW (fun _ ww => XS.goto X539.here hx rfl (pc0 := 294) (pc' := 304) rfl (hb hby at_294) (by decide) (by decide) ww) ?_
            show own_GoesW _ _ _ _ _ _ _ (T539.setTop (mkF m 304 #[.val (.int x0), .val (.int x1), .val (.long x2), .second, .val (.int x4), .val (.int x5), .val (.ref at_), .val (.ref b414), .val (.int (x1 &&& (3 : Int32))), .val (.int (6 : Int32)), .unset, .unset, .unset] []))
            exact H304 _ _ _ X539 e539 N539 O539 hk (112 : Int32) (117 : Int32) r538 (108 : Int32) (105 : Int32) (99 : Int32) r524 r527 (x1 &&& (3 : Int32)) (6 : Int32) (by decide) (by decide) b_r538 (by decide) (by decide) (by decide) b_r524 b_r527 f540
          ·
            rw [hm6]
            show own_GoesW _ _ _ _ _ _ _ (T528.setTop (mkF m 284 #[.val (.int x0), .val (.int x1), .val (.long x2), .second, .val (.int x4), .val (.int x5), .val (.ref at_), .val (.ref b414), .val (.int (x1 &&& (3 : Int32))), .unset, .unset, .unset, .unset] [(.int (3 : Int32)), (.ref b414)]))
            refine own_goW (fun _ ww => XT.lloadN X528.here hx rfl (hb hby at_284) rfl  ww) ?_
            show own_GoesW _ _ _ _ _ _ _ (T528.setTop (mkF m 285 #[.val (.int x0), .val (.int x1), .val (.long x2), .second, .val (.int x4), .val (.int x5), .val (.ref at_), .val (.ref b414), .val (.int (x1 &&& (3 : Int32))), .unset, .unset, .unset, .unset] [(.long x2), (.int (3 : Int32)), (.ref b414)]))
            refine own_goW (fun _ ww => XS.iconst X528.here hx rfl (hb hby at_285) ww) ?_
            show own_GoesW _ _ _ _ _ _ _ (T528.setTop (mkF m 286 #[.val (.int x0), .val (.int x1), .val (.long x2), .second, .val (.int x4), .val (.int x5), .val (.ref at_), .val (.ref b414), .val (.int (x1 &&& (3 : Int32))), .unset, .unset, .unset, .unset] [(.int (2 : Int32)), (.long x2), (.int (3 : Int32)), (.ref b414)]))
            obtain ⟨_, _, ⟨T541, L541, k541, n541⟩, -, X541, ⟨Lc541, hQ541, l541, y541, z541⟩, st541⟩ := Jvm.LawKit.callS X528 hx (y := (⟨"com/example/izin/izin/AttributeDefaultFlagPinLaw", "ch", "(JI)C"⟩ : MethodName)) hown (mvT hZ (hw _ (List.mem_of_getElem? (i := 5) rfl))) (mvT hZ (hw _ (List.mem_of_getElem? (i := 6) rfl))) (mvT hZ (hw _ (List.mem_of_getElem? (i := 7) rfl))) (mvT hZ (hw _ (List.mem_of_getElem? (i := 8) rfl))) (by decide) (backOf (W := 2) (rm_ch l Z a0 hw [] x2 (2 : Int32) h528 n0 O528 ) hZ (hw _ (List.mem_of_getElem? (i := 8) rfl)) (hw _ (List.mem_of_getElem? (i := 7) rfl)) (by decide) (by decide)) (g := (mkF m 286 #[.val (.int x0), .val (.int x1), .val (.long x2), .second, .val (.int x4), .val (.int x5), .val (.ref at_), .val (.ref b414), .val (.int (x1 &&& (3 : Int32))), .unset, .unset, .unset, .unset] [(.int (2 : Int32)), (.long x2), (.int (3 : Int32)), (.ref b414)])) rfl (by rw [hml]; rfl) (argsL := [(.long x2), (.int (2 : Int32))]) (rest := [(.int (3 : Int32)), (.ref b414)]) (lenOf pd_7 rfl) rfl (by show 2 * 0 + _ ≤ _; exact Nat.le_of_eq rfl) (hb hby at_286) (fun _ _ => ⟨rfl, e528, (by decide : 1 + 0 ≤ _), (by decide : 8 + 0 ≤ _)⟩)
            dsimp only [Pt.U, Pt.locs, Pt.cells, Pt.slots] at X541 l541 y541 z541 st541 hQ541
            subst l541 y541 z541
            obtain ⟨r541, rfl, N541q, e541, b_r541⟩ := hQ541
            have N541 := Fr.app N528 N541q
            refine own_goW st541 ?_
            show own_GoesW _ _ _ _ _ _ _ (T541.setTop (mkF m 289 #[.val (.int x0), .val (.int x1), .val (.long x2), .second, .val (.int x4), .val (.int x5), .val (.ref at_), .val (.ref b414), .val (.int (x1 &&& (3 : Int32))), .unset, .unset, .unset, .unset] [(.int r541), (.int (3 : Int32)), (.ref b414)]))
            obtain ⟨cl542, Ar542, q542, S542, M542, H542, U542⟩ := id f529
            obtain ⟨T542, h542, X542, e542, W542, st542⟩ := stC X541 hx hZ e541 Ar542 (j := (3 : Int32)) (inb_of S542 ⟨by decide, by decide⟩) (g := (mkF m 289 #[.val (.int x0), .val (.int x1), .val (.long x2), .second, .val (.int x4), .val (.int x5), .val (.ref at_), .val (.ref b414), .val (.int (x1 &&& (3 : Int32))), .unset, .unset, .unset, .unset] [(.int r541), (.int (3 : Int32)), (.ref b414)])) rfl rfl (hb hby at_289)
            have nr542 : nar .char r541 = r541 := (own_narc b_r541)
            rw [nr542] at W542
            have ft542 : fits .char (.int r541) = true := by have q := fits_nar_char r541; rw [nr542] at q; exact q
            have f543 : Arv Z h542 b414 k414 .char (8 : Int32) [(.int (112 : Int32)), (.int (117 : Int32)), (.int (98 : Int32)), (.int r541), (.int (105 : Int32)), (.int (99 : Int32)), (.int r524), (.int r527)] (.int (0 : Int32)) := (Arv.set Ar542 q542 S542 M542 H542 U542 ft542 W542 3 rfl (Nat.le_of_ble_eq_true rfl))
            have hk := Nat.le_trans hk (Keep.of_wr W542).1
            have N542 := Fr.snoc X542 N541 g_b414
            have O542 := O528.wr W542 g_b414
            refine own_goW st542 ?_
            show own_GoesW _ _ _ _ _ _ _ (T542.setTop (mkF m 290 #[.val (.int x0), .val (.int x1), .val (.long x2), .second, .val (.int x4), .val (.int x5), .val (.ref at_), .val (.ref b414), .val (.int (x1 &&& (3 : Int32))), .unset, .unset, .unset, .unset] []))
            refine own_goW (fun _ ww => XS.bipush X542.here hx rfl (hb hby at_290) ww) ?_
            show own_GoesW _ _ _ _ _ _ _ (T542.setTop (mkF m 292 #[.val (.int x0), .val (.int x1), .val (.long x2), .second, .val (.int x4), .val (.int x5), .val (.ref at_), .val (.ref b414), .val (.int (x1 &&& (3 : Int32))), .unset, .unset, .unset, .unset] [(.int (6 : Int32))]))
            refine own_goW (fun _ ww => XS.istore X542.here hx rfl (hb hby at_292) rfl (l' := #[.val (.int x0), .val (.int x1), .val (.long x2), .second, .val (.int x4), .val (.int x5), .val (.ref at_), .val (.ref b414), .val (.int (x1 &&& (3 : Int32))), .val (.int (6 : Int32)), .unset, .unset, .unset]) rfl ww) ?_
            show own_GoesW _ _ _ _ _ _ _ (T542.setTop (mkF m 294 #[.val (.int x0), .val (.int x1), .val (.long x2), .second, .val (.int x4), .val (.int x5), .val (.ref at_), .val (.ref b414), .val (.int (x1 &&& (3 : Int32))), .val (.int (6 : Int32)), .unset, .unset, .unset] []))
            refine own_goW (fun _ ww => XS.goto X542.here hx rfl (pc0 := 294) (pc' := 304) rfl (hb hby at_294) (by decide) (by decide) ww) ?_
            show own_GoesW _ _ _ _ _ _ _ (T542.setTop (mkF m 304 #[.val (.int x0), .val (.int x1), .val (.long x2), .second, .val (.int x4), .val (.int x5), .val (.ref at_), .val (.ref b414), .val (.int (x1 &&& (3 : Int32))), .val (.int (6 : Int32)), .unset, .unset, .unset] []))
            exact H304 _ _ _ X542 e542 N542 O542 hk (112 : Int32) (117 : Int32) (98 : Int32) r541 (105 : Int32) (99 : Int32) r524 r527 (x1 &&& (3 : Int32)) (6 : Int32) (by decide) (by decide) (by decide) b_r541 (by decide) (by decide) b_r524 b_r527 f543
          ·
            rw [hm6]
            show own_GoesW _ _ _ _ _ _ _ (T528.setTop (mkF m 284 #[.val (.int x0), .val (.int x1), .val (.long x2), .second, .val (.int x4), .val (.int x5), .val (.ref at_), .val (.ref b414), .val (.int (x1 &&& (3 : Int32))), .unset, .unset, .unset, .unset] [(.int (4 : Int32)), (.ref b414)]))
            refine own_goW (fun _ ww => XT.lloadN X528.here hx rfl (hb hby at_284) rfl  ww) ?_
            show own_GoesW _ _ _ _ _ _ _ (T528.setTop (mkF m 285 #[.val (.int x0), .val (.int x1), .val (.long x2), .second, .val (.int x4), .val (.int x5), .val (.ref at_), .val (.ref b414), .val (.int (x1 &&& (3 : Int32))), .unset, .unset, .unset, .unset] [(.long x2), (.int (4 : Int32)), (.ref b414)]))
            refine own_goW (fun _ ww => XS.iconst X528.here hx rfl (hb hby at_285) ww) ?_
            show own_GoesW _ _ _ _ _ _ _ (T528.setTop (mkF m 286 #[.val (.int x0), .val (.int x1), .val (.long x2), .second, .val (.int x4), .val (.int x5), .val (.ref at_), .val (.ref b414), .val (.int (x1 &&& (3 : Int32))), .unset, .unset, .unset, .unset] [(.int (2 : Int32)), (.long x2), (.int (4 : Int32)), (.ref b414)]))
            obtain ⟨_, _, ⟨T544, L544, k544, n544⟩, -, X544, ⟨Lc544, hQ544, l544, y544, z544⟩, st544⟩ := Jvm.LawKit.callS X528 hx (y := (⟨"com/example/izin/izin/AttributeDefaultFlagPinLaw", "ch", "(JI)C"⟩ : MethodName)) hown (mvT hZ (hw _ (List.mem_of_getElem? (i := 5) rfl))) (mvT hZ (hw _ (List.mem_of_getElem? (i := 6) rfl))) (mvT hZ (hw _ (List.mem_of_getElem? (i := 7) rfl))) (mvT hZ (hw _ (List.mem_of_getElem? (i := 8) rfl))) (by decide) (backOf (W := 2) (rm_ch l Z a0 hw [] x2 (2 : Int32) h528 n0 O528 ) hZ (hw _ (List.mem_of_getElem? (i := 8) rfl)) (hw _ (List.mem_of_getElem? (i := 7) rfl)) (by decide) (by decide)) (g := (mkF m 286 #[.val (.int x0), .val (.int x1), .val (.long x2), .second, .val (.int x4), .val (.int x5), .val (.ref at_), .val (.ref b414), .val (.int (x1 &&& (3 : Int32))), .unset, .unset, .unset, .unset] [(.int (2 : Int32)), (.long x2), (.int (4 : Int32)), (.ref b414)])) rfl (by rw [hml]; rfl) (argsL := [(.long x2), (.int (2 : Int32))]) (rest := [(.int (4 : Int32)), (.ref b414)]) (lenOf pd_7 rfl) rfl (by show 2 * 0 + _ ≤ _; exact Nat.le_of_eq rfl) (hb hby at_286) (fun _ _ => ⟨rfl, e528, (by decide : 1 + 0 ≤ _), (by decide : 8 + 0 ≤ _)⟩)
            dsimp only [Pt.U, Pt.locs, Pt.cells, Pt.slots] at X544 l544 y544 z544 st544 hQ544
            subst l544 y544 z544
            obtain ⟨r544, rfl, N544q, e544, b_r544⟩ := hQ544
            have N544 := Fr.app N528 N544q
            refine own_goW st544 ?_
            show own_GoesW _ _ _ _ _ _ _ (T544.setTop (mkF m 289 #[.val (.int x0), .val (.int x1), .val (.long x2), .second, .val (.int x4), .val (.int x5), .val (.ref at_), .val (.ref b414), .val (.int (x1 &&& (3 : Int32))), .unset, .unset, .unset, .unset] [(.int r544), (.int (4 : Int32)), (.ref b414)]))
            obtain ⟨cl545, Ar545, q545, S545, M545, H545, U545⟩ := id f529
            obtain ⟨T545, h545, X545, e545, W545, st545⟩ := stC X544 hx hZ e544 Ar545 (j := (4 : Int32)) (inb_of S545 ⟨by decide, by decide⟩) (g := (mkF m 289 #[.val (.int x0), .val (.int x1), .val (.long x2), .second, .val (.int x4), .val (.int x5), .val (.ref at_), .val (.ref b414), .val (.int (x1 &&& (3 : Int32))), .unset, .unset, .unset, .unset] [(.int r544), (.int (4 : Int32)), (.ref b414)])) rfl rfl (hb hby at_289)
            have nr545 : nar .char r544 = r544 := (own_narc b_r544)
            rw [nr545] at W545
            have ft545 : fits .char (.int r544) = true := by have q := fits_nar_char r544; rw [nr545] at q; exact q
            have f546 : Arv Z h545 b414 k414 .char (8 : Int32) [(.int (112 : Int32)), (.int (117 : Int32)), (.int (98 : Int32)), (.int (108 : Int32)), (.int r544), (.int (99 : Int32)), (.int r524), (.int r527)] (.int (0 : Int32)) := (Arv.set Ar545 q545 S545 M545 H545 U545 ft545 W545 4 rfl (Nat.le_of_ble_eq_true rfl))
            have hk := Nat.le_trans hk (Keep.of_wr W545).1
            have N545 := Fr.snoc X545 N544 g_b414
            have O545 := O528.wr W545 g_b414
            refine own_goW st545 ?_
            show own_GoesW _ _ _ _ _ _ _ (T545.setTop (mkF m 290 #[.val (.int x0), .val (.int x1), .val (.long x2), .second, .val (.int x4), .val (.int x5), .val (.ref at_), .val (.ref b414), .val (.int (x1 &&& (3 : Int32))), .unset, .unset, .unset, .unset] []))
            refine own_goW (fun _ ww => XS.bipush X545.here hx rfl (hb hby at_290) ww) ?_
            show own_GoesW _ _ _ _ _ _ _ (T545.setTop (mkF m 292 #[.val (.int x0), .val (.int x1), .val (.long x2), .second, .val (.int x4), .val (.int x5), .val (.ref at_), .val (.ref b414), .val (.int (x1 &&& (3 : Int32))), .unset, .unset, .unset, .unset] [(.int (6 : Int32))]))
            refine own_goW (fun _ ww => XS.istore X545.here hx rfl (hb hby at_292) rfl (l' := #[.val (.int x0), .val (.int x1), .val (.long x2), .second, .val (.int x4), .val (.int x5), .val (.ref at_), .val (.ref b414), .val (.int (x1 &&& (3 : Int32))), .val (.int (6 : Int32)), .unset, .unset, .unset]) rfl ww) ?_
            show own_GoesW _ _ _ _ _ _ _ (T545.setTop (mkF m 294 #[.val (.int x0), .val (.int x1), .val (.long x2), .second, .val (.int x4), .val (.int x5), .val (.ref at_), .val (.ref b414), .val (.int (x1 &&& (3 : Int32))), .val (.int (6 : Int32)), .unset, .unset, .unset] []))
            refine own_goW (fun _ ww => XS.goto X545.here hx rfl (pc0 := 294) (pc' := 304) rfl (hb hby at_294) (by decide) (by decide) ww) ?_
            show own_GoesW _ _ _ _ _ _ _ (T545.setTop (mkF m 304 #[.val (.int x0), .val (.int x1), .val (.long x2), .second, .val (.int x4), .val (.int x5), .val (.ref at_), .val (.ref b414), .val (.int (x1 &&& (3 : Int32))), .val (.int (6 : Int32)), .unset, .unset, .unset] []))
            exact H304 _ _ _ X545 e545 N545 O545 hk (112 : Int32) (117 : Int32) (98 : Int32) (108 : Int32) r544 (99 : Int32) r524 r527 (x1 &&& (3 : Int32)) (6 : Int32) (by decide) (by decide) (by decide) (by decide) b_r544 (by decide) b_r524 b_r527 f546
          ·
            rw [hm6]
            show own_GoesW _ _ _ _ _ _ _ (T528.setTop (mkF m 284 #[.val (.int x0), .val (.int x1), .val (.long x2), .second, .val (.int x4), .val (.int x5), .val (.ref at_), .val (.ref b414), .val (.int (x1 &&& (3 : Int32))), .unset, .unset, .unset, .unset] [(.int (5 : Int32)), (.ref b414)]))
            refine own_goW (fun _ ww => XT.lloadN X528.here hx rfl (hb hby at_284) rfl  ww) ?_
            show own_GoesW _ _ _ _ _ _ _ (T528.setTop (mkF m 285 #[.val (.int x0), .val (.int x1), .val (.long x2), .second, .val (.int x4), .val (.int x5), .val (.ref at_), .val (.ref b414), .val (.int (x1 &&& (3 : Int32))), .unset, .unset, .unset, .unset] [(.long x2), (.int (5 : Int32)), (.ref b414)]))
            refine own_goW (fun _ ww => XS.iconst X528.here hx rfl (hb hby at_285) ww) ?_
            show own_GoesW _ _ _ _ _ _ _ (T528.setTop (mkF m 286 #[.val (.int x0), .val (.int x1), .val (.long x2), .second, .val (.int x4), .val (.int x5), .val (.ref at_), .val (.ref b414), .val (.int (x1 &&& (3 : Int32))), .unset, .unset, .unset, .unset] [(.int (2 : Int32)), (.long x2), (.int (5 : Int32)), (.ref b414)]))
            obtain ⟨_, _, ⟨T547, L547, k547, n547⟩, -, X547, ⟨Lc547, hQ547, l547, y547, z547⟩, st547⟩ := Jvm.LawKit.callS X528 hx (y := (⟨"com/example/izin/izin/AttributeDefaultFlagPinLaw", "ch", "(JI)C"⟩ : MethodName)) hown (mvT hZ (hw _ (List.mem_of_getElem? (i := 5) rfl))) (mvT hZ (hw _ (List.mem_of_getElem? (i := 6) rfl))) (mvT hZ (hw _ (List.mem_of_getElem? (i := 7) rfl))) (mvT hZ (hw _ (List.mem_of_getElem? (i := 8) rfl))) (by decide) (backOf (W := 2) (rm_ch l Z a0 hw [] x2 (2 : Int32) h528 n0 O528 ) hZ (hw _ (List.mem_of_getElem? (i := 8) rfl)) (hw _ (List.mem_of_getElem? (i := 7) rfl)) (by decide) (by decide)) (g := (mkF m 286 #[.val (.int x0), .val (.int x1), .val (.long x2), .second, .val (.int x4), .val (.int x5), .val (.ref at_), .val (.ref b414), .val (.int (x1 &&& (3 : Int32))), .unset, .unset, .unset, .unset] [(.int (2 : Int32)), (.long x2), (.int (5 : Int32)), (.ref b414)])) rfl (by rw [hml]; rfl) (argsL := [(.long x2), (.int (2 : Int32))]) (rest := [(.int (5 : Int32)), (.ref b414)]) (lenOf pd_7 rfl) rfl (by show 2 * 0 + _ ≤ _; exact Nat.le_of_eq rfl) (hb hby at_286) (fun _ _ => ⟨rfl, e528, (by decide : 1 + 0 ≤ _), (by decide : 8 + 0 ≤ _)⟩)
            dsimp only [Pt.U, Pt.locs, Pt.cells, Pt.slots] at X547 l547 y547 z547 st547 hQ547
            subst l547 y547 z547
            obtain ⟨r547, rfl, N547q, e547, b_r547⟩ := hQ547
            have N547 := Fr.app N528 N547q
            refine own_goW st547 ?_
            show own_GoesW _ _ _ _ _ _ _ (T547.setTop (mkF m 289 #[.val (.int x0), .val (.int x1), .val (.long x2), .second, .val (.int x4), .val (.int x5), .val (.ref at_), .val (.ref b414), .val (.int (x1 &&& (3 : Int32))), .unset, .unset, .unset, .unset] [(.int r547), (.int (5 : Int32)), (.ref b414)]))
            obtain ⟨cl548, Ar548, q548, S548, M548, H548, U548⟩ := id f529
            obtain ⟨T548, h548, X548, e548, W548, st548⟩ := stC X547 hx hZ e547 Ar548 (j := (5 : Int32)) (inb_of S548 ⟨by decide, by decide⟩) (g := (mkF m 289 #[.val (.int x0), .val (.int x1), .val (.long x2), .second, .val (.int x4), .val (.int x5), .val (.ref at_), .val (.ref b414), .val (.int (x1 &&& (3 : Int32))), .unset, .unset, .unset, .unset] [(.int r547), (.int (5 : Int32)), (.ref b414)])) rfl rfl (hb hby at_289)
            have nr548 : nar .char r547 = r547 := (own_narc b_r547)
            rw [nr548] at W548
            have ft548 : fits .char (.int r547) = true := by have q := fits_nar_char r547; rw [nr548] at q; exact q
            have f549 : Arv Z h548 b414 k414 .char (8 : Int32) [(.int (112 : Int32)), (.int (117 : Int32)), (.int (98 : Int32)), (.int (108 : Int32)), (.int (105 : Int32)), (.int r547), (.int r524), (.int r527)] (.int (0 : Int32)) := (Arv.set Ar548 q548 S548 M548 H548 U548 ft548 W548 5 rfl (Nat.le_of_ble_eq_true rfl))
            have hk := Nat.le_trans hk (Keep.of_wr W548).1
            have N548 := Fr.snoc X548 N547 g_b414
            have O548 := O528.wr W548 g_b414
            refine own_goW st548 ?_
            show own_GoesW _ _ _ _ _ _ _ (T548.setTop (mkF m 290 #[.val (.int x0), .val (.int x1), .val (.long x2), .second, .val (.int x4), .val (.int x5), .val (.ref at_), .val (.ref b414), .val (.int (x1 &&& (3 : Int32))), .unset, .unset, .unset, .unset] []))
            refine own_goW (fun _ ww => XS.bipush X548.here hx rfl (hb hby at_290) ww) ?_
            show own_GoesW _ _ _ _ _ _ _ (T548.setTop (mkF m 292 #[.val (.int x0), .val (.int x1), .val (.long x2), .second, .val (.int x4), .val (.int x5), .val (.ref at_), .val (.ref b414), .val (.int (x1 &&& (3 : Int32))), .unset, .unset, .unset, .unset] [(.int (6 : Int32))]))
            refine own_goW (fun _ ww => XS.istore X548.here hx rfl (hb hby at_292) rfl (l' := #[.val (.int x0), .val (.int x1), .val (.long x2), .second, .val (.int x4), .val (.int x5), .val (.ref at_), .val (.ref b414), .val (.int (x1 &&& (3 : Int32))), .val (.int (6 : Int32)), .unset, .unset, .unset]) rfl ww) ?_
            show own_GoesW _ _ _ _ _ _ _ (T548.setTop (mkF m 294 #[.val (.int x0), .val (.int x1), .val (.long x2), .second, .val (.int x4), .val (.int x5), .val (.ref at_), .val (.ref b414), .val (.int (x1 &&& (3 : Int32))), .val (.int (6 : Int32)), .unset, .unset, .unset] []))
            refine own_goW (fun _ ww => XS.goto X548.here hx rfl (pc0 := 294) (pc' := 304) rfl (hb hby at_294) (by decide) (by decide) ww) ?_
            show own_GoesW _ _ _ _ _ _ _ (T548.setTop (mkF m 304 #[.val (.int x0), .val (.int x1), .val (.long x2), .second, .val (.int x4), .val (.int x5), .val (.ref at_), .val (.ref b414), .val (.int (x1 &&& (3 : Int32))), .val (.int (6 : Int32)), .unset, .unset, .unset] []))
            exact H304 _ _ _ X548 e548 N548 O548 hk (112 : Int32) (117 : Int32) (98 : Int32) (108 : Int32) (105 : Int32) r547 r524 r527 (x1 &&& (3 : Int32)) (6 : Int32) (by decide) (by decide) (by decide) (by decide) (by decide) b_r547 b_r524 b_r527 f549
        ·
          refine own_goW (fun _ ww => XS.icmpYes X528.here hx rfl (pc0 := 271) (pc' := 297) rfl (hb hby at_271) rfl (feq hc531).2 (by decide) (by decide) ww) ?_
          show own_GoesW _ _ _ _ _ _ _ (T528.setTop (mkF m 297 #[.val (.int x0), .val (.int x1), .val (.long x2), .second, .val (.int x4), .val (.int x5), .val (.ref at_), .val (.ref b414), .val (.int (x1 &&& (3 : Int32))), .unset, .unset, .unset, .unset] []))
          refine own_goW (fun _ ww => XS.iload X528.here hx rfl (hb hby at_297) rfl  ww) ?_
          show own_GoesW _ _ _ _ _ _ _ (T528.setTop (mkF m 299 #[.val (.int x0), .val (.int x1), .val (.long x2), .second, .val (.int x4), .val (.int x5), .val (.ref at_), .val (.ref b414), .val (.int (x1 &&& (3 : Int32))), .unset, .unset, .unset, .unset] [(.int x4)]))
          refine own_goW (fun _ ww => XS.bipush X528.here hx rfl (hb hby at_299) ww) ?_
          show own_GoesW _ _ _ _ _ _ _ (T528.setTop (mkF m 301 #[.val (.int x0), .val (.int x1), .val (.long x2), .second, .val (.int x4), .val (.int x5), .val (.ref at_), .val (.ref b414), .val (.int (x1 &&& (3 : Int32))), .unset, .unset, .unset, .unset] [(.int (7 : Int32)), (.int x4)]))
          refine own_goW (fun _ ww => XS.iand X528.here hx rfl (hb hby at_301) rfl ww) ?_
          show own_GoesW _ _ _ _ _ _ _ (T528.setTop (mkF m 302 #[.val (.int x0), .val (.int x1), .val (.long x2), .second, .val (.int x4), .val (.int x5), .val (.ref at_), .val (.ref b414), .val (.int (x1 &&& (3 : Int32))), .unset, .unset, .unset, .unset] [(.int (x4 &&& (7 : Int32)))]))
          refine own_goW (fun _ ww => XS.istore X528.here hx rfl (hb hby at_302) rfl (l' := #[.val (.int x0), .val (.int x1), .val (.long x2), .second, .val (.int x4), .val (.int x5), .val (.ref at_), .val (.ref b414), .val (.int (x1 &&& (3 : Int32))), .val (.int (x4 &&& (7 : Int32))), .unset, .unset, .unset]) rfl ww) ?_
          show own_GoesW _ _ _ _ _ _ _ (T528.setTop (mkF m 304 #[.val (.int x0), .val (.int x1), .val (.long x2), .second, .val (.int x4), .val (.int x5), .val (.ref at_), .val (.ref b414), .val (.int (x1 &&& (3 : Int32))), .val (.int (x4 &&& (7 : Int32))), .unset, .unset, .unset] []))
          exact H304 _ _ _ X528 e528 N528 O528 hk (112 : Int32) (117 : Int32) (98 : Int32) (108 : Int32) (105 : Int32) (99 : Int32) r524 r527 (x1 &&& (3 : Int32)) (x4 &&& (7 : Int32)) (by decide) (by decide) (by decide) (by decide) (by decide) (by decide) b_r524 b_r527 f529
  refine own_goW (fun _ ww => XS.iloadN X0.here hx rfl (hb hby at_0) rfl  ww) ?_
  show own_GoesW _ _ _ _ _ _ _ (s₁.setTop (mkF m 1 #[.val (.int x0), .val (.int x1), .val (.long x2), .second, .val (.int x4), .unset, .unset, .unset, .unset, .unset, .unset, .unset, .unset] [(.int x0)]))
  refine own_goW (fun _ ww => X0.ldcI hx hown (mvT hZ (hw _ (List.mem_of_getElem? (i := 0) rfl))) rfl (hb hby at_1) ww) ?_
  show own_GoesW _ _ _ _ _ _ _ (s₁.setTop (mkF m 3 #[.val (.int x0), .val (.int x1), .val (.long x2), .second, .val (.int x4), .unset, .unset, .unset, .unset, .unset, .unset, .unset, .unset] [(.int (2147483647 : Int32)), (.int x0)]))
  refine own_goW (fun _ ww => XS.iand X0.here hx rfl (hb hby at_3) rfl ww) ?_
  show own_GoesW _ _ _ _ _ _ _ (s₁.setTop (mkF m 4 #[.val (.int x0), .val (.int x1), .val (.long x2), .second, .val (.int x4), .unset, .unset, .unset, .unset, .unset, .unset, .unset, .unset] [(.int (x0 &&& (2147483647 : Int32)))]))
  refine own_goW (fun _ ww => XS.bipush X0.here hx rfl (hb hby at_4) ww) ?_
  show own_GoesW _ _ _ _ _ _ _ (s₁.setTop (mkF m 6 #[.val (.int x0), .val (.int x1), .val (.long x2), .second, .val (.int x4), .unset, .unset, .unset, .unset, .unset, .unset, .unset, .unset] [(.int (7 : Int32)), (.int (x0 &&& (2147483647 : Int32)))]))
  refine own_goW (fun _ ww => iremM X0 hx rfl (hb hby at_6) rfl (by decide) ww) ?_
  show own_GoesW _ _ _ _ _ _ _ (s₁.setTop (mkF m 7 #[.val (.int x0), .val (.int x1), .val (.long x2), .second, .val (.int x4), .unset, .unset, .unset, .unset, .unset, .unset, .unset, .unset] [(.int ((x0 &&& (2147483647 : Int32)) % (7 : Int32)))]))
  refine own_goW (fun _ ww => XS.istore X0.here hx rfl (hb hby at_7) rfl (l' := #[.val (.int x0), .val (.int x1), .val (.long x2), .second, .val (.int x4), .val (.int ((x0 &&& (2147483647 : Int32)) % (7 : Int32))), .unset, .unset, .unset, .unset, .unset, .unset, .unset]) rfl ww) ?_
  show own_GoesW _ _ _ _ _ _ _ (s₁.setTop (mkF m 9 #[.val (.int x0), .val (.int x1), .val (.long x2), .second, .val (.int x4), .val (.int ((x0 &&& (2147483647 : Int32)) % (7 : Int32))), .unset, .unset, .unset, .unset, .unset, .unset, .unset] []))
  refine own_goW (fun _ ww => XS.iload X0.here hx rfl (hb hby at_9) rfl  ww) ?_
  show own_GoesW _ _ _ _ _ _ _ (s₁.setTop (mkF m 11 #[.val (.int x0), .val (.int x1), .val (.long x2), .second, .val (.int x4), .val (.int ((x0 &&& (2147483647 : Int32)) % (7 : Int32))), .unset, .unset, .unset, .unset, .unset, .unset, .unset] [(.int ((x0 &&& (2147483647 : Int32)) % (7 : Int32)))]))
  by_cases hc550 : ((x0 &&& (2147483647 : Int32)) % (7 : Int32)) = (0 : Int32)
  ·
    refine own_goW (fun _ ww => XS.ifNo X0.here hx rfl (hb hby at_11) rfl (own_if .ne (teq hc550).2) ww) ?_
    show own_GoesW _ _ _ _ _ _ _ (s₁.setTop (mkF m 14 #[.val (.int x0), .val (.int x1), .val (.long x2), .second, .val (.int x4), .val (.int ((x0 &&& (2147483647 : Int32)) % (7 : Int32))), .unset, .unset, .unset, .unset, .unset, .unset, .unset] []))
    obtain ⟨T551, X551, e551, st551⟩ := getS X0 hx hZ hown (host := "") (hw _ (List.mem_of_getElem? (i := 1) rfl)) Via.refl e0 (S0.ext O0.2) (g := (mkF m 14 #[.val (.int x0), .val (.int x1), .val (.long x2), .second, .val (.int x4), .val (.int ((x0 &&& (2147483647 : Int32)) % (7 : Int32))), .unset, .unset, .unset, .unset, .unset, .unset, .unset] [])) rfl (hb hby at_14)
    refine own_goW st551 ?_
    show own_GoesW _ _ _ _ _ _ _ (T551.setTop (mkF m 17 #[.val (.int x0), .val (.int x1), .val (.long x2), .second, .val (.int x4), .val (.int ((x0 &&& (2147483647 : Int32)) % (7 : Int32))), .unset, .unset, .unset, .unset, .unset, .unset, .unset] [(.ref k0)]))
    refine own_goW (fun _ ww => XS.astore X551.here hx rfl (hb hby at_17) rfl rfl (l' := #[.val (.int x0), .val (.int x1), .val (.long x2), .second, .val (.int x4), .val (.int ((x0 &&& (2147483647 : Int32)) % (7 : Int32))), .val (.ref k0), .unset, .unset, .unset, .unset, .unset, .unset]) rfl ww) ?_
    show own_GoesW _ _ _ _ _ _ _ (T551.setTop (mkF m 19 #[.val (.int x0), .val (.int x1), .val (.long x2), .second, .val (.int x4), .val (.int ((x0 &&& (2147483647 : Int32)) % (7 : Int32))), .val (.ref k0), .unset, .unset, .unset, .unset, .unset, .unset] []))
    refine own_goW (fun _ ww => XS.goto X551.here hx rfl (pc0 := 19) (pc' := 97) rfl (hb hby at_19) (by decide) (by decide) ww) ?_
    show own_GoesW _ _ _ _ _ _ _ (T551.setTop (mkF m 97 #[.val (.int x0), .val (.int x1), .val (.long x2), .second, .val (.int x4), .val (.int ((x0 &&& (2147483647 : Int32)) % (7 : Int32))), .val (.ref k0), .unset, .unset, .unset, .unset, .unset, .unset] []))
    exact H97 _ X551 e551 k0 _ E0 (Or.inr ⟨(by rw [hc550]; decide), Fld.ne F0 F3 (by simp)⟩)
  ·
    refine own_goW (fun _ ww => XS.ifYes X0.here hx rfl (pc0 := 11) (pc' := 22) rfl (hb hby at_11) rfl (own_if .ne (feq hc550).2) (by decide) (by decide) ww) ?_
    show own_GoesW _ _ _ _ _ _ _ (s₁.setTop (mkF m 22 #[.val (.int x0), .val (.int x1), .val (.long x2), .second, .val (.int x4), .val (.int ((x0 &&& (2147483647 : Int32)) % (7 : Int32))), .unset, .unset, .unset, .unset, .unset, .unset, .unset] []))
    refine own_goW (fun _ ww => XS.iload X0.here hx rfl (hb hby at_22) rfl  ww) ?_
    show own_GoesW _ _ _ _ _ _ _ (s₁.setTop (mkF m 24 #[.val (.int x0), .val (.int x1), .val (.long x2), .second, .val (.int x4), .val (.int ((x0 &&& (2147483647 : Int32)) % (7 : Int32))), .unset, .unset, .unset, .unset, .unset, .unset, .unset] [(.int ((x0 &&& (2147483647 : Int32)) % (7 : Int32)))]))
    refine own_goW (fun _ ww => XS.iconst X0.here hx rfl (hb hby at_24) ww) ?_
    show own_GoesW _ _ _ _ _ _ _ (s₁.setTop (mkF m 25 #[.val (.int x0), .val (.int x1), .val (.long x2), .second, .val (.int x4), .val (.int ((x0 &&& (2147483647 : Int32)) % (7 : Int32))), .unset, .unset, .unset, .unset, .unset, .unset, .unset] [(.int (1 : Int32)), (.int ((x0 &&& (2147483647 : Int32)) % (7 : Int32)))]))
    by_cases hc552 : ((x0 &&& (2147483647 : Int32)) % (7 : Int32)) = (1 : Int32)
    ·
      refine own_goW (fun _ ww => XS.icmpNo X0.here hx rfl (hb hby at_25) rfl (teq hc552).2 ww) ?_
      show own_GoesW _ _ _ _ _ _ _ (s₁.setTop (mkF m 28 #[.val (.int x0), .val (.int x1), .val (.long x2), .second, .val (.int x4), .val (.int ((x0 &&& (2147483647 : Int32)) % (7 : Int32))), .unset, .unset, .unset, .unset, .unset, .unset, .unset] []))
      obtain ⟨T553, X553, e553, st553⟩ := getS X0 hx hZ hown (host := "") (hw _ (List.mem_of_getElem? (i := 97) rfl)) Via.refl e0 (S1.ext O0.2) (g := (mkF m 28 #[.val (.int x0), .val (.int x1), .val (.long x2), .second, .val (.int x4), .val (.int ((x0 &&& (2147483647 : Int32)) % (7 : Int32))), .unset, .unset, .unset, .unset, .unset, .unset, .unset] [])) rfl (hb hby at_28)
      refine own_goW st553 ?_
      show own_GoesW _ _ _ _ _ _ _ (T553.setTop (mkF m 31 #[.val (.int x0), .val (.int x1), .val (.long x2), .second, .val (.int x4), .val (.int ((x0 &&& (2147483647 : Int32)) % (7 : Int32))), .unset, .unset, .unset, .unset, .unset, .unset, .unset] [(.ref k1)]))
      refine own_goW (fun _ ww => XS.astore X553.here hx rfl (hb hby at_31) rfl rfl (l' := #[.val (.int x0), .val (.int x1), .val (.long x2), .second, .val (.int x4), .val (.int ((x0 &&& (2147483647 : Int32)) % (7 : Int32))), .val (.ref k1), .unset, .unset, .unset, .unset, .unset, .unset]) rfl ww) ?_
      show own_GoesW _ _ _ _ _ _ _ (T553.setTop (mkF m 33 #[.val (.int x0), .val (.int x1), .val (.long x2), .second, .val (.int x4), .val (.int ((x0 &&& (2147483647 : Int32)) % (7 : Int32))), .val (.ref k1), .unset, .unset, .unset, .unset, .unset, .unset] []))
      refine own_goW (fun _ ww => XS.goto X553.here hx rfl (pc0 := 33) (pc' := 97) rfl (hb hby at_33) (by decide) (by decide) ww) ?_
      show own_GoesW _ _ _ _ _ _ _ (T553.setTop (mkF m 97 #[.val (.int x0), .val (.int x1), .val (.long x2), .second, .val (.int x4), .val (.int ((x0 &&& (2147483647 : Int32)) % (7 : Int32))), .val (.ref k1), .unset, .unset, .unset, .unset, .unset, .unset] []))
      exact H97 _ X553 e553 k1 _ E1 (Or.inr ⟨(by rw [hc552]; decide), Fld.ne F1 F3 (by simp)⟩)
    ·
      refine own_goW (fun _ ww => XS.icmpYes X0.here hx rfl (pc0 := 25) (pc' := 36) rfl (hb hby at_25) rfl (feq hc552).2 (by decide) (by decide) ww) ?_
      show own_GoesW _ _ _ _ _ _ _ (s₁.setTop (mkF m 36 #[.val (.int x0), .val (.int x1), .val (.long x2), .second, .val (.int x4), .val (.int ((x0 &&& (2147483647 : Int32)) % (7 : Int32))), .unset, .unset, .unset, .unset, .unset, .unset, .unset] []))
      refine own_goW (fun _ ww => XS.iload X0.here hx rfl (hb hby at_36) rfl  ww) ?_
      show own_GoesW _ _ _ _ _ _ _ (s₁.setTop (mkF m 38 #[.val (.int x0), .val (.int x1), .val (.long x2), .second, .val (.int x4), .val (.int ((x0 &&& (2147483647 : Int32)) % (7 : Int32))), .unset, .unset, .unset, .unset, .unset, .unset, .unset] [(.int ((x0 &&& (2147483647 : Int32)) % (7 : Int32)))]))
      refine own_goW (fun _ ww => XS.iconst X0.here hx rfl (hb hby at_38) ww) ?_
      show own_GoesW _ _ _ _ _ _ _ (s₁.setTop (mkF m 39 #[.val (.int x0), .val (.int x1), .val (.long x2), .second, .val (.int x4), .val (.int ((x0 &&& (2147483647 : Int32)) % (7 : Int32))), .unset, .unset, .unset, .unset, .unset, .unset, .unset] [(.int (2 : Int32)), (.int ((x0 &&& (2147483647 : Int32)) % (7 : Int32)))]))
      by_cases hc554 : ((x0 &&& (2147483647 : Int32)) % (7 : Int32)) = (2 : Int32)
      ·
        refine own_goW (fun _ ww => XS.icmpNo X0.here hx rfl (hb hby at_39) rfl (teq hc554).2 ww) ?_
        show own_GoesW _ _ _ _ _ _ _ (s₁.setTop (mkF m 42 #[.val (.int x0), .val (.int x1), .val (.long x2), .second, .val (.int x4), .val (.int ((x0 &&& (2147483647 : Int32)) % (7 : Int32))), .unset, .unset, .unset, .unset, .unset, .unset, .unset] []))
        obtain ⟨T555, X555, e555, st555⟩ := getS X0 hx hZ hown (host := "") (hw _ (List.mem_of_getElem? (i := 99) rfl)) Via.refl e0 (S2.ext O0.2) (g := (mkF m 42 #[.val (.int x0), .val (.int x1), .val (.long x2), .second, .val (.int x4), .val (.int ((x0 &&& (2147483647 : Int32)) % (7 : Int32))), .unset, .unset, .unset, .unset, .unset, .unset, .unset] [])) rfl (hb hby at_42)
        refine own_goW st555 ?_
        show own_GoesW _ _ _ _ _ _ _ (T555.setTop (mkF m 45 #[.val (.int x0), .val (.int x1), .val (.long x2), .second, .val (.int x4), .val (.int ((x0 &&& (2147483647 : Int32)) % (7 : Int32))), .unset, .unset, .unset, .unset, .unset, .unset, .unset] [(.ref k2)]))
        refine own_goW (fun _ ww => XS.astore X555.here hx rfl (hb hby at_45) rfl rfl (l' := #[.val (.int x0), .val (.int x1), .val (.long x2), .second, .val (.int x4), .val (.int ((x0 &&& (2147483647 : Int32)) % (7 : Int32))), .val (.ref k2), .unset, .unset, .unset, .unset, .unset, .unset]) rfl ww) ?_
        show own_GoesW _ _ _ _ _ _ _ (T555.setTop (mkF m 47 #[.val (.int x0), .val (.int x1), .val (.long x2), .second, .val (.int x4), .val (.int ((x0 &&& (2147483647 : Int32)) % (7 : Int32))), .val (.ref k2), .unset, .unset, .unset, .unset, .unset, .unset] []))
        refine own_goW (fun _ ww => XS.goto X555.here hx rfl (pc0 := 47) (pc' := 97) rfl (hb hby at_47) (by decide) (by decide) ww) ?_
        show own_GoesW _ _ _ _ _ _ _ (T555.setTop (mkF m 97 #[.val (.int x0), .val (.int x1), .val (.long x2), .second, .val (.int x4), .val (.int ((x0 &&& (2147483647 : Int32)) % (7 : Int32))), .val (.ref k2), .unset, .unset, .unset, .unset, .unset, .unset] []))
        exact H97 _ X555 e555 k2 _ E2 (Or.inr ⟨(by rw [hc554]; decide), Fld.ne F2 F3 (by simp)⟩)
      ·
        refine own_goW (fun _ ww => XS.icmpYes X0.here hx rfl (pc0 := 39) (pc' := 50) rfl (hb hby at_39) rfl (feq hc554).2 (by decide) (by decide) ww) ?_
        show own_GoesW _ _ _ _ _ _ _ (s₁.setTop (mkF m 50 #[.val (.int x0), .val (.int x1), .val (.long x2), .second, .val (.int x4), .val (.int ((x0 &&& (2147483647 : Int32)) % (7 : Int32))), .unset, .unset, .unset, .unset, .unset, .unset, .unset] []))
        refine own_goW (fun _ ww => XS.iload X0.here hx rfl (hb hby at_50) rfl  ww) ?_
        show own_GoesW _ _ _ _ _ _ _ (s₁.setTop (mkF m 52 #[.val (.int x0), .val (.int x1), .val (.long x2), .second, .val (.int x4), .val (.int ((x0 &&& (2147483647 : Int32)) % (7 : Int32))), .unset, .unset, .unset, .unset, .unset, .unset, .unset] [(.int ((x0 &&& (2147483647 : Int32)) % (7 : Int32)))]))
        refine own_goW (fun _ ww => XS.iconst X0.here hx rfl (hb hby at_52) ww) ?_
        show own_GoesW _ _ _ _ _ _ _ (s₁.setTop (mkF m 53 #[.val (.int x0), .val (.int x1), .val (.long x2), .second, .val (.int x4), .val (.int ((x0 &&& (2147483647 : Int32)) % (7 : Int32))), .unset, .unset, .unset, .unset, .unset, .unset, .unset] [(.int (3 : Int32)), (.int ((x0 &&& (2147483647 : Int32)) % (7 : Int32)))]))
        by_cases hc556 : ((x0 &&& (2147483647 : Int32)) % (7 : Int32)) = (3 : Int32)
        ·
          refine own_goW (fun _ ww => XS.icmpNo X0.here hx rfl (hb hby at_53) rfl (teq hc556).2 ww) ?_
          show own_GoesW _ _ _ _ _ _ _ (s₁.setTop (mkF m 56 #[.val (.int x0), .val (.int x1), .val (.long x2), .second, .val (.int x4), .val (.int ((x0 &&& (2147483647 : Int32)) % (7 : Int32))), .unset, .unset, .unset, .unset, .unset, .unset, .unset] []))
          obtain ⟨T557, X557, e557, st557⟩ := getS X0 hx hZ hown (host := "") (hw _ (List.mem_of_getElem? (i := 52) rfl)) Via.refl e0 (S3.ext O0.2) (g := (mkF m 56 #[.val (.int x0), .val (.int x1), .val (.long x2), .second, .val (.int x4), .val (.int ((x0 &&& (2147483647 : Int32)) % (7 : Int32))), .unset, .unset, .unset, .unset, .unset, .unset, .unset] [])) rfl (hb hby at_56)
          refine own_goW st557 ?_
          show own_GoesW _ _ _ _ _ _ _ (T557.setTop (mkF m 59 #[.val (.int x0), .val (.int x1), .val (.long x2), .second, .val (.int x4), .val (.int ((x0 &&& (2147483647 : Int32)) % (7 : Int32))), .unset, .unset, .unset, .unset, .unset, .unset, .unset] [(.ref k3)]))
          refine own_goW (fun _ ww => XS.astore X557.here hx rfl (hb hby at_59) rfl rfl (l' := #[.val (.int x0), .val (.int x1), .val (.long x2), .second, .val (.int x4), .val (.int ((x0 &&& (2147483647 : Int32)) % (7 : Int32))), .val (.ref k3), .unset, .unset, .unset, .unset, .unset, .unset]) rfl ww) ?_
          show own_GoesW _ _ _ _ _ _ _ (T557.setTop (mkF m 61 #[.val (.int x0), .val (.int x1), .val (.long x2), .second, .val (.int x4), .val (.int ((x0 &&& (2147483647 : Int32)) % (7 : Int32))), .val (.ref k3), .unset, .unset, .unset, .unset, .unset, .unset] []))
          refine own_goW (fun _ ww => XS.goto X557.here hx rfl (pc0 := 61) (pc' := 97) rfl (hb hby at_61) (by decide) (by decide) ww) ?_
          show own_GoesW _ _ _ _ _ _ _ (T557.setTop (mkF m 97 #[.val (.int x0), .val (.int x1), .val (.long x2), .second, .val (.int x4), .val (.int ((x0 &&& (2147483647 : Int32)) % (7 : Int32))), .val (.ref k3), .unset, .unset, .unset, .unset, .unset, .unset] []))
          exact H97 _ X557 e557 k3 _ E3 (Or.inl ⟨hc556, rfl⟩)
        ·
          refine own_goW (fun _ ww => XS.icmpYes X0.here hx rfl (pc0 := 53) (pc' := 64) rfl (hb hby at_53) rfl (feq hc556).2 (by decide) (by decide) ww) ?_
          show own_GoesW _ _ _ _ _ _ _ (s₁.setTop (mkF m 64 #[.val (.int x0), .val (.int x1), .val (.long x2), .second, .val (.int x4), .val (.int ((x0 &&& (2147483647 : Int32)) % (7 : Int32))), .unset, .unset, .unset, .unset, .unset, .unset, .unset] []))
          refine own_goW (fun _ ww => XS.iload X0.here hx rfl (hb hby at_64) rfl  ww) ?_
          show own_GoesW _ _ _ _ _ _ _ (s₁.setTop (mkF m 66 #[.val (.int x0), .val (.int x1), .val (.long x2), .second, .val (.int x4), .val (.int ((x0 &&& (2147483647 : Int32)) % (7 : Int32))), .unset, .unset, .unset, .unset, .unset, .unset, .unset] [(.int ((x0 &&& (2147483647 : Int32)) % (7 : Int32)))]))
          refine own_goW (fun _ ww => XS.iconst X0.here hx rfl (hb hby at_66) ww) ?_
          show own_GoesW _ _ _ _ _ _ _ (s₁.setTop (mkF m 67 #[.val (.int x0), .val (.int x1), .val (.long x2), .second, .val (.int x4), .val (.int ((x0 &&& (2147483647 : Int32)) % (7 : Int32))), .unset, .unset, .unset, .unset, .unset, .unset, .unset] [(.int (4 : Int32)), (.int ((x0 &&& (2147483647 : Int32)) % (7 : Int32)))]))
          by_cases hc558 : ((x0 &&& (2147483647 : Int32)) % (7 : Int32)) = (4 : Int32)
          ·
            refine own_goW (fun _ ww => XS.icmpNo X0.here hx rfl (hb hby at_67) rfl (teq hc558).2 ww) ?_
            show own_GoesW _ _ _ _ _ _ _ (s₁.setTop (mkF m 70 #[.val (.int x0), .val (.int x1), .val (.long x2), .second, .val (.int x4), .val (.int ((x0 &&& (2147483647 : Int32)) % (7 : Int32))), .unset, .unset, .unset, .unset, .unset, .unset, .unset] []))
            obtain ⟨T559, X559, e559, st559⟩ := getS X0 hx hZ hown (host := "") (hw _ (List.mem_of_getElem? (i := 103) rfl)) Via.refl e0 (S4.ext O0.2) (g := (mkF m 70 #[.val (.int x0), .val (.int x1), .val (.long x2), .second, .val (.int x4), .val (.int ((x0 &&& (2147483647 : Int32)) % (7 : Int32))), .unset, .unset, .unset, .unset, .unset, .unset, .unset] [])) rfl (hb hby at_70)
            refine own_goW st559 ?_
            show own_GoesW _ _ _ _ _ _ _ (T559.setTop (mkF m 73 #[.val (.int x0), .val (.int x1), .val (.long x2), .second, .val (.int x4), .val (.int ((x0 &&& (2147483647 : Int32)) % (7 : Int32))), .unset, .unset, .unset, .unset, .unset, .unset, .unset] [(.ref k4)]))
            refine own_goW (fun _ ww => XS.astore X559.here hx rfl (hb hby at_73) rfl rfl (l' := #[.val (.int x0), .val (.int x1), .val (.long x2), .second, .val (.int x4), .val (.int ((x0 &&& (2147483647 : Int32)) % (7 : Int32))), .val (.ref k4), .unset, .unset, .unset, .unset, .unset, .unset]) rfl ww) ?_
            show own_GoesW _ _ _ _ _ _ _ (T559.setTop (mkF m 75 #[.val (.int x0), .val (.int x1), .val (.long x2), .second, .val (.int x4), .val (.int ((x0 &&& (2147483647 : Int32)) % (7 : Int32))), .val (.ref k4), .unset, .unset, .unset, .unset, .unset, .unset] []))
            refine own_goW (fun _ ww => XS.goto X559.here hx rfl (pc0 := 75) (pc' := 97) rfl (hb hby at_75) (by decide) (by decide) ww) ?_
            show own_GoesW _ _ _ _ _ _ _ (T559.setTop (mkF m 97 #[.val (.int x0), .val (.int x1), .val (.long x2), .second, .val (.int x4), .val (.int ((x0 &&& (2147483647 : Int32)) % (7 : Int32))), .val (.ref k4), .unset, .unset, .unset, .unset, .unset, .unset] []))
            exact H97 _ X559 e559 k4 _ E4 (Or.inr ⟨hc556, Fld.ne F4 F3 (by simp)⟩)
          ·
            refine own_goW (fun _ ww => XS.icmpYes X0.here hx rfl (pc0 := 67) (pc' := 78) rfl (hb hby at_67) rfl (feq hc558).2 (by decide) (by decide) ww) ?_
            show own_GoesW _ _ _ _ _ _ _ (s₁.setTop (mkF m 78 #[.val (.int x0), .val (.int x1), .val (.long x2), .second, .val (.int x4), .val (.int ((x0 &&& (2147483647 : Int32)) % (7 : Int32))), .unset, .unset, .unset, .unset, .unset, .unset, .unset] []))
            refine own_goW (fun _ ww => XS.iload X0.here hx rfl (hb hby at_78) rfl  ww) ?_
            show own_GoesW _ _ _ _ _ _ _ (s₁.setTop (mkF m 80 #[.val (.int x0), .val (.int x1), .val (.long x2), .second, .val (.int x4), .val (.int ((x0 &&& (2147483647 : Int32)) % (7 : Int32))), .unset, .unset, .unset, .unset, .unset, .unset, .unset] [(.int ((x0 &&& (2147483647 : Int32)) % (7 : Int32)))]))
            refine own_goW (fun _ ww => XS.iconst X0.here hx rfl (hb hby at_80) ww) ?_
            show own_GoesW _ _ _ _ _ _ _ (s₁.setTop (mkF m 81 #[.val (.int x0), .val (.int x1), .val (.long x2), .second, .val (.int x4), .val (.int ((x0 &&& (2147483647 : Int32)) % (7 : Int32))), .unset, .unset, .unset, .unset, .unset, .unset, .unset] [(.int (5 : Int32)), (.int ((x0 &&& (2147483647 : Int32)) % (7 : Int32)))]))
            by_cases hc560 : ((x0 &&& (2147483647 : Int32)) % (7 : Int32)) = (5 : Int32)
            ·
              refine own_goW (fun _ ww => XS.icmpNo X0.here hx rfl (hb hby at_81) rfl (teq hc560).2 ww) ?_
              show own_GoesW _ _ _ _ _ _ _ (s₁.setTop (mkF m 84 #[.val (.int x0), .val (.int x1), .val (.long x2), .second, .val (.int x4), .val (.int ((x0 &&& (2147483647 : Int32)) % (7 : Int32))), .unset, .unset, .unset, .unset, .unset, .unset, .unset] []))
              obtain ⟨T561, X561, e561, st561⟩ := getS X0 hx hZ hown (host := "") (hw _ (List.mem_of_getElem? (i := 95) rfl)) Via.refl e0 (S5.ext O0.2) (g := (mkF m 84 #[.val (.int x0), .val (.int x1), .val (.long x2), .second, .val (.int x4), .val (.int ((x0 &&& (2147483647 : Int32)) % (7 : Int32))), .unset, .unset, .unset, .unset, .unset, .unset, .unset] [])) rfl (hb hby at_84)
              refine own_goW st561 ?_
              show own_GoesW _ _ _ _ _ _ _ (T561.setTop (mkF m 87 #[.val (.int x0), .val (.int x1), .val (.long x2), .second, .val (.int x4), .val (.int ((x0 &&& (2147483647 : Int32)) % (7 : Int32))), .unset, .unset, .unset, .unset, .unset, .unset, .unset] [(.ref k5)]))
              refine own_goW (fun _ ww => XS.astore X561.here hx rfl (hb hby at_87) rfl rfl (l' := #[.val (.int x0), .val (.int x1), .val (.long x2), .second, .val (.int x4), .val (.int ((x0 &&& (2147483647 : Int32)) % (7 : Int32))), .val (.ref k5), .unset, .unset, .unset, .unset, .unset, .unset]) rfl ww) ?_
              show own_GoesW _ _ _ _ _ _ _ (T561.setTop (mkF m 89 #[.val (.int x0), .val (.int x1), .val (.long x2), .second, .val (.int x4), .val (.int ((x0 &&& (2147483647 : Int32)) % (7 : Int32))), .val (.ref k5), .unset, .unset, .unset, .unset, .unset, .unset] []))
              refine own_goW (fun _ ww => XS.goto X561.here hx rfl (pc0 := 89) (pc' := 97) rfl (hb hby at_89) (by decide) (by decide) ww) ?_
              show own_GoesW _ _ _ _ _ _ _ (T561.setTop (mkF m 97 #[.val (.int x0), .val (.int x1), .val (.long x2), .second, .val (.int x4), .val (.int ((x0 &&& (2147483647 : Int32)) % (7 : Int32))), .val (.ref k5), .unset, .unset, .unset, .unset, .unset, .unset] []))
              exact H97 _ X561 e561 k5 _ E5 (Or.inr ⟨hc556, Fld.ne F5 F3 (by simp)⟩)
            ·
              refine own_goW (fun _ ww => XS.icmpYes X0.here hx rfl (pc0 := 81) (pc' := 92) rfl (hb hby at_81) rfl (feq hc560).2 (by decide) (by decide) ww) ?_
              show own_GoesW _ _ _ _ _ _ _ (s₁.setTop (mkF m 92 #[.val (.int x0), .val (.int x1), .val (.long x2), .second, .val (.int x4), .val (.int ((x0 &&& (2147483647 : Int32)) % (7 : Int32))), .unset, .unset, .unset, .unset, .unset, .unset, .unset] []))
              obtain ⟨T562, X562, e562, st562⟩ := getS X0 hx hZ hown (host := "") (hw _ (List.mem_of_getElem? (i := 101) rfl)) Via.refl e0 (S6.ext O0.2) (g := (mkF m 92 #[.val (.int x0), .val (.int x1), .val (.long x2), .second, .val (.int x4), .val (.int ((x0 &&& (2147483647 : Int32)) % (7 : Int32))), .unset, .unset, .unset, .unset, .unset, .unset, .unset] [])) rfl (hb hby at_92)
              refine own_goW st562 ?_
              show own_GoesW _ _ _ _ _ _ _ (T562.setTop (mkF m 95 #[.val (.int x0), .val (.int x1), .val (.long x2), .second, .val (.int x4), .val (.int ((x0 &&& (2147483647 : Int32)) % (7 : Int32))), .unset, .unset, .unset, .unset, .unset, .unset, .unset] [(.ref k6)]))
              refine own_goW (fun _ ww => XS.astore X562.here hx rfl (hb hby at_95) rfl rfl (l' := #[.val (.int x0), .val (.int x1), .val (.long x2), .second, .val (.int x4), .val (.int ((x0 &&& (2147483647 : Int32)) % (7 : Int32))), .val (.ref k6), .unset, .unset, .unset, .unset, .unset, .unset]) rfl ww) ?_
              show own_GoesW _ _ _ _ _ _ _ (T562.setTop (mkF m 97 #[.val (.int x0), .val (.int x1), .val (.long x2), .second, .val (.int x4), .val (.int ((x0 &&& (2147483647 : Int32)) % (7 : Int32))), .val (.ref k6), .unset, .unset, .unset, .unset, .unset, .unset] []))
              exact H97 _ X562 e562 k6 _ E6 (Or.inr ⟨hc556, Fld.ne F6 F3 (by simp)⟩)
set_option maxRecDepth 65536 in
set_option maxHeartbeats 40000000 in
theorem comes_1 {Post : Tables → Env → Array Value → State → Outcome → State → Prop} (hpost : ∀ tb e args s v u, (limb_1_1.after args s (.returned v) u = true ∧ limb_1_2.after args s (.returned v) u = true ∧ True) → ReturnedEndW s (.returned v) u (Jvm.fieldLocs frame_1_writes args s ++ Jvm.arrayLocs frame_1_arrays args s ++ Jvm.staticLocs frame_1_statics s) 24 2176 → Post tb e args s (.returned v) u) :
    ArmFor flags0 classFile x code maxLocals ret World_1 tables_1 room_1 Calls_1 rest_1 Pre_1 Post := by
  intro l hfl _ _ p e ha hc hk s m args below hf hA hF happ hP
  obtain ⟨hcalls, hrest, hpre⟩ := hP
  obtain ⟨-, -, -, hnamed, -, -, -, hat⟩ := (Spec.applies_iff hf).mp happ
  obtain ⟨hg, hn⟩ := and_e (Cond.before_iff.mp (show (Jvm.Cond.and given_1 narrow_1).before args s = true from hpre))
  obtain ⟨q1, q2⟩ := and_e hg
  obtain ⟨q3, q4⟩ := and_e q2
  obtain ⟨q5, q6⟩ := and_e q4
  obtain ⟨q7, q8⟩ := and_e q6
  obtain ⟨q9, q10⟩ := and_e hn
  obtain ⟨q11, q12⟩ := and_e q10
  obtain ⟨q13, q14⟩ := and_e q12
  obtain ⟨q15, q16⟩ := and_e q14
  obtain ⟨q17, q18⟩ := and_e q16
  obtain ⟨q19, q20⟩ := and_e q18
  obtain ⟨q21, q22⟩ := and_e q20
  obtain ⟨q23, q24⟩ := and_e q22
  obtain ⟨q25, q26⟩ := and_e q24
  obtain ⟨q27, q28⟩ := and_e q26
  obtain ⟨q29, q30⟩ := and_e q28
  obtain ⟨q31, q32⟩ := and_e q30
  obtain ⟨q33, q34⟩ := and_e q32
  obtain ⟨w0, w1, w2, w3, rfl⟩ : ∃ w0 w1 w2 w3 : Value, args = #[w0, w1, w2, w3] := by
    have hs : args.size = 4 := by simpa [Cond.value, given_1] using q1
    obtain ⟨L⟩ := args
    match L, hs with
    | [w0, w1, w2, w3], _ => exact ⟨w0, w1, w2, w3, rfl⟩
  have hw := fun d (hd : d ∈ tables_1) => atoms_spec (ws := Jvm.Cond.code x code maxLocals ret :: tables_1) hat d (List.mem_cons_of_mem _ hd)
  have hfit : Fit s := fun {y c} hc i hi => by
    obtain ⟨ha, rfl⟩ := Array.getElem?_eq_some_iff.mp hc
    have q := List.all_eq_true.mp ((Array.all_eq_true_iff_forall_mem.mp hF) _ (Array.getElem_mem ha)) i (List.mem_range.mpr hi)
    simpa [Array.getElem?_eq_getElem hi] using q
  obtain ⟨hsets, hown0⟩ := atoms_of _ (rest_1_c_eq ▸ (show rest_1_c.before _ s = true from hrest))
  obtain ⟨i0, ei0⟩ := is_v q3
  obtain rfl : w0 = (.int i0) := Option.some.inj ei0
  obtain ⟨i1, ei1⟩ := is_v q5
  obtain rfl : w1 = (.int i1) := Option.some.inj ei1
  obtain ⟨i2, ei2⟩ := isL_v q7
  obtain rfl : w2 = (.long i2) := Option.some.inj ei2
  obtain ⟨i3, ei3⟩ := is_v q8
  obtain rfl : w3 = (.int i3) := Option.some.inj ei3
  have qs1 := Cond.before_iff.mp (hsets _ (List.mem_of_getElem? (i := 1) rfl))
  have qs2 := Cond.before_iff.mp (hsets _ (List.mem_of_getElem? (i := 2) rfl))
  have qs8 := Cond.before_iff.mp (hsets _ (List.mem_of_getElem? (i := 8) rfl))
  obtain ⟨a_Attribute_KICK, ev_Attribute_KICK⟩ := exa_v q9
  have E_Attribute_KICK : Exa s s.heap a_Attribute_KICK "com/example/izin/izin/Attribute" := Exa.start ev_Attribute_KICK q9
  have S_Attribute_KICK : Sta s s.heap "com/example/izin/izin/Attribute" "KICK" "Lcom/example/izin/izin/Attribute;" (.ref a_Attribute_KICK) := Sta.start ev_Attribute_KICK (Or.inr ⟨(hw _ (List.mem_of_getElem? (i := 2) rfl)), (hw _ (List.mem_of_getElem? (i := 3) rfl))⟩)
  obtain ⟨a_Attribute_INVITE, ev_Attribute_INVITE⟩ := exa_v q11
  have E_Attribute_INVITE : Exa s s.heap a_Attribute_INVITE "com/example/izin/izin/Attribute" := Exa.start ev_Attribute_INVITE q11
  have S_Attribute_INVITE : Sta s s.heap "com/example/izin/izin/Attribute" "INVITE" "Lcom/example/izin/izin/Attribute;" (.ref a_Attribute_INVITE) := Sta.start ev_Attribute_INVITE (Or.inr ⟨(hw _ (List.mem_of_getElem? (i := 2) rfl)), (hw _ (List.mem_of_getElem? (i := 51) rfl))⟩)
  obtain ⟨a_Attribute_STATE, ev_Attribute_STATE⟩ := exa_v q17
  have E_Attribute_STATE : Exa s s.heap a_Attribute_STATE "com/example/izin/izin/Attribute" := Exa.start ev_Attribute_STATE q17
  have S_Attribute_STATE : Sta s s.heap "com/example/izin/izin/Attribute" "STATE" "Lcom/example/izin/izin/Attribute;" (.ref a_Attribute_STATE) := Sta.start ev_Attribute_STATE (Or.inr ⟨(hw _ (List.mem_of_getElem? (i := 2) rfl)), (hw _ (List.mem_of_getElem? (i := 96) rfl))⟩)
  obtain ⟨a_Attribute_BAN, ev_Attribute_BAN⟩ := exa_v q21
  have E_Attribute_BAN : Exa s s.heap a_Attribute_BAN "com/example/izin/izin/Attribute" := Exa.start ev_Attribute_BAN q21
  have S_Attribute_BAN : Sta s s.heap "com/example/izin/izin/Attribute" "BAN" "Lcom/example/izin/izin/Attribute;" (.ref a_Attribute_BAN) := Sta.start ev_Attribute_BAN (Or.inr ⟨(hw _ (List.mem_of_getElem? (i := 2) rfl)), (hw _ (List.mem_of_getElem? (i := 98) rfl))⟩)
  obtain ⟨a_Attribute_REDACT, ev_Attribute_REDACT⟩ := exa_v q25
  have E_Attribute_REDACT : Exa s s.heap a_Attribute_REDACT "com/example/izin/izin/Attribute" := Exa.start ev_Attribute_REDACT q25
  have S_Attribute_REDACT : Sta s s.heap "com/example/izin/izin/Attribute" "REDACT" "Lcom/example/izin/izin/Attribute;" (.ref a_Attribute_REDACT) := Sta.start ev_Attribute_REDACT (Or.inr ⟨(hw _ (List.mem_of_getElem? (i := 2) rfl)), (hw _ (List.mem_of_getElem? (i := 100) rfl))⟩)
  obtain ⟨a_Attribute_EVENTS, ev_Attribute_EVENTS⟩ := exa_v q29
  have E_Attribute_EVENTS : Exa s s.heap a_Attribute_EVENTS "com/example/izin/izin/Attribute" := Exa.start ev_Attribute_EVENTS q29
  have S_Attribute_EVENTS : Sta s s.heap "com/example/izin/izin/Attribute" "EVENTS" "Lcom/example/izin/izin/Attribute;" (.ref a_Attribute_EVENTS) := Sta.start ev_Attribute_EVENTS (Or.inr ⟨(hw _ (List.mem_of_getElem? (i := 2) rfl)), (hw _ (List.mem_of_getElem? (i := 102) rfl))⟩)
  obtain ⟨a_Attribute_ASSIGN, ev_Attribute_ASSIGN⟩ := exa_v q33
  have E_Attribute_ASSIGN : Exa s s.heap a_Attribute_ASSIGN "com/example/izin/izin/Attribute" := Exa.start ev_Attribute_ASSIGN q33
  have S_Attribute_ASSIGN : Sta s s.heap "com/example/izin/izin/Attribute" "ASSIGN" "Lcom/example/izin/izin/Attribute;" (.ref a_Attribute_ASSIGN) := Sta.start ev_Attribute_ASSIGN (Or.inr ⟨(hw _ (List.mem_of_getElem? (i := 2) rfl)), (hw _ (List.mem_of_getElem? (i := 104) rfl))⟩)
  have F_Attribute_KICK_ordinal := own_fI ev_Attribute_KICK q13
  have F_Attribute_INVITE_ordinal := own_fI ev_Attribute_INVITE q15
  have F_Attribute_STATE_ordinal := own_fI ev_Attribute_STATE q19
  have F_Attribute_BAN_ordinal := own_fI ev_Attribute_BAN q23
  have F_Attribute_REDACT_ordinal := own_fI ev_Attribute_REDACT q27
  have F_Attribute_EVENTS_ordinal := own_fI ev_Attribute_EVENTS q31
  have F_Attribute_ASSIGN_ordinal := own_fI ev_Attribute_ASSIGN q34
  obtain ⟨zc, SC, hzc⟩ := own_compact qs1 qs2 (hsets _ (List.mem_of_getElem? (i := 0) rfl))
  have hcw : Jvm.Lit.compactW.before _ s = true := hsets _ (List.mem_of_getElem? (i := 2) rfl)
  have hh7 : Jvm.Lit.constHeld s "java/lang/String" 7 := hcalls.1 ("java/lang/String", 7) (List.mem_of_getElem? (i := 1) rfl)
  have hh88 : Jvm.Lit.constHeld s "com/example/izin/izin/Attribute" 88 := hcalls.1 ("com/example/izin/izin/Attribute", 88) (List.mem_of_getElem? (i := 0) rfl)
  obtain ⟨fm, evf, rfm⟩ := isR_v qs8
  have SF : Sta s s.heap "jdk/internal/util/Preconditions" "SIOOBE_FORMATTER" "Ljava/util/function/BiFunction;" fm := Sta.start evf (Or.inl (hsets _ (List.mem_of_getElem? (i := 7) rfl)))
  obtain ⟨n, o, h1, h2, h3, _, L, rfl, ⟨rfl, N⟩, hq⟩ := rm_law l s _ hw tables_1 i0 i1 i2 i3 a_Attribute_KICK a_Attribute_BAN a_Attribute_REDACT a_Attribute_INVITE a_Attribute_ASSIGN a_Attribute_STATE a_Attribute_EVENTS zc fm s.heap s.heap.size (Old.start s) S_Attribute_KICK S_Attribute_BAN S_Attribute_REDACT S_Attribute_INVITE S_Attribute_ASSIGN S_Attribute_STATE S_Attribute_EVENTS E_Attribute_KICK E_Attribute_BAN E_Attribute_REDACT E_Attribute_INVITE E_Attribute_ASSIGN E_Attribute_STATE E_Attribute_EVENTS F_Attribute_KICK_ordinal F_Attribute_BAN_ordinal F_Attribute_REDACT_ordinal F_Attribute_INVITE_ordinal F_Attribute_ASSIGN_ordinal F_Attribute_STATE_ordinal F_Attribute_EVENTS_ordinal SC hzc SF rfm hh88 hh7 hcw p e ha hc hk s m _ below hf ((Spec.applies_iff_loose hf).mp happ).1 ⟨rfl, State.Warmed39.refl s, rfl, IB.start⟩ trivial
  refine ⟨n, _, h1, h2, h3, hpost _ _ _ _ _ _ ⟨Cond.after_iff.mpr rfl, Cond.after_iff.mpr (eq_i res_at (Term.int_eval (1)) rfl), trivial⟩ ⟨hq.1, hq.2.1, hq.2.2.1, (hq.2.2.2.sift fun y hy => Or.inr (N y hy)).mono (by decide) (by decide)⟩⟩
theorem main_1_1 : Claimed_1_1 := comes_1 fun _ _ _ _ _ _ h hF => ⟨h.1, hF⟩
theorem main_1_2 : Claimed_1_2 := comes_1 fun _ _ _ _ _ _ h hF => ⟨h.2.1, hF⟩
end Jvm.Pilot.@@N@@
namespace Jvm.Pilot.@@N@@
open Jvm Jvm.ClassFile Sem Op Lib Jvm.Free Jvm.Stand Jvm.Pilot.@@N@@.Jvm.D
/-! MADE BY PROGRAM (witnessworld.py) out of the Statement's table words and the real class files: 21 classes; the members and pool entries that the words name. The judged class is class 1, her method 1. -/
namespace start1
open Jvm.ClassFile
def u (s : String) : CpInfo := .utf8 (stringToUtf16 s)
/-- a pool by its gaps: so many unusable entries, then the entry; so many at the end -/
def gap : Nat → List CpInfo → List CpInfo
  | 0, r => r
  | n + 1, r => .unusable :: gap n r
def poolList (es : List (Nat × CpInfo)) (last : Nat) : List CpInfo := es.foldr (fun e r => gap e.1 (e.2 :: r)) (gap last [])
def pool (es : List (Nat × CpInfo)) (last : Nat) : Array CpInfo := ⟨poolList es last⟩
def fileOf (pool : Array CpInfo) (this : Nat) (attrs : Array Attribute := #[]) (ms : Array MethodInfo := #[]) (fl : Nat := 33) (sup : Nat := 0) (ifs : Array Nat := #[]) (fds : Array FieldInfo := #[]) : ClassFile where
  minorVersion := 0
  majorVersion := 65
  constantPool := pool
  accessFlags := fl
  thisClass := this
  superClass := sup
  interfaces := ifs
  fields := fds
  methods := ms
  attributes := attrs
def plain (name : String) (sup : Option ClassId) : Class where
  name := name
  kind := .ordinary
  loader := none
  accessFlags := 33
  super := sup
  interfaces := #[]
  cf := none
  fields := #[]
  methods := #[]
  instanceTypes := #[]
  staticTypes := #[]
  resolved := #[]
  callSites := []
  init := .initialized
  statics := none
  mirror := none

def pool0 : Array CpInfo := pool [(5, u "<init>"), (0, u "()V"), (1, .class_ 10), (1, u "java/lang/Object")] 113

def k0c0 : Code := { maxStack := 0, maxLocals := 1, code := object_method_1_code, exceptionTable := #[], attributes := #[] }
def k0m0 : Method := { name := "<init>", desc := "()V", sig := { parameters := [], returnType := none }, accessFlags := 1, code := some k0c0 }
/-- java/lang/Object -/
def k0 : Class := { plain "java/lang/Object" none with
  accessFlags := 33
  interfaces := #[]
  cf := some (fileOf pool0 8 #[] #[{ accessFlags := 1, nameIndex := 5, descriptorIndex := 6, attributes := #[] }] 33 0 #[] #[])
  fields := #[]
  methods := #[k0m0]
  instanceTypes := #[]
  staticTypes := #[]
  resolved := Array.replicate 124 none
  statics := none }

def pool1 : Array CpInfo := pool [(2, .class_ 4), (1, u "java/lang/Object"), (0, u "<init>"), (0, u "()V"), (0, .integer 2147483647), (0, .fieldref 9 10), (0, .class_ 11), (0, .nameAndType 12 13), (0, u "com/example/izin/izin/Attribute"), (0, u "KICK"), (0, u "Lcom/example/izin/izin/Attribute;"), (0, .fieldref 9 15), (0, .nameAndType 16 13), (0, u "BAN"), (0, .fieldref 9 18), (0, .nameAndType 19 13), (0, u "REDACT"), (0, .fieldref 9 21), (0, .nameAndType 22 13), (0, u "INVITE"), (0, .fieldref 9 24), (0, .nameAndType 25 13), (0, u "ASSIGN"), (0, .fieldref 9 27), (0, .nameAndType 28 13), (0, u "STATE"), (0, .fieldref 9 30), (0, .nameAndType 31 13), (0, u "EVENTS"), (0, .methodref 33 34), (0, .class_ 35), (0, .nameAndType 36 37), (0, u "com/example/izin/izin/AttributeDefaultFlagPinLaw"), (0, u "ch"), (0, u "(JI)C"), (0, .methodref 33 39), (0, .nameAndType 40 41), (0, u "take"), (0, u "([CI)Ljava/lang/String;"), (0, .methodref 43 44), (0, .class_ 45), (0, .nameAndType 46 47), (0, u "java/lang/String"), (0, u "length"), (0, u "()I"), (0, .methodref 43 49), (0, .nameAndType 50 51), (0, u "charAt"), (0, u "(I)C"), (0, .methodref 9 53), (0, .nameAndType 54 55), (0, u "defaultFlag"), (0, u "(Ljava/lang/String;)Z"), (0, .long 255), (1, .methodref 43 59), (0, .nameAndType 5 60), (0, u "([C)V"), (2, u "law"), (0, u "(IIJI)Z")] 5

def k1m0 : Method := { name := "<init>", desc := "()V", sig := { parameters := [], returnType := none }, accessFlags := 1, code := none }
def k1c1 : Code := { maxStack := 5, maxLocals := 13, code := code, exceptionTable := #[], attributes := #[] }
def k1m1 : Method := { name := "law", desc := "(IIJI)Z", sig := { parameters := [.int, .int, .long, .int], returnType := some .boolean }, accessFlags := 9, code := some k1c1 }
def k1c2 : Code := { maxStack := 4, maxLocals := 3, code := method_3_code, exceptionTable := #[], attributes := #[] }
def k1m2 : Method := { name := "ch", desc := "(JI)C", sig := { parameters := [.long, .int], returnType := some .char }, accessFlags := 10, code := some k1c2 }
def k1c3 : Code := { maxStack := 7, maxLocals := 2, code := method_4_code, exceptionTable := #[], attributes := #[] }
def k1m3 : Method := { name := "take", desc := "([CI)Ljava/lang/String;", sig := { parameters := [(.array .char), .int], returnType := some (.object "java/lang/String") }, accessFlags := 10, code := some k1c3 }
/-- com/example/izin/izin/AttributeDefaultFlagPinLaw -/
def k1 : Class := { plain "com/example/izin/izin/AttributeDefaultFlagPinLaw" (some 0) with
  accessFlags := 49
  interfaces := #[]
  cf := some (fileOf pool1 33 #[] #[{ accessFlags := 1, nameIndex := 5, descriptorIndex := 6, attributes := #[] }, { accessFlags := 9, nameIndex := 63, descriptorIndex := 64, attributes := #[] }, { accessFlags := 10, nameIndex := 36, descriptorIndex := 37, attributes := #[] }, { accessFlags := 10, nameIndex := 40, descriptorIndex := 41, attributes := #[] }] 49 2 #[] #[])
  fields := #[]
  methods := #[k1m0, k1m1, k1m2, k1m3]
  instanceTypes := #[]
  staticTypes := #[]
  resolved := Array.replicate 70 none
  statics := none }

def pool2 : Array CpInfo := pool [(1, .class_ 2), (0, u "java/lang/constant/Constable"), (0, .class_ 4), (0, u "java/lang/Object")] 6

/-- java/lang/constant/Constable -/
def k2 : Class := { plain "java/lang/constant/Constable" (some 0) with
  accessFlags := 1537
  interfaces := #[]
  cf := some (fileOf pool2 1 #[] #[] 1537 3 #[] #[])
  fields := #[]
  methods := #[]
  instanceTypes := #[]
  staticTypes := #[]
  resolved := Array.replicate 11 none
  statics := none }

def pool3 : Array CpInfo := pool [(1, .class_ 2), (0, u "java/lang/Comparable"), (0, .class_ 4), (0, u "java/lang/Object")] 7

/-- java/lang/Comparable -/
def k3 : Class := { plain "java/lang/Comparable" (some 0) with
  accessFlags := 1537
  interfaces := #[]
  cf := some (fileOf pool3 1 #[] #[] 1537 3 #[] #[])
  fields := #[]
  methods := #[]
  instanceTypes := #[]
  staticTypes := #[]
  resolved := Array.replicate 12 none
  statics := none }

def pool4 : Array CpInfo := pool [(1, .class_ 2), (0, u "java/io/Serializable"), (0, .class_ 4), (0, u "java/lang/Object")] 2

/-- java/io/Serializable -/
def k4 : Class := { plain "java/io/Serializable" (some 0) with
  accessFlags := 1537
  interfaces := #[]
  cf := some (fileOf pool4 1 #[] #[] 1537 3 #[] #[])
  fields := #[]
  methods := #[]
  instanceTypes := #[]
  staticTypes := #[]
  resolved := Array.replicate 7 none
  statics := none }

def pool5 : Array CpInfo := pool [(2, .class_ 4), (1, u "java/lang/Enum"), (0, u "name"), (0, u "Ljava/lang/String;"), (2, u "ordinal"), (0, u "I"), (1, .class_ 14), (1, u "java/lang/Object"), (4, u "hash"), (86, .class_ 108), (1, u "java/lang/Enum$EnumDesc"), (2, .class_ 112), (0, u "java/lang/constant/Constable"), (0, .class_ 114), (0, u "java/lang/Comparable"), (0, .class_ 116), (0, u "java/io/Serializable")] 87

/-- java/lang/Enum -/
def k5 : Class := { plain "java/lang/Enum" (some 0) with
  accessFlags := 1057
  interfaces := #[2, 3, 4]
  cf := some (fileOf pool5 2 #[.nestMembers #[106]] #[] 1057 12 #[111, 113, 115] #[{ accessFlags := 18, nameIndex := 5, descriptorIndex := 6, attributes := #[] }, { accessFlags := 18, nameIndex := 9, descriptorIndex := 10, attributes := #[] }, { accessFlags := 2, nameIndex := 19, descriptorIndex := 10, attributes := #[] }])
  fields := #[{ name := "name", type := (.object "java/lang/String"), accessFlags := 18, slot := 0, constantValue := 0 }, { name := "ordinal", type := .int, accessFlags := 18, slot := 1, constantValue := 0 }, { name := "hash", type := .int, accessFlags := 2, slot := 2, constantValue := 0 }]
  methods := #[]
  instanceTypes := #[(.object "java/lang/String"), .int, .int]
  staticTypes := #[]
  resolved := Array.replicate 204 none
  statics := none }

def pool6 : Array CpInfo := pool [(1, .class_ 2), (0, u "com/example/izin/izin/Attribute"), (2, u "KICK"), (0, u "Lcom/example/izin/izin/Attribute;"), (2, u "BAN"), (2, u "REDACT"), (0, .fieldref 1 14), (0, .nameAndType 15 6), (0, u "INVITE"), (2, u "ASSIGN"), (2, u "STATE"), (2, u "EVENTS"), (2, u "$VALUES"), (0, u "[Lcom/example/izin/izin/Attribute;"), (6, .class_ 37), (1, u "java/lang/Enum"), (8, u "field"), (0, u "Ljava/lang/String;"), (2, u "value"), (0, u "Lcom/example/izin/izin/Attribute$Value;"), (2, u "operand"), (0, u "Lcom/example/izin/izin/Attribute$Operand;"), (2, u "BY_FIELD"), (0, u "Ljava/util/Map;"), (13, .class_ 75), (1, u "com/example/izin/izin/Attribute$Value"), (2, .class_ 80), (1, u "com/example/izin/izin/Attribute$Operand"), (7, .string 89), (0, u "public"), (0, .methodref 91 92), (0, .class_ 93), (0, .nameAndType 94 95), (0, u "java/lang/String"), (0, u "equals"), (0, u "(Ljava/lang/Object;)Z"), (64, u "ANY_EVENT"), (1, u "PUBLIC"), (15, u "defaultFlag"), (0, u "(Ljava/lang/String;)Z")] 13

def k6c0 : Code := { maxStack := 2, maxLocals := 2, code := prog_2_method_10_code, exceptionTable := #[], attributes := #[] }
def k6m0 : Method := { name := "defaultFlag", desc := "(Ljava/lang/String;)Z", sig := { parameters := [(.object "java/lang/String")], returnType := some .boolean }, accessFlags := 0, code := some k6c0 }
/-- com/example/izin/izin/Attribute -/
def k6 : Class := { plain "com/example/izin/izin/Attribute" (some 5) with
  accessFlags := 16432
  interfaces := #[]
  cf := some (fileOf pool6 1 #[.nestMembers #[78, 73]] #[{ accessFlags := 0, nameIndex := 178, descriptorIndex := 179, attributes := #[] }] 16432 35 #[] #[{ accessFlags := 16409, nameIndex := 5, descriptorIndex := 6, attributes := #[] }, { accessFlags := 16409, nameIndex := 9, descriptorIndex := 6, attributes := #[] }, { accessFlags := 16409, nameIndex := 12, descriptorIndex := 6, attributes := #[] }, { accessFlags := 16409, nameIndex := 15, descriptorIndex := 6, attributes := #[] }, { accessFlags := 16409, nameIndex := 18, descriptorIndex := 6, attributes := #[] }, { accessFlags := 16409, nameIndex := 21, descriptorIndex := 6, attributes := #[] }, { accessFlags := 16409, nameIndex := 24, descriptorIndex := 6, attributes := #[] }, { accessFlags := 26, nameIndex := 160, descriptorIndex := 47, attributes := #[] }, { accessFlags := 26, nameIndex := 162, descriptorIndex := 47, attributes := #[] }, { accessFlags := 26, nameIndex := 58, descriptorIndex := 59, attributes := #[] }, { accessFlags := 18, nameIndex := 46, descriptorIndex := 47, attributes := #[] }, { accessFlags := 18, nameIndex := 50, descriptorIndex := 51, attributes := #[] }, { accessFlags := 18, nameIndex := 54, descriptorIndex := 55, attributes := #[] }, { accessFlags := 4122, nameIndex := 27, descriptorIndex := 28, attributes := #[] }])
  fields := #[{ name := "KICK", type := (.object "com/example/izin/izin/Attribute"), accessFlags := 16409, slot := 0, constantValue := 0 }, { name := "BAN", type := (.object "com/example/izin/izin/Attribute"), accessFlags := 16409, slot := 1, constantValue := 0 }, { name := "REDACT", type := (.object "com/example/izin/izin/Attribute"), accessFlags := 16409, slot := 2, constantValue := 0 }, { name := "INVITE", type := (.object "com/example/izin/izin/Attribute"), accessFlags := 16409, slot := 3, constantValue := 0 }, { name := "ASSIGN", type := (.object "com/example/izin/izin/Attribute"), accessFlags := 16409, slot := 4, constantValue := 0 }, { name := "STATE", type := (.object "com/example/izin/izin/Attribute"), accessFlags := 16409, slot := 5, constantValue := 0 }, { name := "EVENTS", type := (.object "com/example/izin/izin/Attribute"), accessFlags := 16409, slot := 6, constantValue := 0 }, { name := "ANY_EVENT", type := (.object "java/lang/String"), accessFlags := 26, slot := 7, constantValue := 0 }, { name := "PUBLIC", type := (.object "java/lang/String"), accessFlags := 26, slot := 8, constantValue := 0 }, { name := "BY_FIELD", type := (.object "java/util/Map"), accessFlags := 26, slot := 9, constantValue := 0 }, { name := "field", type := (.object "java/lang/String"), accessFlags := 18, slot := 3, constantValue := 0 }, { name := "value", type := (.object "com/example/izin/izin/Attribute$Value"), accessFlags := 18, slot := 4, constantValue := 0 }, { name := "operand", type := (.object "com/example/izin/izin/Attribute$Operand"), accessFlags := 18, slot := 5, constantValue := 0 }, { name := "$VALUES", type := (.array (.object "com/example/izin/izin/Attribute")), accessFlags := 4122, slot := 10, constantValue := 0 }]
  methods := #[k6m0]
  instanceTypes := #[(.object "java/lang/String"), .int, .int, (.object "java/lang/String"), (.object "com/example/izin/izin/Attribute$Value"), (.object "com/example/izin/izin/Attribute$Operand")]
  staticTypes := #[(.object "com/example/izin/izin/Attribute"), (.object "com/example/izin/izin/Attribute"), (.object "com/example/izin/izin/Attribute"), (.object "com/example/izin/izin/Attribute"), (.object "com/example/izin/izin/Attribute"), (.object "com/example/izin/izin/Attribute"), (.object "com/example/izin/izin/Attribute"), (.object "java/lang/String"), (.object "java/lang/String"), (.object "java/util/Map"), (.array (.object "com/example/izin/izin/Attribute"))]
  resolved := Array.replicate 193 none
  statics := some 0 }

def pool7 : Array CpInfo := pool [(2, .class_ 4), (1, u "java/lang/CharSequence"), (42, .class_ 48), (0, u "java/lang/CharSequence$1CodePointIterator"), (10, .class_ 60), (0, u "java/lang/CharSequence$1CharIterator"), (5, .class_ 67), (0, u "java/lang/Object")] 63

/-- java/lang/CharSequence -/
def k7 : Class := { plain "java/lang/CharSequence" (some 0) with
  accessFlags := 1537
  interfaces := #[]
  cf := some (fileOf pool7 2 #[.nestMembers #[47, 59]] #[] 1537 66 #[] #[])
  fields := #[]
  methods := #[]
  instanceTypes := #[]
  staticTypes := #[]
  resolved := Array.replicate 131 none
  statics := none }

def pool8 : Array CpInfo := pool [(1, .class_ 2), (0, u "java/lang/constant/ConstantDesc"), (0, .class_ 4), (0, u "java/lang/Object")] 32

/-- java/lang/constant/ConstantDesc -/
def k8 : Class := { plain "java/lang/constant/ConstantDesc" (some 0) with
  accessFlags := 1537
  interfaces := #[]
  cf := some (fileOf pool8 1 #[] #[] 1537 3 #[] #[])
  fields := #[]
  methods := #[]
  instanceTypes := #[]
  staticTypes := #[]
  resolved := Array.replicate 37 none
  statics := none }

def pool9 : Array CpInfo := pool [(1, .methodref 2 3), (0, .class_ 4), (0, .nameAndType 5 6), (0, u "java/lang/Object"), (0, u "<init>"), (0, u "()V"), (0, .string 8), (0, u ""), (0, .fieldref 10 11), (0, .class_ 12), (0, .nameAndType 13 14), (0, u "java/lang/String"), (0, u "value"), (0, u "[B"), (0, .fieldref 10 16), (0, .nameAndType 17 18), (0, u "coder"), (0, u "B"), (2, u "hash"), (0, u "I"), (2, u "hashIsZero"), (0, u "Z"), (0, .methodref 10 28), (0, .nameAndType 5 29), (0, u "([CIILjava/lang/Void;)V"), (8, .fieldref 10 39), (0, .nameAndType 40 26), (0, u "COMPACT_STRINGS"), (1, .class_ 44), (1, u "java/lang/StringUTF16"), (0, u "compress"), (1, .methodref 42 48), (0, .nameAndType 49 50), (0, u "coderFromArrayLen"), (0, u "([BI)B"), (56, .class_ 109), (1, u "java/lang/StringLatin1"), (32, u "()Z"), (34, .methodref 42 178), (0, .nameAndType 45 179), (0, u "([CII)[B"), (154, u "()I"), (0, .methodref 10 336), (0, .nameAndType 17 337), (0, u "()B"), (25, u "([BI)C"), (27, u "(II)V"), (35, u "(I)C"), (64, .methodref 10 493), (0, .nameAndType 494 142), (0, u "isLatin1"), (0, .methodref 107 496), (0, .nameAndType 497 363), (0, u "charAt"), (3, u "checkIndex"), (5, u "length"), (33, .methodref 107 542), (0, .nameAndType 543 544), (0, u "equals"), (0, u "([B[B)Z"), (28, u "(Ljava/lang/Object;)Z"), (1, .class_ 576), (0, u "java/lang/CharSequence"), (22, u "CASE_INSENSITIVE_ORDER"), (0, u "Ljava/util/Comparator;"), (409, u "([C)V"), (42, .fieldref 1054 1055), (0, .class_ 1056), (0, .nameAndType 1057 1058), (0, u "jdk/internal/util/Preconditions"), (0, u "SIOOBE_FORMATTER"), (0, u "Ljava/util/function/BiFunction;"), (0, .methodref 1054 1060), (0, .nameAndType 501 1061), (0, u "(IILjava/util/function/BiFunction;)I"), (39, u "serialPersistentFields"), (0, u "[Ljava/io/ObjectStreamField;"), (0, .class_ 1104), (0, u "java/lang/String$CaseInsensitiveComparator"), (1, .class_ 1107), (0, u "java/io/Serializable"), (0, .class_ 1109), (0, u "java/lang/Comparable"), (0, .class_ 1111), (0, u "java/lang/constant/Constable"), (0, .class_ 1113), (0, u "java/lang/constant/ConstantDesc"), (2, u "serialVersionUID"), (0, u "J"), (3, u "REPL"), (0, u "C"), (2, u "LATIN1"), (1, u "UTF16")] 323

def k9m0 : Method := { name := "<init>", desc := "()V", sig := { parameters := [], returnType := none }, accessFlags := 1, code := none }
def k9c1 : Code := { maxStack := 5, maxLocals := 2, code := jdk_42_method_3_code, exceptionTable := #[], attributes := #[] }
def k9m1 : Method := { name := "<init>", desc := "([C)V", sig := { parameters := [(.array .char)], returnType := none }, accessFlags := 1, code := some k9c1 }
def k9c2 : Code := { maxStack := 2, maxLocals := 1, code := jdk_42_method_54_code, exceptionTable := #[], attributes := #[] }
def k9m2 : Method := { name := "length", desc := "()I", sig := { parameters := [], returnType := some .int }, accessFlags := 1, code := some k9c2 }
def k9c3 : Code := { maxStack := 2, maxLocals := 2, code := jdk_42_method_56_code, exceptionTable := #[], attributes := #[] }
def k9m3 : Method := { name := "charAt", desc := "(I)C", sig := { parameters := [.int], returnType := some .char }, accessFlags := 1, code := some k9c3 }
def k9c4 : Code := { maxStack := 2, maxLocals := 3, code := jdk_42_method_66_code, exceptionTable := #[], attributes := #[] }
def k9m4 : Method := { name := "equals", desc := "(Ljava/lang/Object;)Z", sig := { parameters := [(.object "java/lang/Object")], returnType := some .boolean }, accessFlags := 1, code := some k9c4 }
def k9c5 : Code := { maxStack := 4, maxLocals := 6, code := jdk_42_method_149_code, exceptionTable := #[], attributes := #[] }
def k9m5 : Method := { name := "<init>", desc := "([CIILjava/lang/Void;)V", sig := { parameters := [(.array .char), .int, .int, (.object "java/lang/Void")], returnType := none }, accessFlags := 2, code := some k9c5 }
def k9c6 : Code := { maxStack := 1, maxLocals := 1, code := jdk_42_method_152_code, exceptionTable := #[], attributes := #[] }
def k9m6 : Method := { name := "coder", desc := "()B", sig := { parameters := [], returnType := some .byte }, accessFlags := 0, code := some k9c6 }
def k9c7 : Code := { maxStack := 1, maxLocals := 1, code := jdk_42_method_154_code, exceptionTable := #[], attributes := #[] }
def k9m7 : Method := { name := "isLatin1", desc := "()Z", sig := { parameters := [], returnType := some .boolean }, accessFlags := 0, code := some k9c7 }
def k9c8 : Code := { maxStack := 3, maxLocals := 2, code := jdk_42_method_155_code, exceptionTable := #[], attributes := #[] }
def k9m8 : Method := { name := "checkIndex", desc := "(II)V", sig := { parameters := [.int, .int], returnType := none }, accessFlags := 8, code := some k9c8 }
/-- java/lang/String -/
def k9 : Class := { plain "java/lang/String" (some 0) with
  accessFlags := 49
  interfaces := #[4, 3, 7, 2, 8]
  cf := some (fileOf pool9 10 #[.nestMembers #[1103]] #[{ accessFlags := 1, nameIndex := 5, descriptorIndex := 6, attributes := #[] }, { accessFlags := 1, nameIndex := 5, descriptorIndex := 1010, attributes := #[] }, { accessFlags := 1, nameIndex := 507, descriptorIndex := 334, attributes := #[] }, { accessFlags := 1, nameIndex := 497, descriptorIndex := 427, attributes := #[] }, { accessFlags := 1, nameIndex := 543, descriptorIndex := 573, attributes := #[] }, { accessFlags := 2, nameIndex := 5, descriptorIndex := 29, attributes := #[] }, { accessFlags := 0, nameIndex := 17, descriptorIndex := 337, attributes := #[] }, { accessFlags := 0, nameIndex := 494, descriptorIndex := 142, attributes := #[] }, { accessFlags := 8, nameIndex := 501, descriptorIndex := 391, attributes := #[] }] 49 2 #[1106, 1108, 575, 1110, 1112] #[{ accessFlags := 18, nameIndex := 13, descriptorIndex := 14, attributes := #[] }, { accessFlags := 18, nameIndex := 17, descriptorIndex := 18, attributes := #[] }, { accessFlags := 2, nameIndex := 21, descriptorIndex := 22, attributes := #[] }, { accessFlags := 2, nameIndex := 25, descriptorIndex := 26, attributes := #[] }, { accessFlags := 26, nameIndex := 1116, descriptorIndex := 1117, attributes := #[] }, { accessFlags := 24, nameIndex := 40, descriptorIndex := 26, attributes := #[] }, { accessFlags := 26, nameIndex := 1101, descriptorIndex := 1102, attributes := #[] }, { accessFlags := 26, nameIndex := 1121, descriptorIndex := 1122, attributes := #[] }, { accessFlags := 25, nameIndex := 599, descriptorIndex := 600, attributes := #[] }, { accessFlags := 24, nameIndex := 1125, descriptorIndex := 18, attributes := #[] }, { accessFlags := 24, nameIndex := 1127, descriptorIndex := 18, attributes := #[] }])
  fields := #[{ name := "value", type := (.array .byte), accessFlags := 18, slot := 0, constantValue := 0 }, { name := "coder", type := .byte, accessFlags := 18, slot := 1, constantValue := 0 }, { name := "hash", type := .int, accessFlags := 2, slot := 2, constantValue := 0 }, { name := "hashIsZero", type := .boolean, accessFlags := 2, slot := 3, constantValue := 0 }, { name := "serialVersionUID", type := .long, accessFlags := 26, slot := 0, constantValue := 0 }, { name := "COMPACT_STRINGS", type := .boolean, accessFlags := 24, slot := 1, constantValue := 0 }, { name := "serialPersistentFields", type := (.array (.object "java/io/ObjectStreamField")), accessFlags := 26, slot := 2, constantValue := 0 }, { name := "REPL", type := .char, accessFlags := 26, slot := 3, constantValue := 0 }, { name := "CASE_INSENSITIVE_ORDER", type := (.object "java/util/Comparator"), accessFlags := 25, slot := 4, constantValue := 0 }, { name := "LATIN1", type := .byte, accessFlags := 24, slot := 5, constantValue := 0 }, { name := "UTF16", type := .byte, accessFlags := 24, slot := 6, constantValue := 0 }]
  methods := #[k9m0, k9m1, k9m2, k9m3, k9m4, k9m5, k9m6, k9m7, k9m8]
  instanceTypes := #[(.array .byte), .byte, .int, .boolean]
  staticTypes := #[.long, .boolean, (.array (.object "java/io/ObjectStreamField")), .char, (.object "java/util/Comparator"), .byte, .byte]
  resolved := Array.replicate 1451 none
  statics := some 1 }

def pool10 : Array CpInfo := pool [(6, .class_ 8), (1, u "java/lang/Object"), (0, u "<init>"), (0, u "()V"), (1, .class_ 14), (1, u "java/lang/StringUTF16"), (31, u "$assertionsDisabled"), (0, u "Z"), (13, u "HI_BYTE_SHIFT"), (0, u "I"), (2, u "LO_BYTE_SHIFT"), (49, .methodref 12 116), (0, .nameAndType 117 118), (0, u "compress"), (0, u "([CI[BII)I"), (3, u "([CII)[B"), (138, u "coderFromArrayLen"), (0, u "([BI)B"), (106, .class_ 371), (1, u "java/lang/StringUTF16$LinesSpliterator"), (58, u "MAX_LENGTH"), (196, .class_ 628), (0, u "java/lang/StringUTF16$CodePointsSpliterator"), (0, .class_ 630), (0, u "java/lang/StringUTF16$CharsSpliterator")] 4

def k10m0 : Method := { name := "<init>", desc := "()V", sig := { parameters := [], returnType := none }, accessFlags := 0, code := none }
def k10c1 : Code := { maxStack := 2, maxLocals := 2, code := jdk_52_method_15_code, exceptionTable := #[], attributes := #[] }
def k10m1 : Method := { name := "coderFromArrayLen", desc := "([BI)B", sig := { parameters := [(.array .byte), .int], returnType := some .byte }, accessFlags := 8, code := some k10c1 }
def k10c2 : Code := { maxStack := 5, maxLocals := 6, code := jdk_52_method_16_code, exceptionTable := #[], attributes := #[] }
def k10m2 : Method := { name := "compress", desc := "([CII)[B", sig := { parameters := [(.array .char), .int, .int], returnType := some (.array .byte) }, accessFlags := 9, code := some k10c2 }
def k10c3 : Code := { maxStack := 3, maxLocals := 7, code := jdk_52_method_21_code, exceptionTable := #[], attributes := #[] }
def k10m3 : Method := { name := "compress", desc := "([CI[BII)I", sig := { parameters := [(.array .char), .int, (.array .byte), .int, .int], returnType := some .int }, accessFlags := 9, code := some k10c3 }
/-- java/lang/StringUTF16 -/
def k10 : Class := { plain "java/lang/StringUTF16" (some 0) with
  accessFlags := 48
  interfaces := #[]
  cf := some (fileOf pool10 12 #[.nestMembers #[627, 629, 369]] #[{ accessFlags := 0, nameIndex := 9, descriptorIndex := 10, attributes := #[] }, { accessFlags := 8, nameIndex := 261, descriptorIndex := 262, attributes := #[] }, { accessFlags := 9, nameIndex := 117, descriptorIndex := 122, attributes := #[] }, { accessFlags := 9, nameIndex := 117, descriptorIndex := 118, attributes := #[] }] 48 6 #[] #[{ accessFlags := 26, nameIndex := 61, descriptorIndex := 62, attributes := #[] }, { accessFlags := 26, nameIndex := 65, descriptorIndex := 62, attributes := #[] }, { accessFlags := 24, nameIndex := 430, descriptorIndex := 62, attributes := #[] }, { accessFlags := 4120, nameIndex := 46, descriptorIndex := 47, attributes := #[] }])
  fields := #[{ name := "HI_BYTE_SHIFT", type := .int, accessFlags := 26, slot := 0, constantValue := 0 }, { name := "LO_BYTE_SHIFT", type := .int, accessFlags := 26, slot := 1, constantValue := 0 }, { name := "MAX_LENGTH", type := .int, accessFlags := 24, slot := 2, constantValue := 0 }, { name := "$assertionsDisabled", type := .boolean, accessFlags := 4120, slot := 3, constantValue := 0 }]
  methods := #[k10m0, k10m1, k10m2, k10m3]
  instanceTypes := #[]
  staticTypes := #[.int, .int, .int, .boolean]
  resolved := Array.replicate 635 none
  statics := none }

def pool11 : Array CpInfo := pool [(1, .class_ 2), (0, u "java/lang/String"), (1, .class_ 6), (1, u "java/lang/Object"), (0, u "<init>"), (0, u "()V"), (0, .methodref 1 10), (0, .nameAndType 11 12), (0, u "checkIndex"), (0, u "(II)V"), (1, .class_ 16), (1, u "java/lang/StringLatin1"), (36, u "([BI)C"), (67, u "$assertionsDisabled"), (0, u "Z"), (98, .class_ 223), (1, u "java/lang/StringLatin1$LinesSpliterator"), (28, u "charAt"), (28, u "equals"), (0, u "([B[B)Z"), (107, .class_ 391), (0, u "java/lang/StringLatin1$CharsSpliterator")] 3

def k11m0 : Method := { name := "<init>", desc := "()V", sig := { parameters := [], returnType := none }, accessFlags := 0, code := none }
def k11c1 : Code := { maxStack := 2, maxLocals := 2, code := jdk_43_method_2_code, exceptionTable := #[], attributes := #[] }
def k11m1 : Method := { name := "charAt", desc := "([BI)C", sig := { parameters := [(.array .byte), .int], returnType := some .char }, accessFlags := 9, code := some k11c1 }
def k11c2 : Code := { maxStack := 3, maxLocals := 3, code := jdk_43_method_13_code, exceptionTable := #[], attributes := #[] }
def k11m2 : Method := { name := "equals", desc := "([B[B)Z", sig := { parameters := [(.array .byte), (.array .byte)], returnType := some .boolean }, accessFlags := 9, code := some k11c2 }
/-- java/lang/StringLatin1 -/
def k11 : Class := { plain "java/lang/StringLatin1" (some 0) with
  accessFlags := 48
  interfaces := #[]
  cf := some (fileOf pool11 14 #[.nestMembers #[390, 221]] #[{ accessFlags := 0, nameIndex := 7, descriptorIndex := 8, attributes := #[] }, { accessFlags := 9, nameIndex := 252, descriptorIndex := 53, attributes := #[] }, { accessFlags := 9, nameIndex := 281, descriptorIndex := 282, attributes := #[] }] 48 4 #[] #[{ accessFlags := 4120, nameIndex := 121, descriptorIndex := 122, attributes := #[] }])
  fields := #[{ name := "$assertionsDisabled", type := .boolean, accessFlags := 4120, slot := 0, constantValue := 0 }]
  methods := #[k11m0, k11m1, k11m2]
  instanceTypes := #[]
  staticTypes := #[.boolean]
  resolved := Array.replicate 395 none
  statics := none }

def pool12 : Array CpInfo := pool [(2, .class_ 4), (1, u "java/lang/Object"), (0, u "<init>"), (0, u "()V"), (17, .class_ 26), (1, u "jdk/internal/util/Preconditions"), (6, u "checkIndex"), (21, .class_ 56), (0, u "jdk/internal/util/Preconditions$4"), (57, .class_ 115), (0, u "jdk/internal/util/Preconditions$1"), (7, u "SIOOBE_FORMATTER"), (0, u "Ljava/util/function/BiFunction;"), (0, .class_ 126), (0, u "jdk/internal/util/Preconditions$2"), (3, u "AIOOBE_FORMATTER"), (0, .class_ 132), (0, u "jdk/internal/util/Preconditions$3"), (3, u "IOOBE_FORMATTER"), (41, u "(IILjava/util/function/BiFunction;)I")] 15

def k12m0 : Method := { name := "<init>", desc := "()V", sig := { parameters := [], returnType := none }, accessFlags := 1, code := none }
def k12c1 : Code := { maxStack := 3, maxLocals := 3, code := jdk_41_method_11_code, exceptionTable := #[], attributes := #[] }
def k12m1 : Method := { name := "checkIndex", desc := "(IILjava/util/function/BiFunction;)I", sig := { parameters := [.int, .int, (.object "java/util/function/BiFunction")], returnType := some .int }, accessFlags := 9, code := some k12c1 }
/-- jdk/internal/util/Preconditions -/
def k12 : Class := { plain "jdk/internal/util/Preconditions" (some 0) with
  accessFlags := 33
  interfaces := #[]
  cf := some (fileOf pool12 24 #[.nestMembers #[55, 131, 125, 114]] #[{ accessFlags := 1, nameIndex := 5, descriptorIndex := 6, attributes := #[] }, { accessFlags := 9, nameIndex := 33, descriptorIndex := 178, attributes := #[] }] 33 2 #[] #[{ accessFlags := 25, nameIndex := 123, descriptorIndex := 124, attributes := #[] }, { accessFlags := 25, nameIndex := 130, descriptorIndex := 124, attributes := #[] }, { accessFlags := 25, nameIndex := 136, descriptorIndex := 124, attributes := #[] }])
  fields := #[{ name := "SIOOBE_FORMATTER", type := (.object "java/util/function/BiFunction"), accessFlags := 25, slot := 0, constantValue := 0 }, { name := "AIOOBE_FORMATTER", type := (.object "java/util/function/BiFunction"), accessFlags := 25, slot := 1, constantValue := 0 }, { name := "IOOBE_FORMATTER", type := (.object "java/util/function/BiFunction"), accessFlags := 25, slot := 2, constantValue := 0 }]
  methods := #[k12m0, k12m1]
  instanceTypes := #[]
  staticTypes := #[(.object "java/util/function/BiFunction"), (.object "java/util/function/BiFunction"), (.object "java/util/function/BiFunction")]
  resolved := Array.replicate 194 none
  statics := some 2 }

def pool13 : Array CpInfo := pool [(9, u "<init>"), (6, .class_ 18), (1, u "java/lang/Object"), (0, u "()V"), (1, .class_ 23), (1, u "jdk/internal/util/ArraysSupport"), (0, u "LOG2_ARRAY_LONG_INDEX_SCALE"), (0, u "I"), (2, u "U"), (0, u "Ljdk/internal/misc/Unsafe;"), (8, u "BIG_ENDIAN"), (0, u "Z"), (8, u "LOG2_BYTE_BIT_SIZE"), (4, u "LOG2_ARRAY_INT_INDEX_SCALE"), (54, u "JLA"), (0, u "Ljdk/internal/access/JavaLangAccess;"), (11, u "LOG2_ARRAY_BOOLEAN_INDEX_SCALE"), (9, u "LOG2_ARRAY_BYTE_INDEX_SCALE"), (5, u "LOG2_ARRAY_CHAR_INDEX_SCALE"), (5, u "LOG2_ARRAY_SHORT_INDEX_SCALE"), (18, u "LOG2_ARRAY_FLOAT_INDEX_SCALE"), (24, u "LOG2_ARRAY_DOUBLE_INDEX_SCALE"), (89, u "T_BOOLEAN"), (2, u "T_CHAR"), (1, u "T_FLOAT"), (1, u "T_DOUBLE"), (1, u "T_BYTE"), (1, u "T_SHORT"), (1, u "T_INT"), (1, u "T_LONG"), (1, u "SOFT_MAX_ARRAY_LENGTH")] 83

def k13m0 : Method := { name := "<init>", desc := "()V", sig := { parameters := [], returnType := none }, accessFlags := 2, code := none }
/-- jdk/internal/util/ArraysSupport -/
def k13 : Class := { plain "jdk/internal/util/ArraysSupport" (some 0) with
  accessFlags := 33
  interfaces := #[]
  cf := some (fileOf pool13 21 #[] #[{ accessFlags := 2, nameIndex := 9, descriptorIndex := 19, attributes := #[] }] 33 16 #[] #[{ accessFlags := 24, nameIndex := 28, descriptorIndex := 29, attributes := #[] }, { accessFlags := 26, nameIndex := 38, descriptorIndex := 39, attributes := #[] }, { accessFlags := 25, nameIndex := 121, descriptorIndex := 25, attributes := #[] }, { accessFlags := 25, nameIndex := 131, descriptorIndex := 25, attributes := #[] }, { accessFlags := 25, nameIndex := 137, descriptorIndex := 25, attributes := #[] }, { accessFlags := 25, nameIndex := 143, descriptorIndex := 25, attributes := #[] }, { accessFlags := 25, nameIndex := 53, descriptorIndex := 25, attributes := #[] }, { accessFlags := 25, nameIndex := 24, descriptorIndex := 25, attributes := #[] }, { accessFlags := 25, nameIndex := 162, descriptorIndex := 25, attributes := #[] }, { accessFlags := 25, nameIndex := 187, descriptorIndex := 25, attributes := #[] }, { accessFlags := 26, nameIndex := 48, descriptorIndex := 25, attributes := #[] }, { accessFlags := 25, nameIndex := 277, descriptorIndex := 25, attributes := #[] }, { accessFlags := 25, nameIndex := 280, descriptorIndex := 25, attributes := #[] }, { accessFlags := 25, nameIndex := 282, descriptorIndex := 25, attributes := #[] }, { accessFlags := 25, nameIndex := 284, descriptorIndex := 25, attributes := #[] }, { accessFlags := 25, nameIndex := 286, descriptorIndex := 25, attributes := #[] }, { accessFlags := 25, nameIndex := 288, descriptorIndex := 25, attributes := #[] }, { accessFlags := 25, nameIndex := 290, descriptorIndex := 25, attributes := #[] }, { accessFlags := 25, nameIndex := 292, descriptorIndex := 25, attributes := #[] }, { accessFlags := 26, nameIndex := 108, descriptorIndex := 109, attributes := #[] }, { accessFlags := 25, nameIndex := 294, descriptorIndex := 25, attributes := #[] }])
  fields := #[{ name := "U", type := (.object "jdk/internal/misc/Unsafe"), accessFlags := 24, slot := 0, constantValue := 0 }, { name := "BIG_ENDIAN", type := .boolean, accessFlags := 26, slot := 1, constantValue := 0 }, { name := "LOG2_ARRAY_BOOLEAN_INDEX_SCALE", type := .int, accessFlags := 25, slot := 2, constantValue := 0 }, { name := "LOG2_ARRAY_BYTE_INDEX_SCALE", type := .int, accessFlags := 25, slot := 3, constantValue := 0 }, { name := "LOG2_ARRAY_CHAR_INDEX_SCALE", type := .int, accessFlags := 25, slot := 4, constantValue := 0 }, { name := "LOG2_ARRAY_SHORT_INDEX_SCALE", type := .int, accessFlags := 25, slot := 5, constantValue := 0 }, { name := "LOG2_ARRAY_INT_INDEX_SCALE", type := .int, accessFlags := 25, slot := 6, constantValue := 0 }, { name := "LOG2_ARRAY_LONG_INDEX_SCALE", type := .int, accessFlags := 25, slot := 7, constantValue := 0 }, { name := "LOG2_ARRAY_FLOAT_INDEX_SCALE", type := .int, accessFlags := 25, slot := 8, constantValue := 0 }, { name := "LOG2_ARRAY_DOUBLE_INDEX_SCALE", type := .int, accessFlags := 25, slot := 9, constantValue := 0 }, { name := "LOG2_BYTE_BIT_SIZE", type := .int, accessFlags := 26, slot := 10, constantValue := 0 }, { name := "T_BOOLEAN", type := .int, accessFlags := 25, slot := 11, constantValue := 0 }, { name := "T_CHAR", type := .int, accessFlags := 25, slot := 12, constantValue := 0 }, { name := "T_FLOAT", type := .int, accessFlags := 25, slot := 13, constantValue := 0 }, { name := "T_DOUBLE", type := .int, accessFlags := 25, slot := 14, constantValue := 0 }, { name := "T_BYTE", type := .int, accessFlags := 25, slot := 15, constantValue := 0 }, { name := "T_SHORT", type := .int, accessFlags := 25, slot := 16, constantValue := 0 }, { name := "T_INT", type := .int, accessFlags := 25, slot := 17, constantValue := 0 }, { name := "T_LONG", type := .int, accessFlags := 25, slot := 18, constantValue := 0 }, { name := "JLA", type := (.object "jdk/internal/access/JavaLangAccess"), accessFlags := 26, slot := 19, constantValue := 0 }, { name := "SOFT_MAX_ARRAY_LENGTH", type := .int, accessFlags := 25, slot := 20, constantValue := 0 }]
  methods := #[k13m0]
  instanceTypes := #[]
  staticTypes := #[(.object "jdk/internal/misc/Unsafe"), .boolean, .int, .int, .int, .int, .int, .int, .int, .int, .int, .int, .int, .int, .int, .int, .int, .int, .int, (.object "jdk/internal/access/JavaLangAccess"), .int]
  resolved := Array.replicate 378 none
  statics := none }

def pool14 : Array CpInfo := pool [(1, u "java/lang/Cloneable"), (0, .class_ 1), (0, u "java/lang/Object"), (0, .class_ 3)] 3

/-- java/lang/Cloneable -/
def k14 : Class := { plain "java/lang/Cloneable" (some 0) with
  accessFlags := 1537
  interfaces := #[]
  cf := some (fileOf pool14 2 #[] #[] 1537 4 #[] #[])
  fields := #[]
  methods := #[]
  instanceTypes := #[]
  staticTypes := #[]
  resolved := Array.replicate 8 none
  statics := none }

/-- the primitive byte -/
def k15 : Class := { plain "byte" none with kind := .primitive 'B', accessFlags := 0x411 }
/-- [B -/
def k16 : Class := { plain "[B" (some 0) with kind := .array 15 .byte, interfaces := #[14, 4], accessFlags := 1041 }

/-- the primitive char -/
def k17 : Class := { plain "char" none with kind := .primitive 'C', accessFlags := 0x411 }
/-- [C -/
def k18 : Class := { plain "[C" (some 0) with kind := .array 17 .char, interfaces := #[14, 4], accessFlags := 1041 }

/-- the primitive int -/
def k19 : Class := { plain "int" none with kind := .primitive 'I', accessFlags := 0x411 }
/-- [I -/
def k20 : Class := { plain "[I" (some 0) with kind := .array 19 .int, interfaces := #[14, 4], accessFlags := 1041 }

def heap : Heap := #[{ cls := 6, slots := #[.ref 3, .ref 4, .ref 5, .ref 6, .ref 7, .ref 8, .ref 9, .null, .null, .null, .null], vm := .statics 6 },
  { cls := 9, slots := #[.long 0, .int 1, .null, .int 0, .null, .int 0, .int 0], vm := .statics 9 },
  { cls := 12, slots := #[.null, .null, .null], vm := .statics 12 },
  { cls := 6, slots := #[.null, .int 0, .int 0, .null, .null, .null], vm := .none },
  { cls := 6, slots := #[.null, .int 1, .int 0, .null, .null, .null], vm := .none },
  { cls := 6, slots := #[.null, .int 2, .int 0, .null, .null, .null], vm := .none },
  { cls := 6, slots := #[.null, .int 3, .int 0, .null, .null, .null], vm := .none },
  { cls := 6, slots := #[.null, .int 4, .int 0, .null, .null, .null], vm := .none },
  { cls := 6, slots := #[.null, .int 5, .int 0, .null, .null, .null], vm := .none },
  { cls := 6, slots := #[.null, .int 6, .int 0, .null, .null, .null], vm := .none }]
def classes : Array Class := #[k0, k1, k2, k3, k4, k5, k6, k7, k8, k9, k10, k11, k12, k13, k14, k15, k16, k17, k18, k19, k20]
def interned : List (Array UInt16 × Addr) := []
def slotsUsed : Nat := 63
def theMethod : MethodId := ⟨1, 1⟩
def args0 : Array Value := #[.int 5, .int 6, .long 7, .int 8]
def aboutOver (below : List Frame) : State where
  vm := { classes := classes, interned := interned.toArray }
  heap := heap
  slotsUsed := slotsUsed
  threads := #[{ frames := .invoking theMethod args0 :: below }]
def below0 : List Frame := [.native { method := ⟨0, 0⟩, args := #[] }]
def about1 : State := aboutOver below0
def p0 : Program := .bare "" "" ""
def e0 : Env := launch0.env 0 0 0
theorem w_frames : about1.frames = Frame.invoking theMethod args0 :: below0 := rfl
set_option maxRecDepth 65536 in
theorem w_args : argsFit about1.vm theMethod args0 = true := by decide +kernel
set_option maxRecDepth 65536 in
theorem w_heap : heapFits about1 = true := by decide +kernel
set_option maxRecDepth 65536 in
theorem w_runnable : about1.curStatus? = some .runnable := by decide +kernel
set_option maxRecDepth 65536 in
theorem w_alone : about1.alone = true := by decide +kernel
set_option maxRecDepth 65536 in
theorem w_named : about1.methodNamed? x = some theMethod := by decide +kernel
set_option maxRecDepth 65536 in
theorem w_hears : about1.hears theMethod below0 = true := by decide +kernel
set_option maxRecDepth 65536 in
theorem w_ripe : about1.ripe theMethod args0 below0 = true := by decide +kernel
theorem w_running : about1.status = .running := rfl
set_option maxRecDepth 65536 in
theorem w_room : about1.hasRoom e0.platform room_1 = true :=
  launch0.hasRoom_least _ room_1 (by decide +kernel) (by decide +kernel) (by decide +kernel) (by decide +kernel) (by decide +kernel) (by decide +kernel)
theorem allAtoms_all (ts : List Jvm.Cond) (a : Array Jvm.Value) (st : Jvm.State) : (allAtoms ts).before a st = ts.all (fun c => c.before a st) := by
  induction ts with
  | nil => rfl
  | cons c t ih =>
    show (Jvm.Cond.and c (allAtoms t)).before a st = _
    rw [Jvm.Cond.before_and, ih, List.all_cons]
def words1 : List Jvm.Cond := Jvm.Cond.code x code maxLocals ret :: tables_1
/-- a 'code' word, met by the world's own term for the bytes: nothing is compared byte by byte -/
theorem code_word {y : MethodName} {bytes : ByteArray} {mx : Nat} {rt : Option FieldType} {a : Array Value} {s : State} {m : MethodId} {meth : Method} {c : Code} (h1 : s.methodNamed? y = some m) (h2 : s.vm.method? m = some meth) (h3 : meth.code = some c) (h4 : c.code = bytes)
    (h5 : (c.maxLocals == mx && c.exceptionTable.isEmpty && decide (c.maxStack ≤ mostOperands) && decide (meth.sig.returnType = rt) && !meth.locks && decide (parseMethodDescriptor y.desc = some meth.sig)) = true) : (Jvm.Cond.code y bytes mx rt).before a s = true := by
  simp only [Bool.and_eq_true, beq_iff_eq, Bool.not_eq_true', decide_eq_true_eq] at h5
  obtain ⟨⟨⟨⟨⟨g1, g2⟩, g3⟩, g4⟩, g5⟩, g6⟩ := h5
  simp [Cond.before, Cond.holds, Cond.value, h1, h2, h3, h4, g1, g2, g3, g4, g5, g6]
def isCode : Jvm.Cond → Bool
  | .code _ _ _ _ => true
  | _ => false
theorem all_split {L : List Jvm.Cond} {P : Jvm.Cond → Bool} (h1 : L.all (fun c => isCode c || P c) = true) (h2 : ∀ c ∈ L.filter isCode, P c = true) : L.all P = true := by
  refine List.all_eq_true.mpr fun c hc => ?_
  have h := List.all_eq_true.mp h1 c hc
  rcases Bool.eq_false_or_eq_true (isCode c) with hi | hi
  · exact h2 c (List.mem_filter.mpr ⟨hc, hi⟩)
  · simpa [hi] using h
set_option maxRecDepth 65536 in
theorem w_c0 : (Jvm.Cond.code x code maxLocals ret).before args0 about1 = true := code_word (m := ⟨1, 1⟩) (meth := k1m1) (c := k1c1) (by decide +kernel) rfl rfl rfl (by decide +kernel)
set_option maxRecDepth 65536 in
theorem w_c1 : (Jvm.Cond.code ({ cls := "com/example/izin/izin/AttributeDefaultFlagPinLaw", name := "ch", desc := "(JI)C" } : Jvm.MethodName) method_3_code (3 : Nat) (Option.some Jvm.ClassFile.FieldType.char)).before args0 about1 = true := code_word (m := ⟨1, 2⟩) (meth := k1m2) (c := k1c2) (by decide +kernel) rfl rfl rfl (by decide +kernel)
set_option maxRecDepth 65536 in
theorem w_c2 : (Jvm.Cond.code ({ cls := "com/example/izin/izin/AttributeDefaultFlagPinLaw", name := "take", desc := "([CI)Ljava/lang/String;" } : Jvm.MethodName) method_4_code (2 : Nat) (Option.some (Jvm.ClassFile.FieldType.object "java/lang/String"))).before args0 about1 = true := code_word (m := ⟨1, 3⟩) (meth := k1m3) (c := k1c3) (by decide +kernel) rfl rfl rfl (by decide +kernel)
set_option maxRecDepth 65536 in
theorem w_c3 : (Jvm.Cond.code ({ cls := "java/lang/String", name := "<init>", desc := "([C)V" } : Jvm.MethodName) jdk_42_method_3_code (2 : Nat) (Option.none : Option Jvm.ClassFile.FieldType)).before args0 about1 = true := code_word (m := ⟨9, 1⟩) (meth := k9m1) (c := k9c1) (by decide +kernel) rfl rfl rfl (by decide +kernel)
set_option maxRecDepth 65536 in
theorem w_c4 : (Jvm.Cond.code ({ cls := "java/lang/String", name := "<init>", desc := "([CIILjava/lang/Void;)V" } : Jvm.MethodName) jdk_42_method_149_code (6 : Nat) (Option.none : Option Jvm.ClassFile.FieldType)).before args0 about1 = true := code_word (m := ⟨9, 5⟩) (meth := k9m5) (c := k9c5) (by decide +kernel) rfl rfl rfl (by decide +kernel)
set_option maxRecDepth 65536 in
theorem w_c5 : (Jvm.Cond.code ({ cls := "java/lang/Object", name := "<init>", desc := "()V" } : Jvm.MethodName) object_method_1_code (1 : Nat) (Option.none : Option Jvm.ClassFile.FieldType)).before args0 about1 = true := code_word (m := ⟨0, 0⟩) (meth := k0m0) (c := k0c0) (by decide +kernel) rfl rfl rfl (by decide +kernel)
set_option maxRecDepth 65536 in
theorem w_c6 : (Jvm.Cond.code ({ cls := "java/lang/String", name := "length", desc := "()I" } : Jvm.MethodName) jdk_42_method_54_code (1 : Nat) (Option.some Jvm.ClassFile.FieldType.int)).before args0 about1 = true := code_word (m := ⟨9, 2⟩) (meth := k9m2) (c := k9c2) (by decide +kernel) rfl rfl rfl (by decide +kernel)
set_option maxRecDepth 65536 in
theorem w_c7 : (Jvm.Cond.code ({ cls := "java/lang/String", name := "coder", desc := "()B" } : Jvm.MethodName) jdk_42_method_152_code (1 : Nat) (Option.some Jvm.ClassFile.FieldType.byte)).before args0 about1 = true := code_word (m := ⟨9, 6⟩) (meth := k9m6) (c := k9c6) (by decide +kernel) rfl rfl rfl (by decide +kernel)
set_option maxRecDepth 65536 in
theorem w_c8 : (Jvm.Cond.code ({ cls := "com/example/izin/izin/Attribute", name := "defaultFlag", desc := "(Ljava/lang/String;)Z" } : Jvm.MethodName) prog_2_method_10_code (2 : Nat) (Option.some Jvm.ClassFile.FieldType.boolean)).before args0 about1 = true := code_word (m := ⟨6, 0⟩) (meth := k6m0) (c := k6c0) (by decide +kernel) rfl rfl rfl (by decide +kernel)
set_option maxRecDepth 65536 in
theorem w_c9 : (Jvm.Cond.code ({ cls := "java/lang/StringUTF16", name := "compress", desc := "([CII)[B" } : Jvm.MethodName) jdk_52_method_16_code (6 : Nat) (Option.some (Jvm.ClassFile.FieldType.array Jvm.ClassFile.FieldType.byte))).before args0 about1 = true := code_word (m := ⟨10, 2⟩) (meth := k10m2) (c := k10c2) (by decide +kernel) rfl rfl rfl (by decide +kernel)
set_option maxRecDepth 65536 in
theorem w_c10 : (Jvm.Cond.code ({ cls := "java/lang/StringUTF16", name := "compress", desc := "([CI[BII)I" } : Jvm.MethodName) jdk_52_method_21_code (7 : Nat) (Option.some Jvm.ClassFile.FieldType.int)).before args0 about1 = true := code_word (m := ⟨10, 3⟩) (meth := k10m3) (c := k10c3) (by decide +kernel) rfl rfl rfl (by decide +kernel)
set_option maxRecDepth 65536 in
theorem w_c11 : (Jvm.Cond.code ({ cls := "java/lang/StringUTF16", name := "coderFromArrayLen", desc := "([BI)B" } : Jvm.MethodName) jdk_52_method_15_code (2 : Nat) (Option.some Jvm.ClassFile.FieldType.byte)).before args0 about1 = true := code_word (m := ⟨10, 1⟩) (meth := k10m1) (c := k10c1) (by decide +kernel) rfl rfl rfl (by decide +kernel)
set_option maxRecDepth 65536 in
theorem w_c12 : (Jvm.Cond.code ({ cls := "java/lang/String", name := "charAt", desc := "(I)C" } : Jvm.MethodName) jdk_42_method_56_code (2 : Nat) (Option.some Jvm.ClassFile.FieldType.char)).before args0 about1 = true := code_word (m := ⟨9, 3⟩) (meth := k9m3) (c := k9c3) (by decide +kernel) rfl rfl rfl (by decide +kernel)
set_option maxRecDepth 65536 in
theorem w_c13 : (Jvm.Cond.code ({ cls := "java/lang/String", name := "isLatin1", desc := "()Z" } : Jvm.MethodName) jdk_42_method_154_code (1 : Nat) (Option.some Jvm.ClassFile.FieldType.boolean)).before args0 about1 = true := code_word (m := ⟨9, 7⟩) (meth := k9m7) (c := k9c7) (by decide +kernel) rfl rfl rfl (by decide +kernel)
set_option maxRecDepth 65536 in
theorem w_c14 : (Jvm.Cond.code ({ cls := "java/lang/StringLatin1", name := "charAt", desc := "([BI)C" } : Jvm.MethodName) jdk_43_method_2_code (2 : Nat) (Option.some Jvm.ClassFile.FieldType.char)).before args0 about1 = true := code_word (m := ⟨11, 1⟩) (meth := k11m1) (c := k11c1) (by decide +kernel) rfl rfl rfl (by decide +kernel)
set_option maxRecDepth 65536 in
theorem w_c15 : (Jvm.Cond.code ({ cls := "java/lang/String", name := "checkIndex", desc := "(II)V" } : Jvm.MethodName) jdk_42_method_155_code (2 : Nat) (Option.none : Option Jvm.ClassFile.FieldType)).before args0 about1 = true := code_word (m := ⟨9, 8⟩) (meth := k9m8) (c := k9c8) (by decide +kernel) rfl rfl rfl (by decide +kernel)
set_option maxRecDepth 65536 in
theorem w_c16 : (Jvm.Cond.code ({ cls := "jdk/internal/util/Preconditions", name := "checkIndex", desc := "(IILjava/util/function/BiFunction;)I" } : Jvm.MethodName) jdk_41_method_11_code (3 : Nat) (Option.some Jvm.ClassFile.FieldType.int)).before args0 about1 = true := code_word (m := ⟨12, 1⟩) (meth := k12m1) (c := k12c1) (by decide +kernel) rfl rfl rfl (by decide +kernel)
set_option maxRecDepth 65536 in
theorem w_c17 : (Jvm.Cond.code ({ cls := "java/lang/String", name := "equals", desc := "(Ljava/lang/Object;)Z" } : Jvm.MethodName) jdk_42_method_66_code (3 : Nat) (Option.some Jvm.ClassFile.FieldType.boolean)).before args0 about1 = true := code_word (m := ⟨9, 4⟩) (meth := k9m4) (c := k9c4) (by decide +kernel) rfl rfl rfl (by decide +kernel)
set_option maxRecDepth 65536 in
theorem w_c18 : (Jvm.Cond.code ({ cls := "java/lang/StringLatin1", name := "equals", desc := "([B[B)Z" } : Jvm.MethodName) jdk_43_method_13_code (3 : Nat) (Option.some Jvm.ClassFile.FieldType.boolean)).before args0 about1 = true := code_word (m := ⟨11, 2⟩) (meth := k11m2) (c := k11c2) (by decide +kernel) rfl rfl rfl (by decide +kernel)
def codes1 : List Jvm.Cond := [Jvm.Cond.code x code maxLocals ret, Jvm.Cond.code ({ cls := "com/example/izin/izin/AttributeDefaultFlagPinLaw", name := "ch", desc := "(JI)C" } : Jvm.MethodName) method_3_code (3 : Nat) (Option.some Jvm.ClassFile.FieldType.char), Jvm.Cond.code ({ cls := "com/example/izin/izin/AttributeDefaultFlagPinLaw", name := "take", desc := "([CI)Ljava/lang/String;" } : Jvm.MethodName) method_4_code (2 : Nat) (Option.some (Jvm.ClassFile.FieldType.object "java/lang/String")), Jvm.Cond.code ({ cls := "java/lang/String", name := "<init>", desc := "([C)V" } : Jvm.MethodName) jdk_42_method_3_code (2 : Nat) (Option.none : Option Jvm.ClassFile.FieldType), Jvm.Cond.code ({ cls := "java/lang/String", name := "<init>", desc := "([CIILjava/lang/Void;)V" } : Jvm.MethodName) jdk_42_method_149_code (6 : Nat) (Option.none : Option Jvm.ClassFile.FieldType), Jvm.Cond.code ({ cls := "java/lang/Object", name := "<init>", desc := "()V" } : Jvm.MethodName) object_method_1_code (1 : Nat) (Option.none : Option Jvm.ClassFile.FieldType), Jvm.Cond.code ({ cls := "java/lang/String", name := "length", desc := "()I" } : Jvm.MethodName) jdk_42_method_54_code (1 : Nat) (Option.some Jvm.ClassFile.FieldType.int), Jvm.Cond.code ({ cls := "java/lang/String", name := "coder", desc := "()B" } : Jvm.MethodName) jdk_42_method_152_code (1 : Nat) (Option.some Jvm.ClassFile.FieldType.byte), Jvm.Cond.code ({ cls := "com/example/izin/izin/Attribute", name := "defaultFlag", desc := "(Ljava/lang/String;)Z" } : Jvm.MethodName) prog_2_method_10_code (2 : Nat) (Option.some Jvm.ClassFile.FieldType.boolean), Jvm.Cond.code ({ cls := "java/lang/StringUTF16", name := "compress", desc := "([CII)[B" } : Jvm.MethodName) jdk_52_method_16_code (6 : Nat) (Option.some (Jvm.ClassFile.FieldType.array Jvm.ClassFile.FieldType.byte)), Jvm.Cond.code ({ cls := "java/lang/StringUTF16", name := "compress", desc := "([CI[BII)I" } : Jvm.MethodName) jdk_52_method_21_code (7 : Nat) (Option.some Jvm.ClassFile.FieldType.int), Jvm.Cond.code ({ cls := "java/lang/StringUTF16", name := "coderFromArrayLen", desc := "([BI)B" } : Jvm.MethodName) jdk_52_method_15_code (2 : Nat) (Option.some Jvm.ClassFile.FieldType.byte), Jvm.Cond.code ({ cls := "java/lang/String", name := "charAt", desc := "(I)C" } : Jvm.MethodName) jdk_42_method_56_code (2 : Nat) (Option.some Jvm.ClassFile.FieldType.char), Jvm.Cond.code ({ cls := "java/lang/String", name := "isLatin1", desc := "()Z" } : Jvm.MethodName) jdk_42_method_154_code (1 : Nat) (Option.some Jvm.ClassFile.FieldType.boolean), Jvm.Cond.code ({ cls := "java/lang/StringLatin1", name := "charAt", desc := "([BI)C" } : Jvm.MethodName) jdk_43_method_2_code (2 : Nat) (Option.some Jvm.ClassFile.FieldType.char), Jvm.Cond.code ({ cls := "java/lang/String", name := "checkIndex", desc := "(II)V" } : Jvm.MethodName) jdk_42_method_155_code (2 : Nat) (Option.none : Option Jvm.ClassFile.FieldType), Jvm.Cond.code ({ cls := "jdk/internal/util/Preconditions", name := "checkIndex", desc := "(IILjava/util/function/BiFunction;)I" } : Jvm.MethodName) jdk_41_method_11_code (3 : Nat) (Option.some Jvm.ClassFile.FieldType.int), Jvm.Cond.code ({ cls := "java/lang/String", name := "equals", desc := "(Ljava/lang/Object;)Z" } : Jvm.MethodName) jdk_42_method_66_code (3 : Nat) (Option.some Jvm.ClassFile.FieldType.boolean), Jvm.Cond.code ({ cls := "java/lang/StringLatin1", name := "equals", desc := "([B[B)Z" } : Jvm.MethodName) jdk_43_method_13_code (3 : Nat) (Option.some Jvm.ClassFile.FieldType.boolean)]
set_option maxRecDepth 65536 in
theorem codes_eq : words1.filter isCode = codes1 := rfl
theorem w_codes : ∀ c ∈ words1.filter isCode, c.before args0 about1 = true := by
  rw [codes_eq]
  intro c hc
  simp only [codes1, List.mem_cons, List.not_mem_nil, or_false] at hc
  rcases hc with rfl | rfl | rfl | rfl | rfl | rfl | rfl | rfl | rfl | rfl | rfl | rfl | rfl | rfl | rfl | rfl | rfl | rfl | rfl
  · exact w_c0
  · exact w_c1
  · exact w_c2
  · exact w_c3
  · exact w_c4
  · exact w_c5
  · exact w_c6
  · exact w_c7
  · exact w_c8
  · exact w_c9
  · exact w_c10
  · exact w_c11
  · exact w_c12
  · exact w_c13
  · exact w_c14
  · exact w_c15
  · exact w_c16
  · exact w_c17
  · exact w_c18
set_option maxRecDepth 65536 in
theorem w_t1 : (words1.take 24).all (fun c => isCode c || c.before args0 about1) = true := by decide +kernel
set_option maxRecDepth 65536 in
theorem w_t2 : ((words1.drop 24).take 24).all (fun c => isCode c || c.before args0 about1) = true := by decide +kernel
set_option maxRecDepth 65536 in
theorem w_t3 : (((words1.drop 24).drop 24).take 24).all (fun c => isCode c || c.before args0 about1) = true := by decide +kernel
set_option maxRecDepth 65536 in
theorem w_t4 : ((((words1.drop 24).drop 24).drop 24).take 24).all (fun c => isCode c || c.before args0 about1) = true := by decide +kernel
set_option maxRecDepth 65536 in
theorem w_t5 : ((((words1.drop 24).drop 24).drop 24).drop 24).all (fun c => isCode c || c.before args0 about1) = true := by decide +kernel
theorem w_tables : (allAtoms (Jvm.Cond.code x code maxLocals ret :: tables_1)).before args0 about1 = true := by
  rw [allAtoms_all]
  show words1.all (fun c => c.before args0 about1) = true
  refine all_split ?_ w_codes
  rw [← List.take_append_drop 24 words1, List.all_append, w_t1, ← List.take_append_drop 24 (words1.drop 24), List.all_append, w_t2, ← List.take_append_drop 24 ((words1.drop 24).drop 24), List.all_append, w_t3, ← List.take_append_drop 24 (((words1.drop 24).drop 24).drop 24), List.all_append, w_t4, w_t5]
  rfl
set_option maxRecDepth 65536 in
theorem w_rest : rest_1_c.before args0 about1 = true := by decide +kernel
set_option maxRecDepth 65536 in
theorem w_case : (Jvm.Cond.and given_1 narrow_1).before args0 about1 = true := by decide +kernel
set_option maxRecDepth 65536 in
theorem w_consts : constsHeld consts_1 about1 := Jvm.Lit.constsHeldB_iff.mp (by decide +kernel)
theorem w_applies : (headSpec (Jvm.Cond.code x code maxLocals ret :: tables_1) room_1).applies x e0.platform about1 = true :=
  (Spec.applies_iff w_frames).mpr ⟨w_running, w_runnable, w_alone, w_named, w_hears, w_ripe, w_room, w_tables⟩
theorem atStart : AtStart classFile x code maxLocals ret World_1 tables_1 room_1 Calls_1 rest_1 Pre_1 launch0 p0 e0 about1 theMethod args0 below0 :=
  ⟨lists_1, trivial, launch0.admits_env _ _ _, launch0.least_env, fairChoices_fair.cas, fairChoices_fair.clock, w_frames, w_args, w_heap, w_applies, ⟨w_consts, trivial⟩, w_rest, w_case⟩
end start1
theorem witness_1 : WitnessClaimed_1 := ⟨start1.p0, start1.e0, start1.about1, start1.theMethod, start1.args0, start1.below0, start1.atStart⟩
end Jvm.Pilot.@@N@@
